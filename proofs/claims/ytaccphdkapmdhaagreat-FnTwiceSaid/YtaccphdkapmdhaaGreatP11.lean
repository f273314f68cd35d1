/- All below an entry is taken out. Heads of tables and expressions, as the tracker checks them. No condition. -/
import Derived.Test.YtaccphdkapmdhaaGreatP10
namespace Go.Proofs.YtaccphdkapmdhaaGreat

section
attribute [local semireducible] WL WC X WD WX
variable {all : List Oper} {Q : Exit → Act → World → Prop} {N : Nat} {L L' : Env} {o : Oper} {rest : List Oper} {w : World} {S : World → Prop}

/-- 'x[:n]', in a region whose order is open. -/
theorem WX.s0 [POk Q] {sz len cap : Nat} {ad : Option Addr} {hi : Option Int} (n' : Nat) (hs : sideX all (o :: rest) = true) (hS : S w) (hg : grd all L o = some true) (h : slA L o.op = some (sz, ad, len, cap, none, hi)) (hhi : hi.getD len = (n' : Int)) (hc : n' ≤ cap)
    (hd : dstE N o (.slice ad n' cap) L = some L') (k : WX all Q N S L' rest w) : WX all Q N S L (o :: rest) w := by
  refine WX.r hs hS hg (fun w' _ a hf => ?_) hd k
  have := slA_run hf h (l := 0) rfl hhi (by omega) hc w'
  rw [this]
  have hz : ∀ a : Addr, a.add 0 = a := fun a => rfl
  cases ad <;> simp [hz]
end
attribute [local irreducible] binOp IntKind.wrap Sem.run

theorem splice_get {l cs : List Value} {o : Nat} (h : o + cs.length ≤ l.length) (k : Nat) : (l.take o ++ cs ++ l.drop (o + cs.length))[k]? = if k < o then l[k]? else if k < o + cs.length then cs[k - o]? else l[k]? := by
  have hl : (l.take o).length = o := by simp; omega
  split
  · rename_i hk
    rw [List.append_assoc, List.getElem?_append_left (by omega), List.getElem?_take, if_pos hk]
  · rename_i hk
    rw [List.append_assoc, List.getElem?_append_right (by omega), hl]
    split
    · rename_i hk2
      rw [List.getElem?_append_left (by omega)]
    · rename_i hk2
      rw [List.getElem?_append_right (by omega), List.getElem?_drop]
      congr 1
      omega

theorem EntIs.fm {B T w w' e xs k} (h : EntIs w e xs k) (hf : Fm B T w w') (hT : 5 ∉ T) : EntIs w' e xs k := by
  obtain ⟨h1, h2, h3, d, h4, h5⟩ := h
  exact ⟨h1, h2, h3, d, h4, h5.fm hf hT⟩

theorem EntIs.other {w : World} {e : Ent} {l cs : List Value} {o k : Nat} (h : EntIs w e l k) (hl : o + cs.length ≤ l.length) (hk : k + 4 ≤ o ∨ o + cs.length ≤ k) : EntIs w e (l.take o ++ cs ++ l.drop (o + cs.length)) k := by
  have key : ∀ (j : Nat) (v : Value), j < 4 → l[k + j]? = some v → (l.take o ++ cs ++ l.drop (o + cs.length))[k + j]? = some v := fun j v hj hv => by
    rw [splice_get hl]
    split
    · exact hv
    · split
      · omega
      · exact hv
  obtain ⟨h1, h2, h3, d, h4, h5⟩ := h
  exact ⟨key 0 _ (by omega) h1, key 1 _ (by omega) h2, key 2 _ (by omega) h3, d, key 3 _ (by omega) h4, h5⟩

theorem EntIs.here {w : World} {e : Ent} {l : List Value} {o : Nat} {d : Value} (hl : o + 4 ≤ l.length) (hd : RB w d e.name) :
    EntIs w e (l.take o ++ [.int .i32 e.parent, .int .u8 e.kind, .bool e.expl, d] ++ l.drop (o + 4)) o := by
  have key : ∀ (j : Nat) (v : Value), [Value.int .i32 e.parent, .int .u8 e.kind, .bool e.expl, d][j]? = some v → (l.take o ++ [Value.int .i32 e.parent, .int .u8 e.kind, .bool e.expl, d] ++ l.drop (o + 4))[o + j]? = some v := fun j v hv => by
    have hj : j < 4 := (List.getElem?_eq_some_iff.1 hv).1
    have := splice_get (l := l) (cs := [Value.int .i32 e.parent, .int .u8 e.kind, .bool e.expl, d]) (o := o) (by simpa using hl) (o + j)
    simp only [List.length_cons, List.length_nil, Nat.zero_add] at this
    rw [this, if_neg (by omega), if_pos (by omega), Nat.add_sub_cancel_left]
    exact hv
  exact ⟨key 0 _ rfl, key 1 _ rfl, key 2 _ rfl, d, key 3 _ rfl, hd⟩

/-- The memory while entries are taken out. -/
structure ClrM (w : World) (tb ge cap g1 n1 g2 n2 cn : Nat) (cu : Int) (es : List Ent) (i : Nat) (c : Clr) : Prop where
  tb : w.heap[tb]? = some (.cells ⟨[.slice (some ⟨ge, 0, none⟩) es.length cap, .int .i32 cu, .slice (some ⟨g1, 0, none⟩) n1 cn, .slice (some ⟨g2, 0, none⟩) n2 cn]⟩ 59 (0, 0))
  row : ∃ cur : List Value, w.heap[ge]? = some (.cells ⟨cur⟩ 145 (0, 0)) ∧ cur.length = cap * 4 ∧ EL w c.out cur ∧ (∀ (j : Nat) (a : Ent), i ≤ j → es[j]? = some a → EntIs w a cur (j * 4))
  gone : ∃ c1 : Array Value, w.heap[g1]? = some (.cells c1 4 (0, 0)) ∧ c1.size = cn ∧ (∀ (j : Nat) (b : Bool), c.gone[j]? = some b → c1[j]? = some (.bool b)) ∧ (∀ j, i ≤ j → j < es.length → c1[j]? = some (.bool false))
  remap : ∃ c2 : Array Value, w.heap[g2]? = some (.cells c2 21 (0, 0)) ∧ c2.size = cn ∧ (∀ (j m : Nat), c.gone[j]? = some false → c.remap[j]? = some m → c2[j]? = some (.int .i32 m))

/-- The buffers are there. -/
def ClrB (tb ge cap : Nat) (cu : Int) (cur : Array Value) (l : Nat) (w : World) (s : Nat × Nat × Nat × Nat × Nat) (w' : World) : Prop :=
  w'.heap[tb]? = some (.cells ⟨[.slice (some ⟨ge, 0, none⟩) l cap, .int .i32 cu, .slice (some ⟨s.1, 0, none⟩) s.2.1 s.2.2.2.2, .slice (some ⟨s.2.2.1, 0, none⟩) s.2.2.2.1 s.2.2.2.2]⟩ 59 (0, 0)) ∧ w'.heap[ge]? = some (.cells cur 145 (0, 0)) ∧ l ≤ s.2.2.2.2 ∧ tb < s.1 ∧ tb < s.2.2.1 ∧
    (∃ c1, w'.heap[s.1]? = some (.cells c1 4 (0, 0)) ∧ c1.size = s.2.2.2.2) ∧ (∃ c2, w'.heap[s.2.2.1]? = some (.cells c2 21 (0, 0)) ∧ c2.size = s.2.2.2.2) ∧ Fm tb [59, 145, 4, 21] w w'

set_option maxRecDepth 100000 in
set_option maxHeartbeats 16000000 in
theorem clear_any (tb id : Nat) (t : Trk) (w : World) (hT : TS w tb t) (hO : Ord t.ents) (hid : id < t.ents.length) (hm : t.ents.length ≤ 1000000000) :
    Calls PP 88 #[.pointer (some ⟨tb, 0, none⟩), .int .i32 (id : Int)] w fun e w' => e = .returned (.tuple #[]) ∧ TS w' tb ⟨clrE id t.ents, t.cur⟩ ∧ Fm tb [59, 145, 4, 21] w w' := by
  obtain ⟨ge, cap, cur, rb, mb, cn, h1, hge, hgb, hc1, hc2, hcs, hN, hB⟩ := hT.open (by omega)
  have hlt := lt_of_heap h1
  have hlt2 := lt_of_heap hgb
  have hrbc : ∃ ar nr, rb = .slice ar nr cn := by
    rcases hB with ⟨h2, rfl, _⟩ | ⟨g1, g2, n1, n2, c1, c2, rfl, _⟩
    · exact ⟨_, _, by rw [h2]⟩
    · exact ⟨_, _, rfl⟩
  obtain ⟨ar, nr, rfl⟩ := hrbc
  have hmbc : ∃ am nm, mb = .slice am nm cn := by
    rcases hB with ⟨h2, _, rfl⟩ | ⟨g1, g2, n1, n2, c1, c2, _, rfl, _⟩
    · exact ⟨_, _, by rw [h2]⟩
    · exact ⟨_, _, rfl⟩
  obtain ⟨am, nm, rfl⟩ := hmbc
  refine enter (L := [(0, .pointer (some ⟨tb, 0, none⟩)), (1, .int .i32 (id : Int))]) Tryz.func88 rfl rfl rfl ⟨rfl, rfl, trivial⟩ ?_
  repeat (first | refine WC.cut (x := .seq _ (.cond _ _ _)) (σ := Nat × Nat × Nat × Nat × Nat) (ClrB tb ge cap t.cur cur t.ents.length w) (fun _ => [(0, .pointer (some ⟨tb, 0, none⟩)), (1, .int .i32 (id : Int))]) ?_ ?_ | refine WC.seq ?_)
  · refine WC.drx (fun w' => w'.heap = w.heap) ?_
    have hd : w.drew.heap = w.heap := rfl
    have k0 : ∀ w' : World, w'.heap = w.heap → w'.cell? ⟨tb, 0, none⟩ = some (.slice (some ⟨ge, 0, none⟩) t.ents.length cap) := fun w' hw => cell_of (by rw [hw]; exact h1) rfl
    have k2 : ∀ w' : World, w'.heap = w.heap → w'.cell? ⟨tb, 2, none⟩ = some (.slice ar nr cn) := fun w' hw => cell_of (by rw [hw]; exact h1) rfl
    repeat (first | refine WX.p (by kernel_rfl) (by first | trivial | assumption) rfl ?_ | refine WX.ld (by kernel_rfl) hd rfl rfl k0 rfl ?_ | refine WX.ld (by kernel_rfl) hd rfl rfl k2 rfl ?_)
    refine WX.nil ?_
    by_cases hcap : cn < t.ents.length
    · have h1d : w.drew.heap[tb]? = _ := h1
      repeat (first | refine WL.pp rfl ?_ | refine WC.sr ?_ | refine WC.dT rfl (by first | omega | decide) ?_ | refine WL.ldB (b := tb) (i := 0) rfl rfl h1d rfl rfl ?_ | refine X.sn ?_)
      refine WL.mk t.ents.length t.ents.length rfl rfl rfl rfl rfl (Nat.le_refl _) (by omega) rfl (fun w3 z hz1 _ hA3 => ?_)
      have hsz3 : w.drew.heap.size = w.heap.size := rfl
      rw [hsz3]
      have h3 := hA3.keep h1d
      have hF3 : Fm tb [59, 145, 4, 21] w w3 := (hA3.fm (by rw [hsz3]; omega)).of_drew
      have hg1 := hA3.at_
      rw [hsz3] at hg1
      repeat (refine WL.pp rfl ?_)
      refine WL.stB rfl rfl rfl h3 rfl rfl (fun w4 hS4 => ?_)
      have h4 := hS4.at_
      have hF4 : Fm tb [59, 145, 4, 21] w w4 := hF3.trans (hS4.fm h3 (Nat.le_refl _) (by simp [tag]) rfl)
      have hg1' := hS4.keep hg1 (by omega)
      repeat (first | refine WL.pp rfl ?_ | refine WL.ns ?_ | refine WL.ldB (b := tb) (i := 0) rfl rfl h4 rfl rfl ?_ | refine WC.reg ?_)
      refine WL.mk t.ents.length t.ents.length rfl rfl rfl rfl rfl (Nat.le_refl _) (by omega) rfl (fun w5 z2 hz2 _ hA5 => ?_)
      have h5 := hA5.keep h4
      have hsz4 : w4.heap.size = w.heap.size + 1 := by rw [hS4.size, hA3.size, hsz3]
      rw [hsz4]
      have hg2 := hA5.at_
      rw [hsz4] at hg2
      have hF5 : Fm tb [59, 145, 4, 21] w w5 := hF4.trans (hA5.fm (by omega))
      have hg1'' := hA5.keep hg1'
      repeat (refine WL.pp rfl ?_)
      refine WL.stB rfl rfl rfl h5 rfl rfl (fun w6 hS6 => ?_)
      repeat (refine WL.nil ?_)
      refine X.cut (w.heap.size, t.ents.length, w.heap.size + 1, t.ents.length, t.ents.length) ⟨hS6.at_, hS6.keep (hA5.keep (hS4.keep (hA3.keep (show w.drew.heap[ge]? = _ from hgb)) (by omega))) (by omega), Nat.le_refl _, by dsimp only; omega, by dsimp only; omega, ⟨_, hS6.keep hg1'' (by dsimp only; omega), by dsimp only; rw [size_madeCells]; omega⟩, ⟨_, hS6.keep hg2 (by dsimp only; omega), by dsimp only; rw [size_madeCells]; omega⟩, hF5.trans (hS6.fm h5 (Nat.le_refl _) (by simp [tag]) rfl)⟩ ⟨rfl, rfl, trivial⟩
    · repeat (first | refine WC.dF rfl (by first | omega | decide) ?_ | refine X.sn ?_ | refine WC.skip ?_)
      rcases hB with ⟨h0, _, _⟩ | ⟨g1, g2, n1, n2, c1, c2, hr, hmm, hg1, hg2, hb1, hb2, hs1, hs2⟩
      · omega
      · simp only [Value.slice.injEq] at hr hmm
        obtain ⟨rfl, rfl, -⟩ := hr
        obtain ⟨rfl, rfl, -⟩ := hmm
        exact X.cut (g1, nr, g2, nm, cn) ⟨h1, hgb, by simp only; omega, hg1, hg2, ⟨_, hb1, hs1⟩, ⟨_, hb2, hs2⟩, (Fm.refl _ _ _).drew⟩ ⟨rfl, rfl, trivial⟩
  · clear hB h1 hT
    rintro ⟨g1, n1, g2, nn2, cn⟩ w1 ⟨h1, hgb, hcn, hg1, hg2, ⟨c1, hb1, hs1⟩, ⟨c2, hb2, hs2⟩, hF⟩
    dsimp only at h1 hcn hg1 hg2 hb1 hs1 hb2 hs2
    have hlt1 : w.heap.size ≤ w1.heap.size := hF.size
    have hd : w1.drew.heap = w1.heap := rfl
    have k0 : ∀ w' : World, w'.heap = w1.heap → w'.cell? ⟨tb, 0, none⟩ = some (.slice (some ⟨ge, 0, none⟩) t.ents.length cap) := fun w' hw => cell_of (by rw [hw]; exact h1) rfl
    have k2 : ∀ w' : World, w'.heap = w1.heap → w'.cell? ⟨tb, 2, none⟩ = some (.slice (some ⟨g1, 0, none⟩) n1 cn) := fun w' hw => cell_of (by rw [hw]; exact h1) rfl
    have k3 : ∀ w' : World, w'.heap = w1.heap → w'.cell? ⟨tb, 3, none⟩ = some (.slice (some ⟨g2, 0, none⟩) nn2 cn) := fun w' hw => cell_of (by rw [hw]; exact h1) rfl
    repeat (refine WC.seq ?_)
    refine WC.drx (fun w' => w'.heap = w1.heap) ?_
    repeat (first | refine WX.p (by kernel_rfl) (by first | trivial | assumption) rfl ?_ | refine WX.ld (by kernel_rfl) hd rfl rfl k0 rfl ?_ | refine WX.ld (by kernel_rfl) hd rfl rfl k2 rfl ?_ | refine WX.s0 t.ents.length (by kernel_rfl) hd rfl rfl rfl hcn rfl ?_)
    refine WX.nil ?_
    repeat (first | refine WC.seq ?_ | refine X.sn ?_)
    refine WC.drx (fun w' => w'.heap = w1.heap) ?_
    have hd2 : w1.drew.drew.heap = w1.heap := rfl
    repeat (first | refine WX.p (by kernel_rfl) (by first | trivial | assumption) rfl ?_ | refine WX.ld (by kernel_rfl) hd2 rfl rfl k0 rfl ?_ | refine WX.ld (by kernel_rfl) hd2 rfl rfl k3 rfl ?_ | refine WX.s0 t.ents.length (by kernel_rfl) hd2 rfl rfl rfl hcn rfl ?_)
    refine WX.nil ?_
    have hF2 : Fm tb [59, 145, 4, 21] w w1.drew.drew := hF.drew.drew
    generalize hw2 : w1.drew.drew = w2 at *
    have hh2 : w2.heap = w1.heap := by rw [← hw2]; rfl
    rw [← hh2] at h1 hgb hb1 hb2
    clear hw2 hh2 hd hd2 k0 k2 k3 hF hlt1
    repeat (first | refine WL.pp rfl ?_ | refine WL.ns ?_ | refine WC.sr ?_ | refine WC.seq ?_ | refine WC.block ?_ | refine X.sn ?_)
    refine WC.loop (σ := Nat) (I := fun k w' => w'.heap[tb]? = some (.cells ⟨[.slice (some ⟨ge, 0, none⟩) t.ents.length cap, .int .i32 (t.cur : Int), .slice (some ⟨g1, 0, none⟩) n1 cn, .slice (some ⟨g2, 0, none⟩) nn2 cn]⟩ 59 (0, 0)) ∧ w'.heap[ge]? = some (.cells cur 145 (0, 0)) ∧
      (∃ c1, w'.heap[g1]? = some (.cells c1 4 (0, 0)) ∧ c1.size = cn ∧ ∀ j, j < k → c1[j]? = some (.bool false)) ∧ (∃ c2, w'.heap[g2]? = some (.cells c2 21 (0, 0)) ∧ c2.size = cn) ∧ Fm tb [59, 145, 4, 21] w w' ∧ k ≤ t.ents.length)
      (m := fun k => t.ents.length - k) (Lf := fun k => [(0, .pointer (some ⟨tb, 0, none⟩)), (1, .int .i32 (id : Int)), (4, .slice (some ⟨g1, 0, none⟩) t.ents.length cn), (5, .slice (some ⟨g2, 0, none⟩) t.ents.length cn), (61, .int .i64 (t.ents.length : Int)), (62, .int .i64 (k : Int))])
      0 ⟨h1, hgb, ⟨_, hb1, hs1, fun j hj => by omega⟩, ⟨_, hb2, hs2⟩, hF2, Nat.zero_le _⟩ ⟨rfl, rfl, rfl, rfl, rfl, rfl, trivial⟩ ?_
    clear h1 hgb hb1 hb2 hF2 hs1 hs2 c1 c2
    rintro k w3 ⟨h1, hgb, ⟨c1, hb1, hs1, hz1⟩, ⟨c2, hb2, hs2⟩, hF, hk⟩
    by_cases hkl : k < t.ents.length
    · have hck : c1[k]? = some c1[k] := Array.getElem?_eq_getElem (by omega)
      repeat (first | refine WL.pp rfl ?_ | refine WL.ns ?_ | refine WC.sr ?_ | refine WC.dT rfl (by first | omega | decide) ?_ | refine WL.ix (i := k) rfl rfl rfl hkl (by rw [Nat.zero_add, Nat.mul_one]; rfl) ?_ | refine WC.seq ?_ | refine WC.reg ?_ | refine WC.block ?_ | refine X.sn ?_ | refine WC.skip ?_)
      refine WL.stB rfl rfl rfl hb1 hck rfl (fun w4 hS4 => ?_)
      have hne : g1 ≠ ge := by
        rintro rfl
        rw [hb1] at hgb
        cases hgb
      have hne2 : g1 ≠ g2 := by
        rintro rfl
        rw [hb1] at hb2
        cases hb2
      repeat (first | refine WL.pp rfl ?_ | refine WC.reg ?_ | refine WL.nil ?_ | refine X.sn ?_ | refine X.bn ?_ | refine WL.ad rfl rfl (by omega) rfl ?_)
      refine X.again (k + 1) ⟨hS4.keep h1 (by omega), hS4.keep hgb (Ne.symm hne), ⟨_, hS4.at_, by rw [Array.size_setIfInBounds]; exact hs1, fun j hj => ?_⟩, ⟨_, hS4.keep hb2 (Ne.symm hne2), hs2⟩, hF.trans (hS4.fm hb1 (by omega) (by simp [tag]) rfl), by omega⟩ (by omega) ⟨rfl, rfl, rfl, rfl, rfl, rfl, trivial⟩
      by_cases hjk : k = j
      · subst hjk
        rw [Array.getElem?_setIfInBounds_self]
        simp; omega
      · rw [Array.getElem?_setIfInBounds_ne hjk]
        exact hz1 j (by omega)
    · have hkl' : k = t.ents.length := by omega
      subst hkl'
      have hM0 : ClrM w3 tb ge cap g1 n1 g2 nn2 cn t.cur t.ents 0 ⟨[], [], []⟩ := by
        refine ⟨h1, ⟨cur.toList, hgb, by simpa using hcs, fun i e h => by simp at h, fun j a _ ha => (hN j a ha).fm hF (by simp)⟩, ⟨c1, hb1, hs1, fun j b h => by simp at h, fun j _ hj => hz1 j hj⟩, ⟨c2, hb2, hs2, fun j m h => by simp at h⟩⟩
      clear h1 hgb hb1 hb2 hs1 hs2 hz1 c1 c2
      repeat (first | refine WL.pp rfl ?_ | refine WL.ns ?_ | refine WC.sr ?_ | refine WC.dF rfl (by first | omega | decide) ?_ | refine WC.seq ?_ | refine WC.block ?_ | refine X.sn ?_ | refine X.sx ?_ | refine X.bx ?_ | refine WC.exit ?_)
      refine WC.loop (σ := Nat × Clr) (I := fun s w' => ClrM w' tb ge cap g1 n1 g2 nn2 cn t.cur t.ents s.1 s.2 ∧ ClrOk id t.ents s.1 s.2 ∧ s.1 ≤ t.ents.length ∧ (t.ents.drop s.1).foldl (clrOne id) s.2 = t.ents.foldl (clrOne id) ⟨[], [], []⟩ ∧ Fm tb [59, 145, 4, 21] w w')
        (m := fun s => t.ents.length - s.1) (Lf := fun s => [(0, .pointer (some ⟨tb, 0, none⟩)), (1, .int .i32 (id : Int)), (4, .slice (some ⟨g1, 0, none⟩) t.ents.length cn), (5, .slice (some ⟨g2, 0, none⟩) t.ents.length cn), (7, .int .i32 (s.2.out.length : Int)), (8, .int .i64 (s.1 : Int))])
        (0, ⟨[], [], []⟩) ⟨hM0, clr_zero _ _, Nat.zero_le _, rfl, hF⟩ ⟨rfl, rfl, rfl, rfl, rfl, rfl, trivial⟩ ?_
      clear hM0 hF
      rintro ⟨i, c⟩ w4 ⟨hM, hC, hi, hfold, hF⟩
      dsimp only at hM hC hi hfold ⊢
      obtain ⟨m1, ⟨cu, m2, m2l, m2E, m2R⟩, ⟨c1, m3, m3s, m3G, m3F⟩, ⟨c2, m4, m4s, m4R⟩⟩ := hM
      have hCg := hC.gone
      have hCr := hC.remap
      have hCo := hC.out
      have hne1 : g1 ≠ ge := by
        rintro rfl
        rw [m3] at m2
        cases m2
      have hne2 : g1 ≠ g2 := by
        rintro rfl
        rw [m3] at m4
        cases m4
      have hne3 : g2 ≠ ge := by
        rintro rfl
        rw [m4] at m2
        cases m2
      by_cases hil : i < t.ents.length
      · obtain ⟨e, he⟩ : ∃ e, t.ents[i]? = some e := ⟨_, List.getElem?_eq_getElem hil⟩
        have hdr : t.ents.drop i = e :: t.ents.drop (i + 1) := by
          rw [List.getElem?_eq_some_iff] at he
          obtain ⟨_, rfl⟩ := he
          exact List.drop_eq_getElem_cons hil
        rw [hdr, List.foldl_cons] at hfold
        obtain ⟨o1, o2, o3, o4⟩ := hO i e he
        have hstep := hC.step hO he
        obtain ⟨q1, q2, q3, d, q4, q5⟩ := m2R i e (Nat.le_refl _) he
        have x0 : w4.cell? ⟨ge, i * 4, none⟩ = some (.int .i32 e.parent) := cell_of m2 (by simpa using q1)
        have x1 : w4.cell? ⟨ge, i * 4 + 1, none⟩ = some (.int .u8 e.kind) := cell_of m2 (by simpa using q2)
        repeat (first | refine WL.pp rfl ?_ | refine WL.ns ?_ | refine WC.sr ?_ | refine WC.dT rfl (by first | omega | decide) ?_ | refine WL.ldB (b := tb) (i := 0) rfl rfl m1 rfl rfl ?_ | refine WL.ix (i := i) rfl rfl rfl hil (by rw [Nat.zero_add]; rfl) ?_ | refine WC.seq ?_ | refine WC.block ?_ | refine X.sn ?_ | refine WC.skip ?_)
        refine WL.ld rfl rfl x0 rfl ?_
        refine WL.pp rfl ?_
        refine WL.ns ?_
        refine WC.seq ?_
        refine WC.cut (x := .region _ _ _) (σ := Bool) (fun b w' => w' = w4 ∧ (b = true ↔ (e.parent ≥ 0 ∧ ((e.parent = (id : Int) ∧ e.kind ≠ 0) ∨ c.gone.getD e.parent.toNat false = true)))) (fun b => [(0, .pointer (some ⟨tb, 0, none⟩)), (1, .int .i32 (id : Int)), (4, .slice (some ⟨g1, 0, none⟩) t.ents.length cn), (5, .slice (some ⟨g2, 0, none⟩) t.ents.length cn), (7, .int .i32 (c.out.length : Int)), (8, .int .i64 (i : Int)), (109, .bool b)]) ?_ ?_
        · by_cases hp0 : 0 ≤ e.parent
          · by_cases hpi : e.parent = (id : Int)
            · repeat (first | refine WL.pp rfl ?_ | refine WL.ldB (b := tb) (i := 0) rfl rfl m1 rfl rfl ?_ | refine WL.ix (i := i) rfl rfl rfl hil (by rw [Nat.zero_add]; rfl) ?_ | refine WL.ld rfl rfl x1 rfl ?_ | refine WL.p rfl ?_ | refine WC.reg ?_ | refine WL.nil ?_ | refine WL.gT rfl rfl (by first | omega | decide) ?_)
              exact X.cut true ⟨rfl, by simp [hp0, hpi, o4]⟩ ⟨rfl, rfl, rfl, rfl, rfl, rfl, rfl, trivial⟩
            · obtain ⟨p, hp⟩ : ∃ p : Nat, e.parent = (p : Int) := ⟨e.parent.toNat, by omega⟩
              have hpl : p < c.gone.length := by omega
              have hpg : c.gone[p]? = some c.gone[p] := List.getElem?_eq_getElem hpl
              have x5 : w4.cell? ⟨g1, p, none⟩ = some (.bool c.gone[p]) := cell_of m3 (m3G p _ hpg)
              have hgd : c.gone.getD e.parent.toNat false = c.gone[p] := by rw [hp, Int.toNat_natCast, List.getD_eq_getElem?_getD, hpg]; rfl
              rw [hgd]
              generalize c.gone[p] = b at x5
              repeat (first | refine WL.pp rfl ?_ | refine WL.ix (i := p) rfl rfl hp (by omega) (by rw [Nat.zero_add, Nat.mul_one]; rfl) ?_ | refine WL.ld rfl rfl x5 rfl ?_ | refine WL.p rfl ?_ | refine WC.reg ?_ | refine WL.nil ?_ | refine WL.gT rfl rfl (by first | omega | decide) ?_ | refine WL.gF rfl rfl (by first | omega | decide) ?_)
              exact X.cut b ⟨rfl, by simp [hp0, hpi]⟩ ⟨rfl, rfl, rfl, rfl, rfl, rfl, rfl, trivial⟩
          · repeat (first | refine WL.pp rfl ?_ | refine WL.p rfl ?_ | refine WC.reg ?_ | refine WL.nil ?_ | refine WL.gF rfl rfl (by first | omega | decide) ?_)
            exact X.cut false ⟨rfl, by simp [hp0]⟩ ⟨rfl, rfl, rfl, rfl, rfl, rfl, rfl, trivial⟩
        · rintro b w5 ⟨rfl, hb⟩
          cases b with
          | true =>
            have hcl : clrOne id c e = ⟨c.out, c.remap ++ [0], c.gone ++ [true]⟩ := if_pos (hb.1 rfl)
            have hci : c1[i]? = some c1[i] := Array.getElem?_eq_getElem (by omega)
            repeat (first | refine WL.pp rfl ?_ | refine WC.sr ?_ | refine WC.bT rfl (by first | with_reducible rfl | exact Bool.not_false) ?_ | refine WL.ix (i := i) rfl rfl rfl hil (by rw [Nat.zero_add, Nat.mul_one]; rfl) ?_)
            refine WL.stB rfl rfl rfl m3 hci rfl (fun w6 hS6 => ?_)
            have hF6 : Fm tb [59, 145, 4, 21] w5 w6 := hS6.fm m3 (by omega) (by simp [tag]) rfl
            repeat (first | refine WL.pp rfl ?_ | refine WL.ns ?_ | refine WC.reg ?_ | refine WL.nil ?_ | refine X.sn ?_ | refine X.sx ?_ | refine X.bx ?_ | refine WC.exit ?_ | refine WL.ad rfl rfl (by omega) rfl ?_)
            rw [hcl] at hstep hfold
            refine X.again (i + 1, ⟨c.out, c.remap ++ [0], c.gone ++ [true]⟩) ⟨⟨hS6.keep m1 (by omega), ⟨cu, hS6.keep m2 (Ne.symm hne1), m2l, m2E.fm hF6 (by simp), fun j a hj ha => (m2R j a (by omega) ha).fm hF6 (by simp)⟩,
              ⟨_, hS6.at_, by rw [Array.size_setIfInBounds]; exact m3s, fun j b hj => ?_, fun j hj hjl => ?_⟩, ⟨c2, hS6.keep m4 (Ne.symm hne2), m4s, fun j m hj hm => ?_⟩⟩, hstep, by dsimp only; omega, hfold, hF.trans hF6⟩ (by dsimp only; omega) ⟨rfl, rfl, rfl, rfl, rfl, rfl, trivial⟩
            · by_cases hij : i = j
              · subst hij
                rw [List.getElem?_append_right (by omega), hCg, Nat.sub_self] at hj
                simp only [List.getElem?_cons_zero, Option.some.injEq] at hj
                subst hj
                rw [Array.getElem?_setIfInBounds_self]
                simp; omega
              · rw [Array.getElem?_setIfInBounds_ne hij]
                have hjl := (List.getElem?_eq_some_iff.1 hj).1
                simp only [List.length_append, List.length_singleton] at hjl
                rw [List.getElem?_append_left (by omega)] at hj
                exact m3G j b hj
            · rw [Array.getElem?_setIfInBounds_ne (by omega)]
              exact m3F j (by omega) hjl
            · have hjl := (List.getElem?_eq_some_iff.1 hj).1
              simp only [List.length_append, List.length_singleton] at hjl
              by_cases hij : j = i
              · subst hij
                rw [List.getElem?_append_right (by omega), hCg, Nat.sub_self] at hj
                simp at hj
              · rw [List.getElem?_append_left (by omega)] at hj hm
                exact m4R j m hj hm
          | false =>
            have hcl : clrOne id c e = ⟨c.out ++ [if c.out.length = c.gone.length then e else { e with parent := (c.remap.getD e.parent.toNat 0 : Nat) }], c.remap ++ [c.out.length], c.gone ++ [false]⟩ := if_neg (fun h => by have := hb.2 h; cases this)
            have hci : c2[i]? = some c2[i] := Array.getElem?_eq_getElem (by omega)
            repeat (first | refine WL.pp rfl ?_ | refine WC.sr ?_ | refine WC.bF rfl (by first | with_reducible rfl | exact Bool.not_true) ?_ | refine WL.ix (i := i) rfl rfl rfl hil (by rw [Nat.zero_add, Nat.mul_one]; rfl) ?_ | refine X.sn ?_ | refine WC.skip ?_)
            refine WL.stB rfl rfl rfl m4 hci rfl (fun w6 hS6 => ?_)
            have hF6 : Fm tb [59, 145, 4, 21] w5 w6 := hS6.fm m4 (by omega) (by simp [tag]) rfl
            have n1' := hS6.keep m1 (by omega)
            have n2 := hS6.keep m2 (Ne.symm hne3)
            have n3 := hS6.keep m3 hne2
            have n4 := hS6.at_
            have hG : ∀ (j : Nat) (b : Bool), (c.gone ++ [false])[j]? = some b → c1[j]? = some (.bool b) := fun j b hj => by
              have hjl := (List.getElem?_eq_some_iff.1 hj).1
              simp only [List.length_append, List.length_singleton] at hjl
              by_cases hij : j = i
              · subst hij
                rw [List.getElem?_append_right (by omega), hCg, Nat.sub_self] at hj
                simp only [List.getElem?_cons_zero, Option.some.injEq] at hj
                subst hj
                exact m3F j (Nat.le_refl _) hil
              · rw [List.getElem?_append_left (by omega)] at hj
                exact m3G j b hj
            have hR : ∀ (j m : Nat), (c.gone ++ [false])[j]? = some false → (c.remap ++ [c.out.length])[j]? = some m → (c2.setIfInBounds i (.int .i32 (c.out.length : Int)))[j]? = some (.int .i32 m) := fun j m hj hm => by
              have hjl := (List.getElem?_eq_some_iff.1 hj).1
              simp only [List.length_append, List.length_singleton] at hjl
              by_cases hij : j = i
              · subst hij
                rw [List.getElem?_append_right (by omega), hCr, Nat.sub_self] at hm
                simp only [List.getElem?_cons_zero, Option.some.injEq] at hm
                subst hm
                rw [Array.getElem?_setIfInBounds_self]
                simp; omega
              · rw [List.getElem?_append_left (by omega)] at hj hm
                rw [Array.getElem?_setIfInBounds_ne (by omega)]
                exact m4R j m hj hm
            have hsz6 : (c2.setIfInBounds i (.int .i32 (c.out.length : Int))).size = cn := by rw [Array.size_setIfInBounds]; exact m4s
            have hq5 := q5.fm hF6 (by simp)
            have hE6 := m2E.fm hF6 (by simp)
            have hR6 : ∀ (j : Nat) (a : Ent), i ≤ j → t.ents[j]? = some a → EntIs w6 a cu (j * 4) := fun j a hj ha => (m2R j a hj ha).fm hF6 (by simp)
            by_cases hni : c.out.length = i
            · have e1 : clrOne id c e = ⟨c.out ++ [e], c.remap ++ [c.out.length], c.gone ++ [false]⟩ := by rw [hcl, if_pos (by omega)]
              rw [e1] at hstep hfold
              repeat (first | refine WL.pp rfl ?_ | refine WL.ns ?_ | refine WC.sr ?_ | refine WC.dF rfl (by first | omega | decide) ?_ | refine WL.ad32 rfl rfl (by omega) rfl ?_ | refine WC.seq ?_ | refine WC.reg ?_ | refine WL.nil ?_ | refine X.sn ?_ | refine X.bn ?_ | refine WC.skip ?_ | refine WL.ad rfl rfl (by omega) rfl ?_ | refine WL.cv rfl rfl (wrap_i32 (by omega)) rfl ?_)
              refine X.again (i + 1, ⟨c.out ++ [e], c.remap ++ [c.out.length], c.gone ++ [false]⟩) ⟨⟨n1', ⟨cu, n2, m2l, ?_, fun j a hj ha => hR6 j a (by omega) ha⟩, ⟨_, n3, m3s, hG, fun j hj hjl => m3F j (by omega) hjl⟩, ⟨_, n4, hsz6, hR⟩⟩, hstep, by dsimp only; omega, hfold, hF.trans hF6⟩ (by dsimp only; omega) ⟨rfl, rfl, rfl, rfl, by rw [show (((i + 1, (⟨c.out ++ [e], c.remap ++ [c.out.length], c.gone ++ [false]⟩ : Clr)).2.out.length : Nat) : Int) = (c.out.length : Int) + 1 by simp]; rfl, rfl, trivial⟩
              intro j a ha
              by_cases hj : j < c.out.length
              · rw [List.getElem?_append_left hj] at ha
                exact hE6 j a ha
              · have hj' : j = i := by
                  have := (List.getElem?_eq_some_iff.1 ha).1
                  simp at this; omega
                subst hj'
                rw [List.getElem?_append_right (by omega), hni, Nat.sub_self] at ha
                simp only [List.getElem?_cons_zero, Option.some.injEq] at ha
                subst ha
                exact hR6 j _ (Nat.le_refl _) he
            · have hp0 : 0 ≤ e.parent := by
                rcases o2 with o2 | o2
                · omega
                · exact o2
              obtain ⟨p, hp⟩ : ∃ p : Nat, e.parent = (p : Int) := ⟨e.parent.toNat, by omega⟩
              have hpl : p < c.gone.length := by omega
              have hpg0 : c.gone[p]? = some c.gone[p] := List.getElem?_eq_getElem hpl
              have hpg : c.gone[p]? = some false := by
                cases hx : c.gone[p] with
                | false => rw [hpg0, hx]
                | true =>
                  have := hb.2 ⟨hp0, .inr (by rw [hp, Int.toNat_natCast, List.getD_eq_getElem?_getD, hpg0, hx]; rfl)⟩
                  cases this
              obtain ⟨m, hpm, hmn⟩ := hC.keep p hpg
              have hgm : c.remap.getD e.parent.toNat 0 = m := by rw [hp, Int.toNat_natCast, List.getD_eq_getElem?_getD, hpm]; rfl
              have e1 : clrOne id c e = ⟨c.out ++ [{ e with parent := (m : Int) }], c.remap ++ [c.out.length], c.gone ++ [false]⟩ := by rw [hcl, if_neg (by omega), hgm]
              rw [e1] at hstep hfold
              have xr : w6.cell? ⟨g2, p, none⟩ = some (.int .i32 m) := cell_of n4 (hR p m (by rw [List.getElem?_append_left (by omega)]; exact hpg) (by rw [List.getElem?_append_left (by omega)]; exact hpm))
              have hdv : oneV d = true := by obtain ⟨_, _, rfl, _⟩ := hq5; rfl
              have hcells : ∀ (j : Nat) (u : Value), [Value.int .i32 e.parent, .int .u8 e.kind, .bool e.expl, d][j]? = some u → w6.cell? ⟨ge, i * 4 + j, none⟩ = some u := fun j u hu => by
                refine cell_of n2 ?_
                rw [List.getElem?_toArray]
                match j, hu with
                | 0, hu => simp only [List.getElem?_cons_zero, Option.some.injEq] at hu; subst hu; exact q1
                | 1, hu => simp only [List.getElem?_cons_succ, List.getElem?_cons_zero, Option.some.injEq] at hu; subst hu; exact q2
                | 2, hu => simp only [List.getElem?_cons_succ, List.getElem?_cons_zero, Option.some.injEq] at hu; subst hu; exact q3
                | 3, hu => simp only [List.getElem?_cons_succ, List.getElem?_cons_zero, Option.some.injEq] at hu; subst hu; exact q4
                | j + 4, hu => simp at hu
              repeat (first | refine WL.pp rfl ?_ | refine WL.ns ?_ | refine WC.sr ?_ | refine WC.dT rfl (by first | omega | decide) ?_ | refine WL.ldB (b := tb) (i := 0) rfl rfl n1' rfl rfl ?_ | refine WL.ix (i := i) rfl rfl rfl hil (by rw [Nat.zero_add]; rfl) ?_ | refine WL.lg (cs := [.int .i32 e.parent, .int .u8 e.kind, .bool e.expl, d]) rfl rfl rfl hcells rfl ?_ | refine WC.seq ?_ | refine WL.cv rfl rfl (wrap_i32 (by omega)) rfl ?_)
              refine WL.al rfl rfl rfl (fun w7 hA7 => ?_)
              refine WL.sg rfl rfl rfl (by simpa [oneV] using hdv) hA7.at_ (by simp) rfl (fun w8 hS8 => ?_)
              have hF8 : Fm tb [59, 145, 4, 21] w6 w8 := (hA7.fm (by have := hF6.size; have := hF.size; omega)).trans (hS8.fm hA7.at_ (by have := hF6.size; have := hF.size; omega) (by simp [tag]) rfl)
              have hge6 := lt_of_heap n2
              have htb6 := lt_of_heap n1'
              have hg16 := lt_of_heap n3
              have hg26 := lt_of_heap n4
              generalize heb : w6.heap.size = eb at *
              have r1 := hS8.keep (hA7.keep n1') (by omega)
              have r2 := hS8.keep (hA7.keep n2) (by omega)
              have r3 := hS8.keep (hA7.keep n3) (by omega)
              have r4 := hS8.keep (hA7.keep n4) (by omega)
              have r5 := hS8.at_
              simp only [List.take_zero, List.nil_append, Nat.zero_add, List.drop_succ_cons, List.drop_nil, List.append_nil, List.drop_zero] at r5
              have xr8 : w8.cell? ⟨g2, p, none⟩ = some (.int .i32 m) := cell_of r4 (hR p m (by rw [List.getElem?_append_left (by omega)]; exact hpg) (by rw [List.getElem?_append_left (by omega)]; exact hpm))
              clear hS8 hA7
              repeat (first | refine WL.pp rfl ?_ | refine WL.ns ?_ | refine WC.sr ?_ | refine WL.ldB (b := eb) (i := 0) rfl rfl r5 rfl rfl ?_ | refine WL.ix (i := p) rfl rfl hp (by omega) (by rw [Nat.zero_add, Nat.mul_one]; rfl) ?_ | refine WL.ld rfl rfl xr8 rfl ?_)
              refine WL.stB rfl rfl rfl r5 rfl rfl (fun w9 hS9 => ?_)
              have s1 := hS9.keep r1 (by omega)
              have s2 := hS9.keep r2 (by omega)
              have s3 := hS9.keep r3 (by omega)
              have s4 := hS9.keep r4 (by omega)
              have s5 : w9.heap[eb]? = some (.cells ⟨[.int .i32 m, .int .u8 e.kind, .bool e.expl, d]⟩ 145 (0, 0)) := hS9.at_
              have hF9 : Fm tb [59, 145, 4, 21] w6 w9 := hF8.trans (hS9.fm r5 (by omega) (by simp [tag]) rfl)
              clear hS9 r1 r2 r3 r4 r5 xr8 hF8
              repeat (refine WL.ns ?_)
              refine WC.drx (fun w' => w'.heap[tb]? = some (.cells ⟨[.slice (some ⟨ge, 0, none⟩) t.ents.length cap, .int .i32 (t.cur : Int), .slice (some ⟨g1, 0, none⟩) n1 cn, .slice (some ⟨g2, 0, none⟩) nn2 cn]⟩ 59 (0, 0)) ∧ w'.heap[eb]? = some (.cells ⟨[.int .i32 m, .int .u8 e.kind, .bool e.expl, d]⟩ 145 (0, 0))) ?_
              have hSd : w9.drew.heap[tb]? = some (.cells ⟨[.slice (some ⟨ge, 0, none⟩) t.ents.length cap, .int .i32 (t.cur : Int), .slice (some ⟨g1, 0, none⟩) n1 cn, .slice (some ⟨g2, 0, none⟩) nn2 cn]⟩ 59 (0, 0)) ∧ w9.drew.heap[eb]? = some (.cells ⟨[.int .i32 m, .int .u8 e.kind, .bool e.expl, d]⟩ 145 (0, 0)) := ⟨s1, s5⟩
              have hnl : c.out.length * 4 + 4 ≤ cu.length := by omega
              repeat (first | refine WX.p (by kernel_rfl) (by first | trivial | assumption) rfl ?_ | refine WX.ld (by kernel_rfl) hSd rfl rfl (fun w' hw' => cell_of (b := tb) (i := 0) hw'.1 rfl) rfl ?_ | refine WX.lg (cs := [.int .i32 m, .int .u8 e.kind, .bool e.expl, d]) (by kernel_rfl) hSd rfl rfl rfl (fun w' hw' => cells_block hw'.2 rfl) rfl ?_ | refine WX.ix (i := c.out.length) (by kernel_rfl) hSd rfl rfl rfl (by omega) (by rw [Nat.zero_add]; rfl) ?_)
              refine WX.sg (by kernel_rfl) rfl rfl rfl (by simpa [oneV] using hdv) (show w9.drew.heap[ge]? = some (.cells ⟨cu⟩ 145 (0, 0)) from s2) hnl rfl (fun w10 hS10 => ⟨⟨hS10.keep (show w9.drew.heap[tb]? = _ from s1) (by omega), hS10.keep (show w9.drew.heap[eb]? = _ from s5) (by omega)⟩, ?_⟩)
              have hF10 : Fm tb [59, 145, 4, 21] w6 w10 := hF9.drew.trans (hS10.fm (show w9.drew.heap[ge]? = some (.cells ⟨cu⟩ 145 (0, 0)) from s2) (by omega) (by simp [tag]) rfl)
              refine WX.nil ?_
              repeat (first | refine WL.pp rfl ?_ | refine WL.ad32 rfl rfl (by omega) rfl ?_ | refine WC.reg ?_ | refine WL.nil ?_ | refine X.sn ?_ | refine X.bn ?_ | refine WL.ad rfl rfl (by omega) rfl ?_)
              have hlcs : [Value.int .i32 m, .int .u8 e.kind, .bool e.expl, d].length = 4 := rfl
              refine X.again (i + 1, ⟨c.out ++ [{ e with parent := (m : Int) }], c.remap ++ [c.out.length], c.gone ++ [false]⟩) ⟨⟨hS10.keep (show w9.drew.heap[tb]? = _ from s1) (by omega), ⟨_, hS10.at_, by simp only [List.length_append, List.length_take, List.length_drop, hlcs]; omega, ?_, fun j a hj ha => ?_⟩, ⟨_, hS10.keep (show w9.drew.heap[g1]? = _ from s3) hne1, m3s, hG, fun j hj hjl => m3F j (by omega) hjl⟩, ⟨_, hS10.keep (show w9.drew.heap[g2]? = _ from s4) hne3, hsz6, hR⟩⟩, hstep, by dsimp only; omega, hfold, (hF.trans hF6).trans hF10⟩ (by dsimp only; omega) ⟨rfl, rfl, rfl, rfl, by rw [show (((i + 1, (⟨c.out ++ [{ e with parent := (m : Int) }], c.remap ++ [c.out.length], c.gone ++ [false]⟩ : Clr)).2.out.length : Nat) : Int) = (c.out.length : Int) + 1 by simp]; rfl, rfl, trivial⟩
              · intro j a ha
                by_cases hj : j < c.out.length
                · rw [List.getElem?_append_left hj] at ha
                  exact ((hE6 j a ha).fm hF10 (by simp)).other (cs := [Value.int .i32 m, .int .u8 e.kind, .bool e.expl, d]) (by rw [hlcs]; exact hnl) (.inl (by omega))
                · have hj' : j = c.out.length := by
                    have := (List.getElem?_eq_some_iff.1 ha).1
                    simp at this; omega
                  subst hj'
                  rw [List.getElem?_append_right (Nat.le_refl _), Nat.sub_self] at ha
                  simp only [List.getElem?_cons_zero, Option.some.injEq] at ha
                  subst ha
                  exact EntIs.here (e := { e with parent := (m : Int) }) hnl (hq5.fm hF10 (by simp))
              · exact ((hR6 j a (by omega) ha).fm hF10 (by simp)).other (cs := [Value.int .i32 m, .int .u8 e.kind, .bool e.expl, d]) (by rw [hlcs]; exact hnl) (.inr (by rw [hlcs]; omega))
      · have hie : i = t.ents.length := by omega
        rw [List.drop_eq_nil_of_le (by omega)] at hfold
        simp only [List.foldl_nil] at hfold
        have hout : clrE id t.ents = c.out := by unfold clrE; rw [← hfold]
        rw [hout]
        repeat (first | refine WL.pp rfl ?_ | refine WL.ns ?_ | refine WC.sr ?_ | refine WC.dF rfl (by first | omega | decide) ?_ | refine WL.ldB (b := tb) (i := 0) rfl rfl m1 rfl rfl ?_ | refine WL.s0 c.out.length rfl rfl rfl (by omega) rfl ?_ | refine WC.seq ?_ | refine WC.reg ?_ | refine X.sn ?_ | refine X.sx ?_ | refine X.bx ?_ | refine WC.exit ?_)
        refine WL.stB rfl rfl rfl m1 rfl rfl (fun w5 hS5 => ?_)
        repeat (refine WL.nil ?_)
        have hF5 : Fm tb [59, 145, 4, 21] w4 w5 := hS5.fm m1 (Nat.le_refl _) (by simp [tag]) rfl
        refine X.end_ rfl rfl ⟨rfl, ⟨.slice (some ⟨ge, 0, none⟩) c.out.length cap, cu.take (c.out.length * 4), .slice (some ⟨g1, 0, none⟩) n1 cn, .slice (some ⟨g2, 0, none⟩) nn2 cn, cn, hS5.at_, ⟨?_, .inr ⟨ge, cap, ⟨cu⟩, rfl, by omega, hS5.keep m2 (by omega), by dsimp only; omega, hc2, m2l, rfl⟩⟩, ?_, .inr ⟨g1, g2, n1, nn2, c1, c2, rfl, rfl, hg1, hg2, hS5.keep m3 (by omega), hS5.keep m4 (by omega), m3s, m4s⟩⟩, hF.trans hF5⟩
        · rw [List.length_take]
          dsimp only
          omega
        · intro j a ha
          have hjl := (List.getElem?_eq_some_iff.1 ha).1
          have key : ∀ (k : Nat) (v : Value), k < 4 → cu[j * 4 + k]? = some v → (cu.take (c.out.length * 4))[j * 4 + k]? = some v := fun k v hk hv => by
            rw [List.getElem?_take, if_pos (by simp only at hjl; omega)]; exact hv
          obtain ⟨q1, q2, q3, d, q4, q5⟩ := (m2E j a ha).fm hF5 (by simp)
          exact ⟨key 0 _ (by omega) q1, key 1 _ (by omega) q2, key 2 _ (by omega) q3, d, key 3 _ (by omega) q4, q5⟩
end Go.Proofs.YtaccphdkapmdhaaGreat

namespace Go.Proofs.YtaccphdkapmdhaaGreat
attribute [local irreducible] binOp IntKind.wrap Sem.run

/-- Behind the walk of a table's head. -/
def tabF (cur : Nat) (r : List Ent × Option (Nat × Bs)) : Trk × Bool := match r.2 with
  | none => (⟨r.1, cur⟩, false)
  | some q => match findE r.1 q.1 q.2 with
    | none => (⟨r.1 ++ [⟨q.1, 3, true, q.2⟩], r.1.length⟩, true)
    | some i => match r.1[i]? with
      | some e => if e.kind = 3 ∧ e.expl = false then (⟨r.1.set i { e with expl := true }, i⟩, true) else (⟨r.1, cur⟩, false)
      | none => (⟨r.1, cur⟩, false)
def atabF (cur : Nat) (r : List Ent × Option (Nat × Bs)) : Trk × Bool := match r.2 with
  | none => (⟨r.1, cur⟩, false)
  | some q => match findE r.1 q.1 q.2 with
    | none => (⟨r.1 ++ [⟨q.1, 4, true, q.2⟩], r.1.length⟩, true)
    | some i => if kindE r.1 i = 4 then (⟨clrE i r.1, i⟩, true) else (⟨r.1, cur⟩, false)

theorem ckX_tab (t : Trk) (ks : List Bs) : ckX t (.tab ks) = tabF t.cur (ckH ks t.ents 0) := by
  simp only [ckX, tabF]
  rcases ckH ks t.ents 0 with ⟨es, _ | ⟨p, k⟩⟩
  · rfl
  · dsimp only
    cases findE es p k with
    | none => rfl
    | some i =>
      dsimp only
      cases es[i]? <;> rfl
theorem ckX_atab (t : Trk) (ks : List Bs) : ckX t (.atab ks) = atabF t.cur (ckH ks t.ents 0) := by
  simp only [ckX, atabF]
  rcases ckH ks t.ents 0 with ⟨es, _ | ⟨p, k⟩⟩
  · rfl
  · dsimp only
    cases findE es p k with
    | none => rfl
    | some i => rfl

/-- Another table is open. -/
theorem TS.setCur {w w' : World} {tb c : Nat} {t : Trk} {ev rb mb : Value} {xs : List Value} {cn : Nat} {l : List Value} (h1 : w.heap[tb]? = some (.cells ⟨l⟩ 59 (0, 0))) (h2 : w.ownsRow (tb + 1) 145 4 ev t.ents.length xs) (h3 : EL w t.ents xs) (h4 : Buf w tb cn rb mb)
    (hS : St w tb (.cells ⟨[ev, .int .i32 (c : Int), rb, mb]⟩ 59 (0, 0)) w') : TS w' tb ⟨t.ents, c⟩ := by
  have hf : Fm 0 [59] w w' := hS.fm h1 (Nat.zero_le _) (by simp [tag]) rfl
  exact ⟨ev, xs, rb, mb, cn, hS.at_, row_keep h2 hf (by simp), h3.fm hf (by simp), h4.fm hf (by simp) (by simp)⟩

/-- An entry is told by its own head. -/
theorem TS.setExpl {w w' : World} {tb g cap cn j : Nat} {t : Trk} {cur : Array Value} {rb mb : Value} {e : Ent} (h1 : w.heap[tb]? = some (.cells ⟨[.slice (some ⟨g, 0, none⟩) t.ents.length cap, .int .i32 (t.cur : Int), rb, mb]⟩ 59 (0, 0))) (hg : tb < g) (hgb : w.heap[g]? = some (.cells cur 145 (0, 0)))
    (hc1 : t.ents.length ≤ cap) (hc2 : cap ≤ maxLen) (hcs : cur.size = cap * 4) (hN : EL w t.ents cur.toList) (hB : Buf w tb cn rb mb) (hj : t.ents[j]? = some e)
    (hS : St w g (.cells (cur.setIfInBounds (j * 4 + 2) (.bool true)) 145 (0, 0)) w') : TS w' tb ⟨t.ents.set j { e with expl := true }, t.cur⟩ := by
  have hf : Fm 0 [145] w w' := hS.fm hgb (Nat.zero_le _) (by simp [tag]) rfl
  have hjl := (List.getElem?_eq_some_iff.1 hj).1
  refine ⟨.slice (some ⟨g, 0, none⟩) t.ents.length cap, (cur.setIfInBounds (j * 4 + 2) (.bool true)).toList.take (t.ents.length * 4), rb, mb, cn, hS.keep h1 (by omega), ⟨?_, .inr ⟨g, cap, _, ?_, by omega, hS.at_, by rw [List.length_set]; exact hc1, hc2, by rw [Array.size_setIfInBounds]; exact hcs, by rw [List.length_set]⟩⟩, ?_, hB.fm hf (by simp) (by simp)⟩
  · rw [List.length_take, Array.length_toList, Array.size_setIfInBounds, List.length_set]
    omega
  · rw [List.length_set]
  · intro i a ha
    rw [take_set]
    have key : ∀ (k : Nat) (v : Value), k < 4 → i < t.ents.length → (i ≠ j ∨ k ≠ 2) → cur.toList[i * 4 + k]? = some v → ((cur.toList.take (t.ents.length * 4)).set (j * 4 + 2) (.bool true))[i * 4 + k]? = some v := fun k v hk hil hne hv => by
      rw [List.getElem?_set_ne (by omega), List.getElem?_take, if_pos (by omega)]; exact hv
    have hil := (List.getElem?_eq_some_iff.1 ha).1
    rw [List.length_set] at hil
    by_cases hij : i = j
    · subst hij
      rw [List.getElem?_set_self hjl] at ha
      simp only [Option.some.injEq] at ha
      subst ha
      obtain ⟨q1, q2, q3, d, q4, q5⟩ := (hN i e hj).fm hf (by simp)
      refine ⟨key 0 _ (by omega) hil (.inr (by omega)) q1, key 1 _ (by omega) hil (.inr (by omega)) q2, ?_, d, key 3 _ (by omega) hil (.inr (by omega)) q4, q5⟩
      rw [List.getElem?_set_self]
      rw [List.length_take, Array.length_toList]
      omega
    · rw [List.getElem?_set_ne (Ne.symm hij)] at ha
      obtain ⟨q1, q2, q3, d, q4, q5⟩ := (hN i a ha).fm hf (by simp)
      exact ⟨key 0 _ (by omega) hil (.inl hij) q1, key 1 _ (by omega) hil (.inl hij) q2, key 2 _ (by omega) hil (.inl hij) q3, d, key 3 _ (by omega) hil (.inl hij) q4, q5⟩

/-- What the check of a head or an expression shows. -/
def Told (tb : Nat) (r : Trk × Bool) (w : World) (e : Ending) (w' : World) : Prop := ∃ b u, e = .returned (.tuple #[.bool b, u]) ∧ ErrIs r.2 u ∧ TS w' tb r.1 ∧ Fm tb [59, 145, 4, 21] w w'


set_option maxRecDepth 100000 in
set_option maxHeartbeats 32000000 in
theorem ckTab_any (ks : List Bs) (tb pp g i : Nat) (ns : List ANode) (t : Trk) (a : ANode) (w : World) (hT : TS w tb t) (hA : AR w pp g ns) (hw : Wf ns)
    (ha : ns[i]? = some a) (hk : a.kind = 3) (hK : KT ns ks a.child) (hks : ks ≠ []) (hO : Ord t.ents) (hp : 0 < t.ents.length) (hm : t.ents.length + ks.length ≤ 1000000000) :
    Calls PP 50 #[.pointer (some ⟨tb, 0, none⟩), .pointer (some ⟨g, i * 7, none⟩)] w (Told tb (tabF t.cur (ckH ks t.ents 0)) w) := by
  have hlt := hT.lt
  have hsm := hA.small
  have hke : keyAt ns a = a.child := by simp [keyAt, hk]
  have hchl := (hw i a ha).2.2.2
  refine enter (L := [(0, .pointer (some ⟨tb, 0, none⟩)), (1, .pointer (some ⟨g, i * 7, none⟩))]) Tryz.func50 rfl rfl rfl ⟨rfl, rfl, trivial⟩ ?_
  repeat (first | refine WL.pp rfl ?_ | refine WL.ns ?_ | refine WC.sr ?_)
  refine WL.call rfl rfl rfl (key81_any pp g i ns a w hA hw ha (.inr (by omega))) ?_
  rintro e w1 ⟨rfl, hU1⟩
  rw [hke]
  refine ⟨_, _, rfl, rfl, ?_⟩
  refine WL.al rfl rfl rfl (fun w2 hA2 => ?_)
  refine WL.sg rfl rfl rfl (by simp [oneV, hptr]) hA2.at_ (by simp) rfl (fun w3 hS3 => ?_)
  generalize hit : w1.heap.size = it at *
  have hsz : w.heap.size ≤ it := by have := hU1.size; omega
  have hF3 : Fm tb [59, 145, 4, 21] w w3 := ((hU1.fm (Nat.le_refl _) (by omega)).trans (hA2.fm (by omega))).stN hS3 hsz (by omega)
  have hI3 : ItAt w3 it g ns a.child := .inl hS3.at_
  have hT3 : TS w3 tb t := hT.fm (B := 0) (T := []) (((hU1.fm (Nat.le_refl _) (Nat.zero_le _)).trans (hA2.fm (Nat.zero_le _))).stN hS3 hsz (Nat.zero_le _)) (by simp) (by simp) (by simp) (by simp) (by simp)
  have hA3 : AR w3 pp g ns := hA.fm hF3 (by simp) (by simp) (by simp)
  clear hS3 hA2 hU1
  repeat (first | refine WL.ns ?_ | refine WC.seq ?_ | refine WC.block ?_)
  refine WC.loop (σ := Nat × List Bs × Nat × List Ent) (I := fun s w' => ItAt w' it g ns s.1 ∧ KT ns s.2.1 s.1 ∧ s.2.1 ≠ [] ∧ TS w' tb ⟨s.2.2.2, t.cur⟩ ∧ AR w' pp g ns ∧ Fm tb [59, 145, 4, 21] w w' ∧ Ord s.2.2.2 ∧ s.2.2.1 < s.2.2.2.length ∧ s.2.2.2.length + s.2.1.length ≤ 1000000000 ∧ ckH s.2.1 s.2.2.2 s.2.2.1 = ckH ks t.ents 0)
    (m := fun s => s.2.1.length) (Lf := fun s => [(0, .pointer (some ⟨tb, 0, none⟩)), (1, .pointer (some ⟨g, i * 7, none⟩)), (6, .int .i32 (s.2.2.1 : Int)), (7, .pointer (some ⟨it, 0, none⟩))])
    (a.child, ks, 0, t.ents) ⟨hI3, hK, hks, hT3, hA3, hF3, hO, hp, hm, rfl⟩ ⟨rfl, rfl, rfl, rfl, trivial⟩ ?_
  clear hI3 hK hks hT3 hA3 hF3 hO hp hm hT
  rintro ⟨h, kc, q, es⟩ w4 ⟨hI, hK, hne, hT, hA, hF, hO, hq, hm, hres⟩
  dsimp only at hI hK hne hT hO hq hm hres ⊢
  rw [← hres]
  cases kc with
  | nil => exact absurd rfl hne
  | cons k rest =>
    obtain ⟨j, m, rfl, hj, hjk, hjd, hKr⟩ := hK
    have hjl := (List.getElem?_eq_some_iff.1 hj).1
    have hjn := (hw j m hj).2.2.1
    repeat (first | refine WC.sr ?_ | refine WC.seq ?_)
    refine WL.call rfl rfl rfl (iterStep pp g (j + 1) it ns w4 hA hw (by omega) hI) ?_
    rintro e w5 ⟨rfl, wm, hSm, ⟨om, htm, hom⟩, hS5⟩
    rw [dc_of (show j + 1 ≠ 0 by omega)]
    refine ⟨_, _, rfl, rfl, ?_⟩
    have hF45 := step_fm hSm hom htm hS5 rfl
    have hF5 : Fm tb [59, 145, 4, 21] w w5 := hF.step hSm hS5 hsz (by omega)
    have hT5 := hT.fm hF45 (by simp) (by simp) (by simp) (by simp) (by simp)
    have hA5 := hA.fm hF45 (by simp) (by simp) (by simp)
    have hit5 := hS5.at_
    rw [hptr_succ] at hit5
    have hI5 : ItAt w5 it g ns m.next := .inr ⟨j, m, hj, rfl, hS5.at_⟩
    clear hF45 hS5 hI hT hA hF hom hSm
    repeat (first | refine WL.ns ?_ | refine WC.sr ?_ | refine WC.bT rfl (by first | with_reducible rfl | exact Bool.not_false) ?_ | refine WC.block ?_ | refine X.sn ?_ | refine WC.skip ?_)
    refine WL.call rfl rfl rfl (iterNode_any _ _ it w5 hit5) ?_
    rintro e w6 ⟨rfl, rfl⟩
    refine ⟨_, _, rfl, rfl, ?_⟩
    obtain ⟨cur, hgc, hNL⟩ := hA5.cells
    obtain ⟨d, hd1, hd2, hd3⟩ := (hNL j m hj).data
    have hdk := hd3 k hjd
    have c3 : w6.cell? ⟨g, j * 7 + 3, none⟩ = some d := cell_of hgc (by simpa using hd1)
    repeat (first | refine WL.pp rfl ?_ | refine WL.ns ?_ | refine WC.sr ?_ | refine WL.ld rfl rfl c3 rfl ?_ | refine WC.seq ?_)
    refine WL.call rfl rfl rfl (isLast_any pp g j it _ ns m w6 hA5 hj hit5) ?_
    rintro e w7 ⟨rfl, rfl⟩
    refine ⟨_, _, rfl, rfl, ?_⟩
    have hfind := find_any tb q d k ⟨es, t.cur⟩ w7 hT5 hdk hq (by simp only [List.length_cons] at hm; simp only; omega)
    cases rest with
    | nil =>
      have hm0 : m.next = 0 := hKr
      simp only [List.length_singleton] at hm
      repeat (first | refine WL.pp rfl ?_ | refine WL.ns ?_ | refine WC.sr ?_ | refine WC.dT rfl (by first | omega | decide) ?_)
      refine WL.call rfl rfl rfl hfind ?_
      rintro e w8 ⟨rfl, rfl⟩
      refine ⟨_, _, rfl, rfl, ?_⟩
      cases hf : findE es q k with
      | some x =>
        have hxl := findE_lt hf
        obtain ⟨ex, hex⟩ : ∃ ex, es[x]? = some ex := ⟨_, List.getElem?_eq_getElem hxl⟩
        obtain ⟨ge, cape, cure, rbe, mbe, cne, he1, he2, he3, he4, he5, he6, he7, he8⟩ := hT5.open (by simp only; omega)
        simp only at he1 he4 he7
        have ck : w8.cell? ⟨ge, x * 4 + 1, none⟩ = some (.int .u8 ex.kind) := cell_of he3 (by simpa using (he7 x ex hex).kind)
        have cx : w8.cell? ⟨ge, x * 4 + 2, none⟩ = some (.bool ex.expl) := cell_of he3 (by simpa using (he7 x ex hex).expl)
        have hek := (hO x ex hex).2.2
        have err : ∀ (s : ByteArray), Calls PP 52 #[.string s] w8 fun e w' => ∃ u, e = .returned u ∧ (∀ b : Bool, Told tb (⟨es, t.cur⟩, false) w (.returned (.tuple #[.bool b, u])) w') := fun s => (errNew_any s w8).mono (by
          rintro e w9 ⟨u, rfl, hu, hU9⟩
          exact ⟨u, rfl, fun b => ⟨b, u, rfl, .inr ⟨rfl, hu⟩, hT5.up hU9, hF5.trans (hU9.fm (Nat.le_refl _) (by have := hT5.lt; omega))⟩⟩)
        simp only [foundV]
        repeat (first | refine WL.pp rfl ?_ | refine WL.ns ?_ | refine WC.sr ?_ | refine WC.dF rfl (by first | omega | decide) ?_ | refine WL.ldB (b := tb) (i := 0) rfl rfl he1 rfl rfl ?_ | refine WL.ix (i := x) rfl rfl rfl hxl (by rw [Nat.zero_add]; rfl) ?_ | refine WL.ld rfl rfl ck rfl ?_ | refine WC.seq ?_ | refine WC.block ?_ | refine X.sn ?_ | refine WC.skip ?_)
        by_cases h3 : ex.kind = 3
        · cases hxx : ex.expl with
          | true =>
            have e1 : tabF t.cur (ckH [k] es q) = (⟨es, t.cur⟩, false) := by simp [ckH, tabF, hf, hex, hxx]
            rw [e1]
            rw [hxx] at cx
            repeat (first | refine WL.pp rfl ?_ | refine WL.ns ?_ | refine WC.sr ?_ | refine WC.bT rfl (by first | with_reducible rfl | exact Bool.not_false) ?_ | refine WC.dT rfl (by first | omega | decide) ?_ | refine WL.ld rfl rfl cx rfl ?_ | refine WC.seq ?_)
            refine WL.call rfl rfl rfl (err _) ?_
            rintro e w9 ⟨u, rfl, hu⟩
            refine ⟨_, _, rfl, rfl, ?_⟩
            repeat (first | refine WL.pp rfl ?_ | refine WL.ns ?_ | refine X.sr ?_ | refine X.br ?_ | refine WC.ret ?_)
            exact X.ret_ rfl rfl (hu _)
          | false =>
            have e1 : tabF t.cur (ckH [k] es q) = (⟨es.set x { ex with expl := true }, x⟩, true) := by simp [ckH, tabF, hf, hex, hxx, h3]
            rw [e1]
            rw [hxx] at cx
            have hcx : x * 4 + 2 < cure.size := by rw [he6]; omega
            repeat (first | refine WL.pp rfl ?_ | refine WL.ns ?_ | refine WC.sr ?_ | refine WC.bF rfl (by first | with_reducible rfl | exact Bool.not_true) ?_ | refine WC.dT rfl (by first | omega | decide) ?_ | refine WL.ld rfl rfl cx rfl ?_ | refine WC.seq ?_ | refine X.sn ?_ | refine WC.skip ?_)
            refine WL.stB rfl rfl rfl he3 (Array.getElem?_eq_getElem hcx) rfl (fun w9 hS9 => ?_)
            have hT9 := TS.setExpl (t := ⟨es, t.cur⟩) he1 he2 he3 he4 he5 he6 he7 he8 hex hS9
            have hF9 : Fm tb [59, 145, 4, 21] w w9 := hF5.trans (hS9.fm he3 (by omega) (by simp [tag]) rfl)
            obtain ⟨ev, xs, rb, mb, cn, z1, z2, z3, z4⟩ := hT9
            repeat (first | refine WL.pp rfl ?_ | refine WL.ns ?_ | refine WC.sr ?_)
            refine WL.stB rfl rfl rfl z1 rfl rfl (fun w10 hS10 => ?_)
            repeat (first | refine WL.pp rfl ?_ | refine WL.ns ?_ | refine WC.sr ?_ | refine X.sr ?_ | refine X.br ?_ | refine WC.ret ?_)
            exact X.ret_ rfl rfl ⟨_, _, rfl, .inl ⟨rfl, rfl⟩, TS.setCur z1 z2 z3 z4 hS10, hF9.trans (hS10.fm z1 (Nat.le_refl _) (by simp [tag]) rfl)⟩
        · have e1 : tabF t.cur (ckH [k] es q) = (⟨es, t.cur⟩, false) := by simp [ckH, tabF, hf, hex, h3]
          rw [e1]
          by_cases h2 : ex.kind = 2
          · repeat (first | refine WL.pp rfl ?_ | refine WL.ns ?_ | refine WC.sr ?_ | refine WC.dT rfl (by first | omega | decide) ?_ | refine WC.dF rfl (by first | omega | decide) ?_)
            refine WL.call rfl rfl rfl (err _) ?_
            rintro e w9 ⟨u, rfl, hu⟩
            refine ⟨_, _, rfl, rfl, ?_⟩
            repeat (first | refine WL.pp rfl ?_ | refine WL.ns ?_ | refine X.sr ?_ | refine X.br ?_ | refine WC.ret ?_)
            exact X.ret_ rfl rfl (hu _)
          · by_cases h4 : ex.kind = 4
            · repeat (first | refine WL.pp rfl ?_ | refine WL.ns ?_ | refine WC.sr ?_ | refine WC.dT rfl (by first | omega | decide) ?_ | refine WC.dF rfl (by first | omega | decide) ?_)
              refine WL.call rfl rfl rfl (err _) ?_
              rintro e w9 ⟨u, rfl, hu⟩
              refine ⟨_, _, rfl, rfl, ?_⟩
              repeat (first | refine WL.pp rfl ?_ | refine WL.ns ?_ | refine X.sr ?_ | refine X.br ?_ | refine WC.ret ?_)
              exact X.ret_ rfl rfl (hu _)
            · repeat (first | refine WL.pp rfl ?_ | refine WL.ns ?_ | refine WC.sr ?_ | refine WC.dF rfl (by first | omega | decide) ?_)
              refine WL.call rfl rfl rfl (err _) ?_
              rintro e w9 ⟨u, rfl, hu⟩
              refine ⟨_, _, rfl, rfl, ?_⟩
              repeat (first | refine WL.pp rfl ?_ | refine WL.ns ?_ | refine X.sr ?_ | refine X.br ?_ | refine WC.ret ?_)
              exact X.ret_ rfl rfl (hu _)
      | none =>
        have e1 : tabF t.cur (ckH [k] es q) = (⟨es ++ [⟨q, 3, true, k⟩], es.length⟩, true) := by simp [ckH, tabF, hf]
        rw [e1]
        simp only [foundV]
        repeat (first | refine WL.pp rfl ?_ | refine WL.ns ?_ | refine WC.sr ?_ | refine WC.dT rfl (by first | omega | decide) ?_ | refine WC.seq ?_)
        refine WL.call rfl rfl rfl (create_any tb q 3 true d k ⟨es, t.cur⟩ w8 hT5 hdk (by omega) (by omega) (by simp only; omega)) ?_
        rintro e w9 ⟨rfl, hT9, hF9⟩
        refine ⟨_, _, rfl, rfl, ?_⟩
        have hF9 : Fm tb [59, 145, 4, 21] w8 w9 := hF9.mono (Nat.le_refl _) (by simp)
        obtain ⟨ev, xs, rb, mb, cn, z1, z2, z3, z4⟩ := hT9
        repeat (first | refine WL.pp rfl ?_ | refine WL.ns ?_ | refine WC.sr ?_)
        refine WL.stB rfl rfl rfl z1 rfl rfl (fun w10 hS10 => ?_)
        repeat (first | refine WL.pp rfl ?_ | refine WL.ns ?_ | refine WC.sr ?_ | refine X.sr ?_ | refine X.br ?_ | refine WC.ret ?_)
        exact X.ret_ rfl rfl ⟨_, _, rfl, .inl ⟨rfl, rfl⟩, TS.setCur z1 z2 z3 z4 hS10, (hF5.trans hF9).trans (hS10.fm z1 (Nat.le_refl _) (by simp [tag]) rfl)⟩
    | cons k2 rest =>
      have hm0 : m.next ≠ 0 := by
        obtain ⟨_, _, h, _⟩ := hKr
        omega
      simp only [List.length_cons] at hm
      repeat (first | refine WL.pp rfl ?_ | refine WL.ns ?_ | refine WC.sr ?_ | refine WC.dF rfl (by first | omega | decide) ?_ | refine X.sn ?_ | refine WC.skip ?_)
      refine WL.call rfl rfl rfl hfind ?_
      rintro e w8 ⟨rfl, rfl⟩
      refine ⟨_, _, rfl, rfl, ?_⟩
      cases hf : findE es q k with
      | none =>
        have e1 : ckH (k :: k2 :: rest) es q = ckH (k2 :: rest) (es ++ [⟨q, 3, false, k⟩]) es.length := by simp [ckH, hf]
        simp only [foundV]
        repeat (first | refine WL.pp rfl ?_ | refine WL.ns ?_ | refine WC.sr ?_ | refine WC.dT rfl (by first | omega | decide) ?_ | refine WC.seq ?_ | refine WC.reg ?_)
        refine WL.call rfl rfl rfl (create_any tb q 3 false d k ⟨es, t.cur⟩ w8 hT5 hdk (by omega) (by omega) (by simp only; omega)) ?_
        rintro e w9 ⟨rfl, hT9, hF9⟩
        refine ⟨_, _, rfl, rfl, ?_⟩
        simp only at hT9
        repeat (first | refine WL.pp rfl ?_ | refine WL.ns ?_ | refine WC.reg ?_ | refine WL.nil ?_ | refine X.bn ?_)
        have hG := Grow.snoc hO (k := 3) (x := false) (nm := k) hq (by omega) (by omega)
        exact X.again (m.next, k2 :: rest, es.length, es ++ [⟨q, 3, false, k⟩]) ⟨hI5.fm hF9 (by simp), hKr, by simp, hT9, hA5.fm hF9 (by simp) (by simp) (by simp), hF5.trans (hF9.mono (Nat.le_refl _) (by simp)), hG.1, by simp, by simp; omega, by rw [← e1, hres]⟩ (by simp) ⟨rfl, rfl, rfl, rfl, trivial⟩
      | some x =>
        have hxl := findE_lt hf
        obtain ⟨ex, hex⟩ : ∃ ex, es[x]? = some ex := ⟨_, List.getElem?_eq_getElem hxl⟩
        have hkx := kindE_some hex
        obtain ⟨ge, cape, cure, rbe, mbe, cne, he1, he2, he3, he4, he5, he6, he7, he8⟩ := hT5.open (by simp only; omega)
        simp only at he1 he4 he7
        have ck : w8.cell? ⟨ge, x * 4 + 1, none⟩ = some (.int .u8 ex.kind) := cell_of he3 (by simpa using (he7 x ex hex).kind)
        simp only [foundV]
        repeat (first | refine WL.pp rfl ?_ | refine WL.ns ?_ | refine WC.sr ?_ | refine WC.dF rfl (by first | omega | decide) ?_ | refine WL.ldB (b := tb) (i := 0) rfl rfl he1 rfl rfl ?_ | refine WL.ix (i := x) rfl rfl rfl hxl (by rw [Nat.zero_add]; rfl) ?_ | refine WL.ld rfl rfl ck rfl ?_ | refine WC.seq ?_ | refine WC.block ?_)
        have again : kindE es x = 2 ∨ kindE es x = 3 ∨ kindE es x = 4 → ckH (k2 :: rest) es x = ckH (k :: k2 :: rest) es q := fun hh => by
          simp only [ckH, hf]
          rw [if_pos hh]
        rw [hkx] at again
        by_cases h3 : ex.kind = 3
        · repeat (first | refine WL.pp rfl ?_ | refine WC.dT rfl (by first | omega | decide) ?_ | refine WC.reg ?_ | refine WL.nil ?_ | refine X.sn ?_ | refine X.bn ?_ | refine WC.skip ?_)
          exact X.again (m.next, k2 :: rest, x, es) ⟨hI5, hKr, by simp, hT5, hA5, hF5, hO, hxl, by simp only [List.length_cons]; omega, again (by omega)⟩ (by simp) ⟨rfl, rfl, rfl, rfl, trivial⟩
        · by_cases h4 : ex.kind = 4
          · repeat (first | refine WL.pp rfl ?_ | refine WL.ns ?_ | refine WC.sr ?_ | refine WC.dT rfl (by first | omega | decide) ?_ | refine WC.dF rfl (by first | omega | decide) ?_ | refine WC.reg ?_ | refine WL.nil ?_ | refine X.sn ?_ | refine X.bn ?_ | refine WC.skip ?_)
            exact X.again (m.next, k2 :: rest, x, es) ⟨hI5, hKr, by simp, hT5, hA5, hF5, hO, hxl, by simp only [List.length_cons]; omega, again (by omega)⟩ (by simp) ⟨rfl, rfl, rfl, rfl, trivial⟩
          · by_cases h2 : ex.kind = 2
            · repeat (first | refine WL.pp rfl ?_ | refine WL.ns ?_ | refine WC.sr ?_ | refine WC.dT rfl (by first | omega | decide) ?_ | refine WC.dF rfl (by first | omega | decide) ?_ | refine WC.reg ?_ | refine WL.nil ?_ | refine X.sn ?_ | refine X.bn ?_ | refine WC.skip ?_)
              exact X.again (m.next, k2 :: rest, x, es) ⟨hI5, hKr, by simp, hT5, hA5, hF5, hO, hxl, by simp only [List.length_cons]; omega, again (by omega)⟩ (by simp) ⟨rfl, rfl, rfl, rfl, trivial⟩
            · have e1 : tabF t.cur (ckH (k :: k2 :: rest) es q) = (⟨es, t.cur⟩, false) := by simp [ckH, tabF, hf, hkx, h2, h3, h4]
              rw [e1]
              repeat (first | refine WL.pp rfl ?_ | refine WL.ns ?_ | refine WC.sr ?_ | refine WC.dF rfl (by first | omega | decide) ?_ | refine WC.reg ?_)
              refine WL.call rfl rfl rfl (errNew_any _ w8) ?_
              rintro e w9 ⟨u, rfl, hu, hU9⟩
              refine ⟨_, _, rfl, rfl, ?_⟩
              repeat (first | refine WL.pp rfl ?_ | refine WL.ns ?_ | refine X.sr ?_ | refine X.br ?_ | refine WC.ret ?_)
              exact X.ret_ rfl rfl ⟨_, _, rfl, .inr ⟨rfl, hu⟩, hT5.up hU9, hF5.trans (hU9.fm (Nat.le_refl _) (by have := hT5.lt; omega))⟩

set_option maxRecDepth 100000 in
set_option maxHeartbeats 32000000 in
theorem ckATab_any (ks : List Bs) (tb pp g i : Nat) (ns : List ANode) (t : Trk) (a : ANode) (w : World) (hT : TS w tb t) (hA : AR w pp g ns) (hw : Wf ns)
    (ha : ns[i]? = some a) (hk : a.kind = 4) (hK : KT ns ks a.child) (hks : ks ≠ []) (hO : Ord t.ents) (hp : 0 < t.ents.length) (hm : t.ents.length + ks.length ≤ 1000000000) :
    Calls PP 51 #[.pointer (some ⟨tb, 0, none⟩), .pointer (some ⟨g, i * 7, none⟩)] w (Told tb (atabF t.cur (ckH ks t.ents 0)) w) := by
  have hlt := hT.lt
  have hsm := hA.small
  have hke : keyAt ns a = a.child := by simp [keyAt, hk]
  have hchl := (hw i a ha).2.2.2
  refine enter (L := [(0, .pointer (some ⟨tb, 0, none⟩)), (1, .pointer (some ⟨g, i * 7, none⟩))]) Tryz.func51 rfl rfl rfl ⟨rfl, rfl, trivial⟩ ?_
  repeat (first | refine WL.pp rfl ?_ | refine WL.ns ?_ | refine WC.sr ?_)
  refine WL.call rfl rfl rfl (key81_any pp g i ns a w hA hw ha (.inr (by omega))) ?_
  rintro e w1 ⟨rfl, hU1⟩
  rw [hke]
  refine ⟨_, _, rfl, rfl, ?_⟩
  refine WL.al rfl rfl rfl (fun w2 hA2 => ?_)
  refine WL.sg rfl rfl rfl (by simp [oneV, hptr]) hA2.at_ (by simp) rfl (fun w3 hS3 => ?_)
  generalize hit : w1.heap.size = it at *
  have hsz : w.heap.size ≤ it := by have := hU1.size; omega
  have hF3 : Fm tb [59, 145, 4, 21] w w3 := ((hU1.fm (Nat.le_refl _) (by omega)).trans (hA2.fm (by omega))).stN hS3 hsz (by omega)
  have hI3 : ItAt w3 it g ns a.child := .inl hS3.at_
  have hT3 : TS w3 tb t := hT.fm (B := 0) (T := []) (((hU1.fm (Nat.le_refl _) (Nat.zero_le _)).trans (hA2.fm (Nat.zero_le _))).stN hS3 hsz (Nat.zero_le _)) (by simp) (by simp) (by simp) (by simp) (by simp)
  have hA3 : AR w3 pp g ns := hA.fm hF3 (by simp) (by simp) (by simp)
  clear hS3 hA2 hU1
  repeat (first | refine WL.ns ?_ | refine WC.seq ?_ | refine WC.block ?_)
  refine WC.loop (σ := Nat × List Bs × Nat × List Ent) (I := fun s w' => ItAt w' it g ns s.1 ∧ KT ns s.2.1 s.1 ∧ s.2.1 ≠ [] ∧ TS w' tb ⟨s.2.2.2, t.cur⟩ ∧ AR w' pp g ns ∧ Fm tb [59, 145, 4, 21] w w' ∧ Ord s.2.2.2 ∧ s.2.2.1 < s.2.2.2.length ∧ s.2.2.2.length + s.2.1.length ≤ 1000000000 ∧ ckH s.2.1 s.2.2.2 s.2.2.1 = ckH ks t.ents 0)
    (m := fun s => s.2.1.length) (Lf := fun s => [(0, .pointer (some ⟨tb, 0, none⟩)), (1, .pointer (some ⟨g, i * 7, none⟩)), (6, .int .i32 (s.2.2.1 : Int)), (7, .pointer (some ⟨it, 0, none⟩))])
    (a.child, ks, 0, t.ents) ⟨hI3, hK, hks, hT3, hA3, hF3, hO, hp, hm, rfl⟩ ⟨rfl, rfl, rfl, rfl, trivial⟩ ?_
  clear hI3 hK hks hT3 hA3 hF3 hO hp hm hT
  rintro ⟨h, kc, q, es⟩ w4 ⟨hI, hK, hne, hT, hA, hF, hO, hq, hm, hres⟩
  dsimp only at hI hK hne hT hO hq hm hres ⊢
  rw [← hres]
  cases kc with
  | nil => exact absurd rfl hne
  | cons k rest =>
    obtain ⟨j, m, rfl, hj, hjk, hjd, hKr⟩ := hK
    have hjl := (List.getElem?_eq_some_iff.1 hj).1
    have hjn := (hw j m hj).2.2.1
    repeat (first | refine WC.sr ?_ | refine WC.seq ?_)
    refine WL.call rfl rfl rfl (iterStep pp g (j + 1) it ns w4 hA hw (by omega) hI) ?_
    rintro e w5 ⟨rfl, wm, hSm, ⟨om, htm, hom⟩, hS5⟩
    rw [dc_of (show j + 1 ≠ 0 by omega)]
    refine ⟨_, _, rfl, rfl, ?_⟩
    have hF45 := step_fm hSm hom htm hS5 rfl
    have hF5 : Fm tb [59, 145, 4, 21] w w5 := hF.step hSm hS5 hsz (by omega)
    have hT5 := hT.fm hF45 (by simp) (by simp) (by simp) (by simp) (by simp)
    have hA5 := hA.fm hF45 (by simp) (by simp) (by simp)
    have hit5 := hS5.at_
    rw [hptr_succ] at hit5
    have hI5 : ItAt w5 it g ns m.next := .inr ⟨j, m, hj, rfl, hS5.at_⟩
    clear hF45 hS5 hI hT hA hF hom hSm
    repeat (first | refine WL.ns ?_ | refine WC.sr ?_ | refine WC.bT rfl (by first | with_reducible rfl | exact Bool.not_false) ?_ | refine WC.block ?_ | refine X.sn ?_ | refine WC.skip ?_)
    refine WL.call rfl rfl rfl (iterNode_any _ _ it w5 hit5) ?_
    rintro e w6 ⟨rfl, rfl⟩
    refine ⟨_, _, rfl, rfl, ?_⟩
    obtain ⟨cur, hgc, hNL⟩ := hA5.cells
    obtain ⟨d, hd1, hd2, hd3⟩ := (hNL j m hj).data
    have hdk := hd3 k hjd
    have c3 : w6.cell? ⟨g, j * 7 + 3, none⟩ = some d := cell_of hgc (by simpa using hd1)
    repeat (first | refine WL.pp rfl ?_ | refine WL.ns ?_ | refine WC.sr ?_ | refine WL.ld rfl rfl c3 rfl ?_ | refine WC.seq ?_)
    refine WL.call rfl rfl rfl (isLast_any pp g j it _ ns m w6 hA5 hj hit5) ?_
    rintro e w7 ⟨rfl, rfl⟩
    refine ⟨_, _, rfl, rfl, ?_⟩
    have hfind := find_any tb q d k ⟨es, t.cur⟩ w7 hT5 hdk hq (by simp only [List.length_cons] at hm; simp only; omega)
    cases rest with
    | nil =>
      have hm0 : m.next = 0 := hKr
      simp only [List.length_singleton] at hm
      repeat (first | refine WL.pp rfl ?_ | refine WL.ns ?_ | refine WC.sr ?_ | refine WC.dT rfl (by first | omega | decide) ?_)
      refine WL.call rfl rfl rfl hfind ?_
      rintro e w8 ⟨rfl, rfl⟩
      refine ⟨_, _, rfl, rfl, ?_⟩
      cases hf : findE es q k with
      | some x =>
        have hxl := findE_lt hf
        obtain ⟨ex, hex⟩ : ∃ ex, es[x]? = some ex := ⟨_, List.getElem?_eq_getElem hxl⟩
        have hkx := kindE_some hex
        obtain ⟨ge, cape, cure, rbe, mbe, cne, he1, he2, he3, he4, he5, he6, he7, he8⟩ := hT5.open (by simp only; omega)
        simp only at he1 he4 he7
        have ck : w8.cell? ⟨ge, x * 4 + 1, none⟩ = some (.int .u8 ex.kind) := cell_of he3 (by simpa using (he7 x ex hex).kind)
        simp only [foundV]
        repeat (first | refine WL.pp rfl ?_ | refine WL.ns ?_ | refine WC.sr ?_ | refine WC.dF rfl (by first | omega | decide) ?_ | refine WL.ldB (b := tb) (i := 0) rfl rfl he1 rfl rfl ?_ | refine WL.ix (i := x) rfl rfl rfl hxl (by rw [Nat.zero_add]; rfl) ?_ | refine WL.ld rfl rfl ck rfl ?_ | refine WC.seq ?_ | refine X.sn ?_ | refine WC.skip ?_)
        by_cases h4 : ex.kind = 4
        · have e1 : atabF t.cur (ckH [k] es q) = (⟨clrE x es, x⟩, true) := by simp [ckH, atabF, hf, hkx, h4]
          rw [e1]
          repeat (first | refine WL.pp rfl ?_ | refine WC.sr ?_ | refine WC.dF rfl (by first | omega | decide) ?_ | refine X.sn ?_ | refine WC.skip ?_)
          refine WL.call rfl rfl rfl (clear_any tb x ⟨es, t.cur⟩ w8 hT5 hO hxl (by simp only; omega)) ?_
          rintro e w9 ⟨rfl, hT9, hF9⟩
          refine ⟨_, _, rfl, rfl, ?_⟩
          obtain ⟨ev, xs, rb, mb, cn, z1, z2, z3, z4⟩ := hT9
          repeat (first | refine WL.pp rfl ?_ | refine WL.ns ?_ | refine WC.sr ?_)
          refine WL.stB rfl rfl rfl z1 rfl rfl (fun w10 hS10 => ?_)
          repeat (first | refine WL.pp rfl ?_ | refine WL.ns ?_ | refine WC.sr ?_ | refine X.sr ?_ | refine X.br ?_ | refine WC.ret ?_)
          exact X.ret_ rfl rfl ⟨_, _, rfl, .inl ⟨rfl, rfl⟩, TS.setCur z1 z2 z3 z4 hS10, (hF5.trans hF9).trans (hS10.fm z1 (Nat.le_refl _) (by simp [tag]) rfl)⟩
        · have e1 : atabF t.cur (ckH [k] es q) = (⟨es, t.cur⟩, false) := by simp [ckH, atabF, hf, hkx, h4]
          rw [e1]
          repeat (first | refine WC.sr ?_ | refine WC.dT rfl (by first | omega | decide) ?_)
          refine WL.call rfl rfl rfl (errNew_any _ w8) ?_
          rintro e w9 ⟨u, rfl, hu, hU9⟩
          refine ⟨_, _, rfl, rfl, ?_⟩
          repeat (first | refine WL.pp rfl ?_ | refine WL.ns ?_ | refine X.sr ?_ | refine X.br ?_ | refine WC.ret ?_)
          exact X.ret_ rfl rfl ⟨_, _, rfl, .inr ⟨rfl, hu⟩, hT5.up hU9, hF5.trans (hU9.fm (Nat.le_refl _) (by have := hT5.lt; omega))⟩
      | none =>
        have e1 : atabF t.cur (ckH [k] es q) = (⟨es ++ [⟨q, 4, true, k⟩], es.length⟩, true) := by simp [ckH, atabF, hf]
        rw [e1]
        simp only [foundV]
        repeat (first | refine WL.pp rfl ?_ | refine WL.ns ?_ | refine WC.sr ?_ | refine WC.dT rfl (by first | omega | decide) ?_ | refine WC.seq ?_)
        refine WL.call rfl rfl rfl (create_any tb q 4 true d k ⟨es, t.cur⟩ w8 hT5 hdk (by omega) (by omega) (by simp only; omega)) ?_
        rintro e w9 ⟨rfl, hT9, hF9⟩
        refine ⟨_, _, rfl, rfl, ?_⟩
        have hF9 : Fm tb [59, 145, 4, 21] w8 w9 := hF9.mono (Nat.le_refl _) (by simp)
        obtain ⟨ev, xs, rb, mb, cn, z1, z2, z3, z4⟩ := hT9
        repeat (first | refine WL.pp rfl ?_ | refine WL.ns ?_ | refine WC.sr ?_)
        refine WL.stB rfl rfl rfl z1 rfl rfl (fun w10 hS10 => ?_)
        repeat (first | refine WL.pp rfl ?_ | refine WL.ns ?_ | refine WC.sr ?_ | refine X.sr ?_ | refine X.br ?_ | refine WC.ret ?_)
        exact X.ret_ rfl rfl ⟨_, _, rfl, .inl ⟨rfl, rfl⟩, TS.setCur z1 z2 z3 z4 hS10, (hF5.trans hF9).trans (hS10.fm z1 (Nat.le_refl _) (by simp [tag]) rfl)⟩
    | cons k2 rest =>
      have hm0 : m.next ≠ 0 := by
        obtain ⟨_, _, h, _⟩ := hKr
        omega
      simp only [List.length_cons] at hm
      repeat (first | refine WL.pp rfl ?_ | refine WL.ns ?_ | refine WC.sr ?_ | refine WC.dF rfl (by first | omega | decide) ?_ | refine X.sn ?_ | refine WC.skip ?_)
      refine WL.call rfl rfl rfl hfind ?_
      rintro e w8 ⟨rfl, rfl⟩
      refine ⟨_, _, rfl, rfl, ?_⟩
      cases hf : findE es q k with
      | none =>
        have e1 : ckH (k :: k2 :: rest) es q = ckH (k2 :: rest) (es ++ [⟨q, 3, false, k⟩]) es.length := by simp [ckH, hf]
        simp only [foundV]
        repeat (first | refine WL.pp rfl ?_ | refine WL.ns ?_ | refine WC.sr ?_ | refine WC.dT rfl (by first | omega | decide) ?_ | refine WC.seq ?_ | refine WC.reg ?_)
        refine WL.call rfl rfl rfl (create_any tb q 3 false d k ⟨es, t.cur⟩ w8 hT5 hdk (by omega) (by omega) (by simp only; omega)) ?_
        rintro e w9 ⟨rfl, hT9, hF9⟩
        refine ⟨_, _, rfl, rfl, ?_⟩
        simp only at hT9
        repeat (first | refine WL.pp rfl ?_ | refine WL.ns ?_ | refine WC.reg ?_ | refine WL.nil ?_ | refine X.bn ?_)
        have hG := Grow.snoc hO (k := 3) (x := false) (nm := k) hq (by omega) (by omega)
        exact X.again (m.next, k2 :: rest, es.length, es ++ [⟨q, 3, false, k⟩]) ⟨hI5.fm hF9 (by simp), hKr, by simp, hT9, hA5.fm hF9 (by simp) (by simp) (by simp), hF5.trans (hF9.mono (Nat.le_refl _) (by simp)), hG.1, by simp, by simp; omega, by rw [← e1, hres]⟩ (by simp) ⟨rfl, rfl, rfl, rfl, trivial⟩
      | some x =>
        have hxl := findE_lt hf
        obtain ⟨ex, hex⟩ : ∃ ex, es[x]? = some ex := ⟨_, List.getElem?_eq_getElem hxl⟩
        have hkx := kindE_some hex
        obtain ⟨ge, cape, cure, rbe, mbe, cne, he1, he2, he3, he4, he5, he6, he7, he8⟩ := hT5.open (by simp only; omega)
        simp only at he1 he4 he7
        have ck : w8.cell? ⟨ge, x * 4 + 1, none⟩ = some (.int .u8 ex.kind) := cell_of he3 (by simpa using (he7 x ex hex).kind)
        simp only [foundV]
        repeat (first | refine WL.pp rfl ?_ | refine WL.ns ?_ | refine WC.sr ?_ | refine WC.dF rfl (by first | omega | decide) ?_ | refine WL.ldB (b := tb) (i := 0) rfl rfl he1 rfl rfl ?_ | refine WL.ix (i := x) rfl rfl rfl hxl (by rw [Nat.zero_add]; rfl) ?_ | refine WL.ld rfl rfl ck rfl ?_ | refine WC.seq ?_ | refine WC.block ?_)
        have again : kindE es x = 2 ∨ kindE es x = 3 ∨ kindE es x = 4 → ckH (k2 :: rest) es x = ckH (k :: k2 :: rest) es q := fun hh => by
          simp only [ckH, hf]
          rw [if_pos hh]
        rw [hkx] at again
        by_cases h3 : ex.kind = 3
        · repeat (first | refine WL.pp rfl ?_ | refine WC.dT rfl (by first | omega | decide) ?_ | refine WC.reg ?_ | refine WL.nil ?_ | refine X.sn ?_ | refine X.bn ?_ | refine WC.skip ?_)
          exact X.again (m.next, k2 :: rest, x, es) ⟨hI5, hKr, by simp, hT5, hA5, hF5, hO, hxl, by simp only [List.length_cons]; omega, again (by omega)⟩ (by simp) ⟨rfl, rfl, rfl, rfl, trivial⟩
        · by_cases h4 : ex.kind = 4
          · repeat (first | refine WL.pp rfl ?_ | refine WL.ns ?_ | refine WC.sr ?_ | refine WC.dT rfl (by first | omega | decide) ?_ | refine WC.dF rfl (by first | omega | decide) ?_ | refine WC.reg ?_ | refine WL.nil ?_ | refine X.sn ?_ | refine X.bn ?_ | refine WC.skip ?_)
            exact X.again (m.next, k2 :: rest, x, es) ⟨hI5, hKr, by simp, hT5, hA5, hF5, hO, hxl, by simp only [List.length_cons]; omega, again (by omega)⟩ (by simp) ⟨rfl, rfl, rfl, rfl, trivial⟩
          · by_cases h2 : ex.kind = 2
            · repeat (first | refine WL.pp rfl ?_ | refine WL.ns ?_ | refine WC.sr ?_ | refine WC.dT rfl (by first | omega | decide) ?_ | refine WC.dF rfl (by first | omega | decide) ?_ | refine WC.reg ?_ | refine WL.nil ?_ | refine X.sn ?_ | refine X.bn ?_ | refine WC.skip ?_)
              exact X.again (m.next, k2 :: rest, x, es) ⟨hI5, hKr, by simp, hT5, hA5, hF5, hO, hxl, by simp only [List.length_cons]; omega, again (by omega)⟩ (by simp) ⟨rfl, rfl, rfl, rfl, trivial⟩
            · have e1 : atabF t.cur (ckH (k :: k2 :: rest) es q) = (⟨es, t.cur⟩, false) := by simp [ckH, atabF, hf, hkx, h2, h3, h4]
              rw [e1]
              repeat (first | refine WL.pp rfl ?_ | refine WL.ns ?_ | refine WC.sr ?_ | refine WC.dF rfl (by first | omega | decide) ?_ | refine WC.reg ?_)
              refine WL.call rfl rfl rfl (errNew_any _ w8) ?_
              rintro e w9 ⟨u, rfl, hu, hU9⟩
              refine ⟨_, _, rfl, rfl, ?_⟩
              repeat (first | refine WL.pp rfl ?_ | refine WL.ns ?_ | refine X.sr ?_ | refine X.br ?_ | refine WC.ret ?_)
              exact X.ret_ rfl rfl ⟨_, _, rfl, .inr ⟨rfl, hu⟩, hT5.up hU9, hF5.trans (hU9.fm (Nat.le_refl _) (by have := hT5.lt; omega))⟩
end Go.Proofs.YtaccphdkapmdhaaGreat

