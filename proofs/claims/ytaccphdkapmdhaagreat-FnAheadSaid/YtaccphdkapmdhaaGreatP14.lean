/- All below an entry is taken out. No condition. -/
import Derived.Test.YtaccphdkapmdhaaGreatP13
namespace Go.Proofs.YtaccphdkapmdhaaGreat

section
attribute [local semireducible] WL WC X WD WX
variable {all : List Oper} {Q : Exit → Act → World → Prop} {N : Nat} {L L' : Env} {o : Oper} {rest : List Oper} {w : World} {S : World → Prop}

/-- 'x[:n]', in a region whose order is open. -/
theorem WX.s0 [POk Q] {sz len cap : Nat} {ad : Option Addr} {hi : Option Int} (n' : Nat) (hs : sideX all (o :: rest) = true) (hS : S w) (hg : grd all L o = some true) (h : slA L o.op = some (sz, ad, len, cap, none, hi)) (hhi : hi.getD len = (n' : Int)) (hc : n' ≤ cap)
    (hd : dstE N o (.slice ad n' cap) L = some L') (k : WX all Q N S L' rest w) : WX all Q N S L (o :: rest) w := by
  refine WX.r hs hS hg (fun w' _ a hf => ?_) hd k
  have := slA_run hf h (l := 0) rfl hhi (by omega) hc w'
  rw [this]
  have hz : ∀ a : Addr, a.add 0 = a := fun a => rfl
  cases ad <;> simp [hz]
end
attribute [local irreducible] binOp IntKind.wrap Sem.run

theorem splice_get {l cs : List Value} {o : Nat} (h : o + cs.length ≤ l.length) (k : Nat) : (l.take o ++ cs ++ l.drop (o + cs.length))[k]? = if k < o then l[k]? else if k < o + cs.length then cs[k - o]? else l[k]? := by
  have hl : (l.take o).length = o := by simp; omega
  split
  · rename_i hk
    rw [List.append_assoc, List.getElem?_append_left (by omega), List.getElem?_take, if_pos hk]
  · rename_i hk
    rw [List.append_assoc, List.getElem?_append_right (by omega), hl]
    split
    · rename_i hk2
      rw [List.getElem?_append_left (by omega)]
    · rename_i hk2
      rw [List.getElem?_append_right (by omega), List.getElem?_drop]
      congr 1
      omega

theorem EntIs.fm {B T w w' e xs k} (h : EntIs w e xs k) (hf : Fm B T w w') (hT : 5 ∉ T) : EntIs w' e xs k := by
  obtain ⟨h1, h2, h3, d, h4, h5⟩ := h
  exact ⟨h1, h2, h3, d, h4, h5.fm hf hT⟩

theorem EntIs.other {w : World} {e : Ent} {l cs : List Value} {o k : Nat} (h : EntIs w e l k) (hl : o + cs.length ≤ l.length) (hk : k + 4 ≤ o ∨ o + cs.length ≤ k) : EntIs w e (l.take o ++ cs ++ l.drop (o + cs.length)) k := by
  have key : ∀ (j : Nat) (v : Value), j < 4 → l[k + j]? = some v → (l.take o ++ cs ++ l.drop (o + cs.length))[k + j]? = some v := fun j v hj hv => by
    rw [splice_get hl]
    split
    · exact hv
    · split
      · omega
      · exact hv
  obtain ⟨h1, h2, h3, d, h4, h5⟩ := h
  exact ⟨key 0 _ (by omega) h1, key 1 _ (by omega) h2, key 2 _ (by omega) h3, d, key 3 _ (by omega) h4, h5⟩

theorem EntIs.here {w : World} {e : Ent} {l : List Value} {o : Nat} {d : Value} (hl : o + 4 ≤ l.length) (hd : RB w d e.name) :
    EntIs w e (l.take o ++ [.int .i32 e.parent, .int .u8 e.kind, .bool e.expl, d] ++ l.drop (o + 4)) o := by
  have key : ∀ (j : Nat) (v : Value), [Value.int .i32 e.parent, .int .u8 e.kind, .bool e.expl, d][j]? = some v → (l.take o ++ [Value.int .i32 e.parent, .int .u8 e.kind, .bool e.expl, d] ++ l.drop (o + 4))[o + j]? = some v := fun j v hv => by
    have hj : j < 4 := (List.getElem?_eq_some_iff.1 hv).1
    have := splice_get (l := l) (cs := [Value.int .i32 e.parent, .int .u8 e.kind, .bool e.expl, d]) (o := o) (by simpa using hl) (o + j)
    simp only [List.length_cons, List.length_nil, Nat.zero_add] at this
    rw [this, if_neg (by omega), if_pos (by omega), Nat.add_sub_cancel_left]
    exact hv
  exact ⟨key 0 _ rfl, key 1 _ rfl, key 2 _ rfl, d, key 3 _ rfl, hd⟩

/-- The memory while entries are taken out. -/
structure ClrM (w : World) (tb ge cap g1 n1 g2 n2 cn : Nat) (cu : Int) (es : List Ent) (i : Nat) (c : Clr) : Prop where
  tb : w.heap[tb]? = some (.cells ⟨[.slice (some ⟨ge, 0, none⟩) es.length cap, .int .i32 cu, .slice (some ⟨g1, 0, none⟩) n1 cn, .slice (some ⟨g2, 0, none⟩) n2 cn]⟩ 59 (0, 0))
  row : ∃ cur : List Value, w.heap[ge]? = some (.cells ⟨cur⟩ 145 (0, 0)) ∧ cur.length = cap * 4 ∧ EL w c.out cur ∧ (∀ (j : Nat) (a : Ent), i ≤ j → es[j]? = some a → EntIs w a cur (j * 4))
  gone : ∃ c1 : Array Value, w.heap[g1]? = some (.cells c1 4 (0, 0)) ∧ c1.size = cn ∧ (∀ (j : Nat) (b : Bool), c.gone[j]? = some b → c1[j]? = some (.bool b)) ∧ (∀ j, i ≤ j → j < es.length → c1[j]? = some (.bool false))
  remap : ∃ c2 : Array Value, w.heap[g2]? = some (.cells c2 21 (0, 0)) ∧ c2.size = cn ∧ (∀ (j m : Nat), c.gone[j]? = some false → c.remap[j]? = some m → c2[j]? = some (.int .i32 m))

/-- The buffers are there. -/
def ClrB (tb ge cap : Nat) (cu : Int) (cur : Array Value) (l : Nat) (w : World) (s : Nat × Nat × Nat × Nat × Nat) (w' : World) : Prop :=
  w'.heap[tb]? = some (.cells ⟨[.slice (some ⟨ge, 0, none⟩) l cap, .int .i32 cu, .slice (some ⟨s.1, 0, none⟩) s.2.1 s.2.2.2.2, .slice (some ⟨s.2.2.1, 0, none⟩) s.2.2.2.1 s.2.2.2.2]⟩ 59 (0, 0)) ∧ w'.heap[ge]? = some (.cells cur 145 (0, 0)) ∧ l ≤ s.2.2.2.2 ∧ tb < s.1 ∧ tb < s.2.2.1 ∧
    (∃ c1, w'.heap[s.1]? = some (.cells c1 4 (0, 0)) ∧ c1.size = s.2.2.2.2) ∧ (∃ c2, w'.heap[s.2.2.1]? = some (.cells c2 21 (0, 0)) ∧ c2.size = s.2.2.2.2) ∧ Fm tb [59, 145, 4, 21] w w'

set_option maxRecDepth 100000 in
set_option maxHeartbeats 16000000 in
theorem clear_any (tb id : Nat) (t : Trk) (w : World) (hT : TS w tb t) (hO : Ord t.ents) (hid : id < t.ents.length) (hm : t.ents.length ≤ 1000000000) :
    Calls PP 88 #[.pointer (some ⟨tb, 0, none⟩), .int .i32 (id : Int)] w fun e w' => e = .returned (.tuple #[]) ∧ TS w' tb ⟨clrE id t.ents, t.cur⟩ ∧ Fm tb [59, 145, 4, 21] w w' := by
  obtain ⟨ge, cap, cur, rb, mb, cn, h1, hge, hgb, hc1, hc2, hcs, hN, hB⟩ := hT.open (by omega)
  have hlt := lt_of_heap h1
  have hlt2 := lt_of_heap hgb
  have hrbc : ∃ ar nr, rb = .slice ar nr cn := by
    rcases hB with ⟨h2, rfl, _⟩ | ⟨g1, g2, n1, n2, c1, c2, rfl, _⟩
    · exact ⟨_, _, by rw [h2]⟩
    · exact ⟨_, _, rfl⟩
  obtain ⟨ar, nr, rfl⟩ := hrbc
  have hmbc : ∃ am nm, mb = .slice am nm cn := by
    rcases hB with ⟨h2, _, rfl⟩ | ⟨g1, g2, n1, n2, c1, c2, _, rfl, _⟩
    · exact ⟨_, _, by rw [h2]⟩
    · exact ⟨_, _, rfl⟩
  obtain ⟨am, nm, rfl⟩ := hmbc
  refine enter (L := [(0, .pointer (some ⟨tb, 0, none⟩)), (1, .int .i32 (id : Int))]) Tryz.func88 rfl rfl rfl ⟨rfl, rfl, trivial⟩ ?_
  repeat (first | refine WC.cut (x := .seq _ (.cond _ _ _)) (σ := Nat × Nat × Nat × Nat × Nat) (ClrB tb ge cap t.cur cur t.ents.length w) (fun _ => [(0, .pointer (some ⟨tb, 0, none⟩)), (1, .int .i32 (id : Int))]) ?_ ?_ | refine WC.seq ?_)
  · refine WC.drx (fun w' => w'.heap = w.heap) ?_
    have hd : w.drew.heap = w.heap := rfl
    have k0 : ∀ w' : World, w'.heap = w.heap → w'.cell? ⟨tb, 0, none⟩ = some (.slice (some ⟨ge, 0, none⟩) t.ents.length cap) := fun w' hw => cell_of (by rw [hw]; exact h1) rfl
    have k2 : ∀ w' : World, w'.heap = w.heap → w'.cell? ⟨tb, 2, none⟩ = some (.slice ar nr cn) := fun w' hw => cell_of (by rw [hw]; exact h1) rfl
    repeat (first | refine WX.p (by kernel_rfl) (by first | trivial | assumption) rfl ?_ | refine WX.ld (by kernel_rfl) hd rfl rfl k0 rfl ?_ | refine WX.ld (by kernel_rfl) hd rfl rfl k2 rfl ?_)
    refine WX.nil ?_
    by_cases hcap : cn < t.ents.length
    · have h1d : w.drew.heap[tb]? = _ := h1
      repeat (first | refine WL.pp rfl ?_ | refine WC.sr ?_ | refine WC.dT rfl (by first | omega | decide) ?_ | refine WL.ldB (b := tb) (i := 0) rfl rfl h1d rfl rfl ?_ | refine X.sn ?_)
      refine WL.mk t.ents.length t.ents.length rfl rfl rfl rfl rfl (Nat.le_refl _) (by omega) rfl (fun w3 z hz1 _ hA3 => ?_)
      have hsz3 : w.drew.heap.size = w.heap.size := rfl
      rw [hsz3]
      have h3 := hA3.keep h1d
      have hF3 : Fm tb [59, 145, 4, 21] w w3 := (hA3.fm (by rw [hsz3]; omega)).of_drew
      have hg1 := hA3.at_
      rw [hsz3] at hg1
      repeat (refine WL.pp rfl ?_)
      refine WL.stB rfl rfl rfl h3 rfl rfl (fun w4 hS4 => ?_)
      have h4 := hS4.at_
      have hF4 : Fm tb [59, 145, 4, 21] w w4 := hF3.trans (hS4.fm h3 (Nat.le_refl _) (by simp [tag]) rfl)
      have hg1' := hS4.keep hg1 (by omega)
      repeat (first | refine WL.pp rfl ?_ | refine WL.ns ?_ | refine WL.ldB (b := tb) (i := 0) rfl rfl h4 rfl rfl ?_ | refine WC.reg ?_)
      refine WL.mk t.ents.length t.ents.length rfl rfl rfl rfl rfl (Nat.le_refl _) (by omega) rfl (fun w5 z2 hz2 _ hA5 => ?_)
      have h5 := hA5.keep h4
      have hsz4 : w4.heap.size = w.heap.size + 1 := by rw [hS4.size, hA3.size, hsz3]
      rw [hsz4]
      have hg2 := hA5.at_
      rw [hsz4] at hg2
      have hF5 : Fm tb [59, 145, 4, 21] w w5 := hF4.trans (hA5.fm (by omega))
      have hg1'' := hA5.keep hg1'
      repeat (refine WL.pp rfl ?_)
      refine WL.stB rfl rfl rfl h5 rfl rfl (fun w6 hS6 => ?_)
      repeat (refine WL.nil ?_)
      refine X.cut (w.heap.size, t.ents.length, w.heap.size + 1, t.ents.length, t.ents.length) ⟨hS6.at_, hS6.keep (hA5.keep (hS4.keep (hA3.keep (show w.drew.heap[ge]? = _ from hgb)) (by omega))) (by omega), Nat.le_refl _, by dsimp only; omega, by dsimp only; omega, ⟨_, hS6.keep hg1'' (by dsimp only; omega), by dsimp only; rw [size_madeCells]; omega⟩, ⟨_, hS6.keep hg2 (by dsimp only; omega), by dsimp only; rw [size_madeCells]; omega⟩, hF5.trans (hS6.fm h5 (Nat.le_refl _) (by simp [tag]) rfl)⟩ ⟨rfl, rfl, trivial⟩
    · repeat (first | refine WC.dF rfl (by first | omega | decide) ?_ | refine X.sn ?_ | refine WC.skip ?_)
      rcases hB with ⟨h0, _, _⟩ | ⟨g1, g2, n1, n2, c1, c2, hr, hmm, hg1, hg2, hb1, hb2, hs1, hs2⟩
      · omega
      · simp only [Value.slice.injEq] at hr hmm
        obtain ⟨rfl, rfl, -⟩ := hr
        obtain ⟨rfl, rfl, -⟩ := hmm
        exact X.cut (g1, nr, g2, nm, cn) ⟨h1, hgb, by simp only; omega, hg1, hg2, ⟨_, hb1, hs1⟩, ⟨_, hb2, hs2⟩, (Fm.refl _ _ _).drew⟩ ⟨rfl, rfl, trivial⟩
  · clear hB h1 hT
    rintro ⟨g1, n1, g2, nn2, cn⟩ w1 ⟨h1, hgb, hcn, hg1, hg2, ⟨c1, hb1, hs1⟩, ⟨c2, hb2, hs2⟩, hF⟩
    dsimp only at h1 hcn hg1 hg2 hb1 hs1 hb2 hs2
    have hlt1 : w.heap.size ≤ w1.heap.size := hF.size
    have hd : w1.drew.heap = w1.heap := rfl
    have k0 : ∀ w' : World, w'.heap = w1.heap → w'.cell? ⟨tb, 0, none⟩ = some (.slice (some ⟨ge, 0, none⟩) t.ents.length cap) := fun w' hw => cell_of (by rw [hw]; exact h1) rfl
    have k2 : ∀ w' : World, w'.heap = w1.heap → w'.cell? ⟨tb, 2, none⟩ = some (.slice (some ⟨g1, 0, none⟩) n1 cn) := fun w' hw => cell_of (by rw [hw]; exact h1) rfl
    have k3 : ∀ w' : World, w'.heap = w1.heap → w'.cell? ⟨tb, 3, none⟩ = some (.slice (some ⟨g2, 0, none⟩) nn2 cn) := fun w' hw => cell_of (by rw [hw]; exact h1) rfl
    repeat (refine WC.seq ?_)
    refine WC.drx (fun w' => w'.heap = w1.heap) ?_
    repeat (first | refine WX.p (by kernel_rfl) (by first | trivial | assumption) rfl ?_ | refine WX.ld (by kernel_rfl) hd rfl rfl k0 rfl ?_ | refine WX.ld (by kernel_rfl) hd rfl rfl k2 rfl ?_ | refine WX.s0 t.ents.length (by kernel_rfl) hd rfl rfl rfl hcn rfl ?_)
    refine WX.nil ?_
    repeat (first | refine WC.seq ?_ | refine X.sn ?_)
    refine WC.drx (fun w' => w'.heap = w1.heap) ?_
    have hd2 : w1.drew.drew.heap = w1.heap := rfl
    repeat (first | refine WX.p (by kernel_rfl) (by first | trivial | assumption) rfl ?_ | refine WX.ld (by kernel_rfl) hd2 rfl rfl k0 rfl ?_ | refine WX.ld (by kernel_rfl) hd2 rfl rfl k3 rfl ?_ | refine WX.s0 t.ents.length (by kernel_rfl) hd2 rfl rfl rfl hcn rfl ?_)
    refine WX.nil ?_
    have hF2 : Fm tb [59, 145, 4, 21] w w1.drew.drew := hF.drew.drew
    generalize hw2 : w1.drew.drew = w2 at *
    have hh2 : w2.heap = w1.heap := by rw [← hw2]; rfl
    rw [← hh2] at h1 hgb hb1 hb2
    clear hw2 hh2 hd hd2 k0 k2 k3 hF hlt1
    repeat (first | refine WL.pp rfl ?_ | refine WL.ns ?_ | refine WC.sr ?_ | refine WC.seq ?_ | refine WC.block ?_ | refine X.sn ?_)
    refine WC.loop (σ := Nat) (I := fun k w' => w'.heap[tb]? = some (.cells ⟨[.slice (some ⟨ge, 0, none⟩) t.ents.length cap, .int .i32 (t.cur : Int), .slice (some ⟨g1, 0, none⟩) n1 cn, .slice (some ⟨g2, 0, none⟩) nn2 cn]⟩ 59 (0, 0)) ∧ w'.heap[ge]? = some (.cells cur 145 (0, 0)) ∧
      (∃ c1, w'.heap[g1]? = some (.cells c1 4 (0, 0)) ∧ c1.size = cn ∧ ∀ j, j < k → c1[j]? = some (.bool false)) ∧ (∃ c2, w'.heap[g2]? = some (.cells c2 21 (0, 0)) ∧ c2.size = cn) ∧ Fm tb [59, 145, 4, 21] w w' ∧ k ≤ t.ents.length)
      (m := fun k => t.ents.length - k) (Lf := fun k => [(0, .pointer (some ⟨tb, 0, none⟩)), (1, .int .i32 (id : Int)), (4, .slice (some ⟨g1, 0, none⟩) t.ents.length cn), (5, .slice (some ⟨g2, 0, none⟩) t.ents.length cn), (61, .int .i64 (t.ents.length : Int)), (62, .int .i64 (k : Int))])
      0 ⟨h1, hgb, ⟨_, hb1, hs1, fun j hj => by omega⟩, ⟨_, hb2, hs2⟩, hF2, Nat.zero_le _⟩ ⟨rfl, rfl, rfl, rfl, rfl, rfl, trivial⟩ ?_
    clear h1 hgb hb1 hb2 hF2 hs1 hs2 c1 c2
    rintro k w3 ⟨h1, hgb, ⟨c1, hb1, hs1, hz1⟩, ⟨c2, hb2, hs2⟩, hF, hk⟩
    by_cases hkl : k < t.ents.length
    · have hck : c1[k]? = some c1[k] := Array.getElem?_eq_getElem (by omega)
      repeat (first | refine WL.pp rfl ?_ | refine WL.ns ?_ | refine WC.sr ?_ | refine WC.dT rfl (by first | omega | decide) ?_ | refine WL.ix (i := k) rfl rfl rfl hkl (by rw [Nat.zero_add, Nat.mul_one]; rfl) ?_ | refine WC.seq ?_ | refine WC.reg ?_ | refine WC.block ?_ | refine X.sn ?_ | refine WC.skip ?_)
      refine WL.stB rfl rfl rfl hb1 hck rfl (fun w4 hS4 => ?_)
      have hne : g1 ≠ ge := by
        rintro rfl
        rw [hb1] at hgb
        cases hgb
      have hne2 : g1 ≠ g2 := by
        rintro rfl
        rw [hb1] at hb2
        cases hb2
      repeat (first | refine WL.pp rfl ?_ | refine WC.reg ?_ | refine WL.nil ?_ | refine X.sn ?_ | refine X.bn ?_ | refine WL.ad rfl rfl (by omega) rfl ?_)
      refine X.again (k + 1) ⟨hS4.keep h1 (by omega), hS4.keep hgb (Ne.symm hne), ⟨_, hS4.at_, by rw [Array.size_setIfInBounds]; exact hs1, fun j hj => ?_⟩, ⟨_, hS4.keep hb2 (Ne.symm hne2), hs2⟩, hF.trans (hS4.fm hb1 (by omega) (by simp [tag]) rfl), by omega⟩ (by omega) ⟨rfl, rfl, rfl, rfl, rfl, rfl, trivial⟩
      by_cases hjk : k = j
      · subst hjk
        rw [Array.getElem?_setIfInBounds_self]
        simp; omega
      · rw [Array.getElem?_setIfInBounds_ne hjk]
        exact hz1 j (by omega)
    · have hkl' : k = t.ents.length := by omega
      subst hkl'
      have hM0 : ClrM w3 tb ge cap g1 n1 g2 nn2 cn t.cur t.ents 0 ⟨[], [], []⟩ := by
        refine ⟨h1, ⟨cur.toList, hgb, by simpa using hcs, fun i e h => by simp at h, fun j a _ ha => (hN j a ha).fm hF (by simp)⟩, ⟨c1, hb1, hs1, fun j b h => by simp at h, fun j _ hj => hz1 j hj⟩, ⟨c2, hb2, hs2, fun j m h => by simp at h⟩⟩
      clear h1 hgb hb1 hb2 hs1 hs2 hz1 c1 c2
      repeat (first | refine WL.pp rfl ?_ | refine WL.ns ?_ | refine WC.sr ?_ | refine WC.dF rfl (by first | omega | decide) ?_ | refine WC.seq ?_ | refine WC.block ?_ | refine X.sn ?_ | refine X.sx ?_ | refine X.bx ?_ | refine WC.exit ?_)
      refine WC.loop (σ := Nat × Clr) (I := fun s w' => ClrM w' tb ge cap g1 n1 g2 nn2 cn t.cur t.ents s.1 s.2 ∧ ClrOk id t.ents s.1 s.2 ∧ s.1 ≤ t.ents.length ∧ (t.ents.drop s.1).foldl (clrOne id) s.2 = t.ents.foldl (clrOne id) ⟨[], [], []⟩ ∧ Fm tb [59, 145, 4, 21] w w')
        (m := fun s => t.ents.length - s.1) (Lf := fun s => [(0, .pointer (some ⟨tb, 0, none⟩)), (1, .int .i32 (id : Int)), (4, .slice (some ⟨g1, 0, none⟩) t.ents.length cn), (5, .slice (some ⟨g2, 0, none⟩) t.ents.length cn), (7, .int .i32 (s.2.out.length : Int)), (8, .int .i64 (s.1 : Int))])
        (0, ⟨[], [], []⟩) ⟨hM0, clr_zero _ _, Nat.zero_le _, rfl, hF⟩ ⟨rfl, rfl, rfl, rfl, rfl, rfl, trivial⟩ ?_
      clear hM0 hF
      rintro ⟨i, c⟩ w4 ⟨hM, hC, hi, hfold, hF⟩
      dsimp only at hM hC hi hfold ⊢
      obtain ⟨m1, ⟨cu, m2, m2l, m2E, m2R⟩, ⟨c1, m3, m3s, m3G, m3F⟩, ⟨c2, m4, m4s, m4R⟩⟩ := hM
      have hCg := hC.gone
      have hCr := hC.remap
      have hCo := hC.out
      have hne1 : g1 ≠ ge := by
        rintro rfl
        rw [m3] at m2
        cases m2
      have hne2 : g1 ≠ g2 := by
        rintro rfl
        rw [m3] at m4
        cases m4
      have hne3 : g2 ≠ ge := by
        rintro rfl
        rw [m4] at m2
        cases m2
      by_cases hil : i < t.ents.length
      · obtain ⟨e, he⟩ : ∃ e, t.ents[i]? = some e := ⟨_, List.getElem?_eq_getElem hil⟩
        have hdr : t.ents.drop i = e :: t.ents.drop (i + 1) := by
          rw [List.getElem?_eq_some_iff] at he
          obtain ⟨_, rfl⟩ := he
          exact List.drop_eq_getElem_cons hil
        rw [hdr, List.foldl_cons] at hfold
        obtain ⟨o1, o2, o3, o4⟩ := hO i e he
        have hstep := hC.step hO he
        obtain ⟨q1, q2, q3, d, q4, q5⟩ := m2R i e (Nat.le_refl _) he
        have x0 : w4.cell? ⟨ge, i * 4, none⟩ = some (.int .i32 e.parent) := cell_of m2 (by simpa using q1)
        have x1 : w4.cell? ⟨ge, i * 4 + 1, none⟩ = some (.int .u8 e.kind) := cell_of m2 (by simpa using q2)
        repeat (first | refine WL.pp rfl ?_ | refine WL.ns ?_ | refine WC.sr ?_ | refine WC.dT rfl (by first | omega | decide) ?_ | refine WL.ldB (b := tb) (i := 0) rfl rfl m1 rfl rfl ?_ | refine WL.ix (i := i) rfl rfl rfl hil (by rw [Nat.zero_add]; rfl) ?_ | refine WC.seq ?_ | refine WC.block ?_ | refine X.sn ?_ | refine WC.skip ?_)
        refine WL.ld rfl rfl x0 rfl ?_
        refine WL.pp rfl ?_
        refine WL.ns ?_
        refine WC.seq ?_
        refine WC.cut (x := .region _ _ _) (σ := Bool) (fun b w' => w' = w4 ∧ (b = true ↔ (e.parent ≥ 0 ∧ ((e.parent = (id : Int) ∧ e.kind ≠ 0) ∨ c.gone.getD e.parent.toNat false = true)))) (fun b => [(0, .pointer (some ⟨tb, 0, none⟩)), (1, .int .i32 (id : Int)), (4, .slice (some ⟨g1, 0, none⟩) t.ents.length cn), (5, .slice (some ⟨g2, 0, none⟩) t.ents.length cn), (7, .int .i32 (c.out.length : Int)), (8, .int .i64 (i : Int)), (109, .bool b)]) ?_ ?_
        · by_cases hp0 : 0 ≤ e.parent
          · by_cases hpi : e.parent = (id : Int)
            · repeat (first | refine WL.pp rfl ?_ | refine WL.ldB (b := tb) (i := 0) rfl rfl m1 rfl rfl ?_ | refine WL.ix (i := i) rfl rfl rfl hil (by rw [Nat.zero_add]; rfl) ?_ | refine WL.ld rfl rfl x1 rfl ?_ | refine WL.p rfl ?_ | refine WC.reg ?_ | refine WL.nil ?_ | refine WL.gT rfl rfl (by first | omega | decide) ?_)
              exact X.cut true ⟨rfl, by simp [hp0, hpi, o4]⟩ ⟨rfl, rfl, rfl, rfl, rfl, rfl, rfl, trivial⟩
            · obtain ⟨p, hp⟩ : ∃ p : Nat, e.parent = (p : Int) := ⟨e.parent.toNat, by omega⟩
              have hpl : p < c.gone.length := by omega
              have hpg : c.gone[p]? = some c.gone[p] := List.getElem?_eq_getElem hpl
              have x5 : w4.cell? ⟨g1, p, none⟩ = some (.bool c.gone[p]) := cell_of m3 (m3G p _ hpg)
              have hgd : c.gone.getD e.parent.toNat false = c.gone[p] := by rw [hp, Int.toNat_natCast, List.getD_eq_getElem?_getD, hpg]; rfl
              rw [hgd]
              generalize c.gone[p] = b at x5
              repeat (first | refine WL.pp rfl ?_ | refine WL.ix (i := p) rfl rfl hp (by omega) (by rw [Nat.zero_add, Nat.mul_one]; rfl) ?_ | refine WL.ld rfl rfl x5 rfl ?_ | refine WL.p rfl ?_ | refine WC.reg ?_ | refine WL.nil ?_ | refine WL.gT rfl rfl (by first | omega | decide) ?_ | refine WL.gF rfl rfl (by first | omega | decide) ?_)
              exact X.cut b ⟨rfl, by simp [hp0, hpi]⟩ ⟨rfl, rfl, rfl, rfl, rfl, rfl, rfl, trivial⟩
          · repeat (first | refine WL.pp rfl ?_ | refine WL.p rfl ?_ | refine WC.reg ?_ | refine WL.nil ?_ | refine WL.gF rfl rfl (by first | omega | decide) ?_)
            exact X.cut false ⟨rfl, by simp [hp0]⟩ ⟨rfl, rfl, rfl, rfl, rfl, rfl, rfl, trivial⟩
        · rintro b w5 ⟨rfl, hb⟩
          cases b with
          | true =>
            have hcl : clrOne id c e = ⟨c.out, c.remap ++ [0], c.gone ++ [true]⟩ := if_pos (hb.1 rfl)
            have hci : c1[i]? = some c1[i] := Array.getElem?_eq_getElem (by omega)
            repeat (first | refine WL.pp rfl ?_ | refine WC.sr ?_ | refine WC.bT rfl (by first | with_reducible rfl | exact Bool.not_false) ?_ | refine WL.ix (i := i) rfl rfl rfl hil (by rw [Nat.zero_add, Nat.mul_one]; rfl) ?_)
            refine WL.stB rfl rfl rfl m3 hci rfl (fun w6 hS6 => ?_)
            have hF6 : Fm tb [59, 145, 4, 21] w5 w6 := hS6.fm m3 (by omega) (by simp [tag]) rfl
            repeat (first | refine WL.pp rfl ?_ | refine WL.ns ?_ | refine WC.reg ?_ | refine WL.nil ?_ | refine X.sn ?_ | refine X.sx ?_ | refine X.bx ?_ | refine WC.exit ?_ | refine WL.ad rfl rfl (by omega) rfl ?_)
            rw [hcl] at hstep hfold
            refine X.again (i + 1, ⟨c.out, c.remap ++ [0], c.gone ++ [true]⟩) ⟨⟨hS6.keep m1 (by omega), ⟨cu, hS6.keep m2 (Ne.symm hne1), m2l, m2E.fm hF6 (by simp), fun j a hj ha => (m2R j a (by omega) ha).fm hF6 (by simp)⟩,
              ⟨_, hS6.at_, by rw [Array.size_setIfInBounds]; exact m3s, fun j b hj => ?_, fun j hj hjl => ?_⟩, ⟨c2, hS6.keep m4 (Ne.symm hne2), m4s, fun j m hj hm => ?_⟩⟩, hstep, by dsimp only; omega, hfold, hF.trans hF6⟩ (by dsimp only; omega) ⟨rfl, rfl, rfl, rfl, rfl, rfl, trivial⟩
            · by_cases hij : i = j
              · subst hij
                rw [List.getElem?_append_right (by omega), hCg, Nat.sub_self] at hj
                simp only [List.getElem?_cons_zero, Option.some.injEq] at hj
                subst hj
                rw [Array.getElem?_setIfInBounds_self]
                simp; omega
              · rw [Array.getElem?_setIfInBounds_ne hij]
                have hjl := (List.getElem?_eq_some_iff.1 hj).1
                simp only [List.length_append, List.length_singleton] at hjl
                rw [List.getElem?_append_left (by omega)] at hj
                exact m3G j b hj
            · rw [Array.getElem?_setIfInBounds_ne (by omega)]
              exact m3F j (by omega) hjl
            · have hjl := (List.getElem?_eq_some_iff.1 hj).1
              simp only [List.length_append, List.length_singleton] at hjl
              by_cases hij : j = i
              · subst hij
                rw [List.getElem?_append_right (by omega), hCg, Nat.sub_self] at hj
                simp at hj
              · rw [List.getElem?_append_left (by omega)] at hj hm
                exact m4R j m hj hm
          | false =>
            have hcl : clrOne id c e = ⟨c.out ++ [if c.out.length = c.gone.length then e else { e with parent := (c.remap.getD e.parent.toNat 0 : Nat) }], c.remap ++ [c.out.length], c.gone ++ [false]⟩ := if_neg (fun h => by have := hb.2 h; cases this)
            have hci : c2[i]? = some c2[i] := Array.getElem?_eq_getElem (by omega)
            repeat (first | refine WL.pp rfl ?_ | refine WC.sr ?_ | refine WC.bF rfl (by first | with_reducible rfl | exact Bool.not_true) ?_ | refine WL.ix (i := i) rfl rfl rfl hil (by rw [Nat.zero_add, Nat.mul_one]; rfl) ?_ | refine X.sn ?_ | refine WC.skip ?_)
            refine WL.stB rfl rfl rfl m4 hci rfl (fun w6 hS6 => ?_)
            have hF6 : Fm tb [59, 145, 4, 21] w5 w6 := hS6.fm m4 (by omega) (by simp [tag]) rfl
            have n1' := hS6.keep m1 (by omega)
            have n2 := hS6.keep m2 (Ne.symm hne3)
            have n3 := hS6.keep m3 hne2
            have n4 := hS6.at_
            have hG : ∀ (j : Nat) (b : Bool), (c.gone ++ [false])[j]? = some b → c1[j]? = some (.bool b) := fun j b hj => by
              have hjl := (List.getElem?_eq_some_iff.1 hj).1
              simp only [List.length_append, List.length_singleton] at hjl
              by_cases hij : j = i
              · subst hij
                rw [List.getElem?_append_right (by omega), hCg, Nat.sub_self] at hj
                simp only [List.getElem?_cons_zero, Option.some.injEq] at hj
                subst hj
                exact m3F j (Nat.le_refl _) hil
              · rw [List.getElem?_append_left (by omega)] at hj
                exact m3G j b hj
            have hR : ∀ (j m : Nat), (c.gone ++ [false])[j]? = some false → (c.remap ++ [c.out.length])[j]? = some m → (c2.setIfInBounds i (.int .i32 (c.out.length : Int)))[j]? = some (.int .i32 m) := fun j m hj hm => by
              have hjl := (List.getElem?_eq_some_iff.1 hj).1
              simp only [List.length_append, List.length_singleton] at hjl
              by_cases hij : j = i
              · subst hij
                rw [List.getElem?_append_right (by omega), hCr, Nat.sub_self] at hm
                simp only [List.getElem?_cons_zero, Option.some.injEq] at hm
                subst hm
                rw [Array.getElem?_setIfInBounds_self]
                simp; omega
              · rw [List.getElem?_append_left (by omega)] at hj hm
                rw [Array.getElem?_setIfInBounds_ne (by omega)]
                exact m4R j m hj hm
            have hsz6 : (c2.setIfInBounds i (.int .i32 (c.out.length : Int))).size = cn := by rw [Array.size_setIfInBounds]; exact m4s
            have hq5 := q5.fm hF6 (by simp)
            have hE6 := m2E.fm hF6 (by simp)
            have hR6 : ∀ (j : Nat) (a : Ent), i ≤ j → t.ents[j]? = some a → EntIs w6 a cu (j * 4) := fun j a hj ha => (m2R j a hj ha).fm hF6 (by simp)
            by_cases hni : c.out.length = i
            · have e1 : clrOne id c e = ⟨c.out ++ [e], c.remap ++ [c.out.length], c.gone ++ [false]⟩ := by rw [hcl, if_pos (by omega)]
              rw [e1] at hstep hfold
              repeat (first | refine WL.pp rfl ?_ | refine WL.ns ?_ | refine WC.sr ?_ | refine WC.dF rfl (by first | omega | decide) ?_ | refine WL.ad32 rfl rfl (by omega) rfl ?_ | refine WC.seq ?_ | refine WC.reg ?_ | refine WL.nil ?_ | refine X.sn ?_ | refine X.bn ?_ | refine WC.skip ?_ | refine WL.ad rfl rfl (by omega) rfl ?_ | refine WL.cv rfl rfl (wrap_i32 (by omega)) rfl ?_)
              refine X.again (i + 1, ⟨c.out ++ [e], c.remap ++ [c.out.length], c.gone ++ [false]⟩) ⟨⟨n1', ⟨cu, n2, m2l, ?_, fun j a hj ha => hR6 j a (by omega) ha⟩, ⟨_, n3, m3s, hG, fun j hj hjl => m3F j (by omega) hjl⟩, ⟨_, n4, hsz6, hR⟩⟩, hstep, by dsimp only; omega, hfold, hF.trans hF6⟩ (by dsimp only; omega) ⟨rfl, rfl, rfl, rfl, by rw [show (((i + 1, (⟨c.out ++ [e], c.remap ++ [c.out.length], c.gone ++ [false]⟩ : Clr)).2.out.length : Nat) : Int) = (c.out.length : Int) + 1 by simp]; rfl, rfl, trivial⟩
              intro j a ha
              by_cases hj : j < c.out.length
              · rw [List.getElem?_append_left hj] at ha
                exact hE6 j a ha
              · have hj' : j = i := by
                  have := (List.getElem?_eq_some_iff.1 ha).1
                  simp at this; omega
                subst hj'
                rw [List.getElem?_append_right (by omega), hni, Nat.sub_self] at ha
                simp only [List.getElem?_cons_zero, Option.some.injEq] at ha
                subst ha
                exact hR6 j _ (Nat.le_refl _) he
            · have hp0 : 0 ≤ e.parent := by
                rcases o2 with o2 | o2
                · omega
                · exact o2
              obtain ⟨p, hp⟩ : ∃ p : Nat, e.parent = (p : Int) := ⟨e.parent.toNat, by omega⟩
              have hpl : p < c.gone.length := by omega
              have hpg0 : c.gone[p]? = some c.gone[p] := List.getElem?_eq_getElem hpl
              have hpg : c.gone[p]? = some false := by
                cases hx : c.gone[p] with
                | false => rw [hpg0, hx]
                | true =>
                  have := hb.2 ⟨hp0, .inr (by rw [hp, Int.toNat_natCast, List.getD_eq_getElem?_getD, hpg0, hx]; rfl)⟩
                  cases this
              obtain ⟨m, hpm, hmn⟩ := hC.keep p hpg
              have hgm : c.remap.getD e.parent.toNat 0 = m := by rw [hp, Int.toNat_natCast, List.getD_eq_getElem?_getD, hpm]; rfl
              have e1 : clrOne id c e = ⟨c.out ++ [{ e with parent := (m : Int) }], c.remap ++ [c.out.length], c.gone ++ [false]⟩ := by rw [hcl, if_neg (by omega), hgm]
              rw [e1] at hstep hfold
              have xr : w6.cell? ⟨g2, p, none⟩ = some (.int .i32 m) := cell_of n4 (hR p m (by rw [List.getElem?_append_left (by omega)]; exact hpg) (by rw [List.getElem?_append_left (by omega)]; exact hpm))
              have hdv : oneV d = true := by obtain ⟨_, _, rfl, _⟩ := hq5; rfl
              have hcells : ∀ (j : Nat) (u : Value), [Value.int .i32 e.parent, .int .u8 e.kind, .bool e.expl, d][j]? = some u → w6.cell? ⟨ge, i * 4 + j, none⟩ = some u := fun j u hu => by
                refine cell_of n2 ?_
                rw [List.getElem?_toArray]
                match j, hu with
                | 0, hu => simp only [List.getElem?_cons_zero, Option.some.injEq] at hu; subst hu; exact q1
                | 1, hu => simp only [List.getElem?_cons_succ, List.getElem?_cons_zero, Option.some.injEq] at hu; subst hu; exact q2
                | 2, hu => simp only [List.getElem?_cons_succ, List.getElem?_cons_zero, Option.some.injEq] at hu; subst hu; exact q3
                | 3, hu => simp only [List.getElem?_cons_succ, List.getElem?_cons_zero, Option.some.injEq] at hu; subst hu; exact q4
                | j + 4, hu => simp at hu
              repeat (first | refine WL.pp rfl ?_ | refine WL.ns ?_ | refine WC.sr ?_ | refine WC.dT rfl (by first | omega | decide) ?_ | refine WL.ldB (b := tb) (i := 0) rfl rfl n1' rfl rfl ?_ | refine WL.ix (i := i) rfl rfl rfl hil (by rw [Nat.zero_add]; rfl) ?_ | refine WL.lg (cs := [.int .i32 e.parent, .int .u8 e.kind, .bool e.expl, d]) rfl rfl rfl hcells rfl ?_ | refine WC.seq ?_ | refine WL.cv rfl rfl (wrap_i32 (by omega)) rfl ?_)
              refine WL.al rfl rfl rfl (fun w7 hA7 => ?_)
              refine WL.sg rfl rfl rfl (by simpa [oneV] using hdv) hA7.at_ (by simp) rfl (fun w8 hS8 => ?_)
              have hF8 : Fm tb [59, 145, 4, 21] w6 w8 := (hA7.fm (by have := hF6.size; have := hF.size; omega)).trans (hS8.fm hA7.at_ (by have := hF6.size; have := hF.size; omega) (by simp [tag]) rfl)
              have hge6 := lt_of_heap n2
              have htb6 := lt_of_heap n1'
              have hg16 := lt_of_heap n3
              have hg26 := lt_of_heap n4
              generalize heb : w6.heap.size = eb at *
              have r1 := hS8.keep (hA7.keep n1') (by omega)
              have r2 := hS8.keep (hA7.keep n2) (by omega)
              have r3 := hS8.keep (hA7.keep n3) (by omega)
              have r4 := hS8.keep (hA7.keep n4) (by omega)
              have r5 := hS8.at_
              simp only [List.take_zero, List.nil_append, Nat.zero_add, List.drop_succ_cons, List.drop_nil, List.append_nil, List.drop_zero] at r5
              have xr8 : w8.cell? ⟨g2, p, none⟩ = some (.int .i32 m) := cell_of r4 (hR p m (by rw [List.getElem?_append_left (by omega)]; exact hpg) (by rw [List.getElem?_append_left (by omega)]; exact hpm))
              clear hS8 hA7
              repeat (first | refine WL.pp rfl ?_ | refine WL.ns ?_ | refine WC.sr ?_ | refine WL.ldB (b := eb) (i := 0) rfl rfl r5 rfl rfl ?_ | refine WL.ix (i := p) rfl rfl hp (by omega) (by rw [Nat.zero_add, Nat.mul_one]; rfl) ?_ | refine WL.ld rfl rfl xr8 rfl ?_)
              refine WL.stB rfl rfl rfl r5 rfl rfl (fun w9 hS9 => ?_)
              have s1 := hS9.keep r1 (by omega)
              have s2 := hS9.keep r2 (by omega)
              have s3 := hS9.keep r3 (by omega)
              have s4 := hS9.keep r4 (by omega)
              have s5 : w9.heap[eb]? = some (.cells ⟨[.int .i32 m, .int .u8 e.kind, .bool e.expl, d]⟩ 145 (0, 0)) := hS9.at_
              have hF9 : Fm tb [59, 145, 4, 21] w6 w9 := hF8.trans (hS9.fm r5 (by omega) (by simp [tag]) rfl)
              clear hS9 r1 r2 r3 r4 r5 xr8 hF8
              repeat (refine WL.ns ?_)
              refine WC.drx (fun w' => w'.heap[tb]? = some (.cells ⟨[.slice (some ⟨ge, 0, none⟩) t.ents.length cap, .int .i32 (t.cur : Int), .slice (some ⟨g1, 0, none⟩) n1 cn, .slice (some ⟨g2, 0, none⟩) nn2 cn]⟩ 59 (0, 0)) ∧ w'.heap[eb]? = some (.cells ⟨[.int .i32 m, .int .u8 e.kind, .bool e.expl, d]⟩ 145 (0, 0))) ?_
              have hSd : w9.drew.heap[tb]? = some (.cells ⟨[.slice (some ⟨ge, 0, none⟩) t.ents.length cap, .int .i32 (t.cur : Int), .slice (some ⟨g1, 0, none⟩) n1 cn, .slice (some ⟨g2, 0, none⟩) nn2 cn]⟩ 59 (0, 0)) ∧ w9.drew.heap[eb]? = some (.cells ⟨[.int .i32 m, .int .u8 e.kind, .bool e.expl, d]⟩ 145 (0, 0)) := ⟨s1, s5⟩
              have hnl : c.out.length * 4 + 4 ≤ cu.length := by omega
              repeat (first | refine WX.p (by kernel_rfl) (by first | trivial | assumption) rfl ?_ | refine WX.ld (by kernel_rfl) hSd rfl rfl (fun w' hw' => cell_of (b := tb) (i := 0) hw'.1 rfl) rfl ?_ | refine WX.lg (cs := [.int .i32 m, .int .u8 e.kind, .bool e.expl, d]) (by kernel_rfl) hSd rfl rfl rfl (fun w' hw' => cells_block hw'.2 rfl) rfl ?_ | refine WX.ix (i := c.out.length) (by kernel_rfl) hSd rfl rfl rfl (by omega) (by rw [Nat.zero_add]; rfl) ?_)
              refine WX.sg (by kernel_rfl) rfl rfl rfl (by simpa [oneV] using hdv) (show w9.drew.heap[ge]? = some (.cells ⟨cu⟩ 145 (0, 0)) from s2) hnl rfl (fun w10 hS10 => ⟨⟨hS10.keep (show w9.drew.heap[tb]? = _ from s1) (by omega), hS10.keep (show w9.drew.heap[eb]? = _ from s5) (by omega)⟩, ?_⟩)
              have hF10 : Fm tb [59, 145, 4, 21] w6 w10 := hF9.drew.trans (hS10.fm (show w9.drew.heap[ge]? = some (.cells ⟨cu⟩ 145 (0, 0)) from s2) (by omega) (by simp [tag]) rfl)
              refine WX.nil ?_
              repeat (first | refine WL.pp rfl ?_ | refine WL.ad32 rfl rfl (by omega) rfl ?_ | refine WC.reg ?_ | refine WL.nil ?_ | refine X.sn ?_ | refine X.bn ?_ | refine WL.ad rfl rfl (by omega) rfl ?_)
              have hlcs : [Value.int .i32 m, .int .u8 e.kind, .bool e.expl, d].length = 4 := rfl
              refine X.again (i + 1, ⟨c.out ++ [{ e with parent := (m : Int) }], c.remap ++ [c.out.length], c.gone ++ [false]⟩) ⟨⟨hS10.keep (show w9.drew.heap[tb]? = _ from s1) (by omega), ⟨_, hS10.at_, by simp only [List.length_append, List.length_take, List.length_drop, hlcs]; omega, ?_, fun j a hj ha => ?_⟩, ⟨_, hS10.keep (show w9.drew.heap[g1]? = _ from s3) hne1, m3s, hG, fun j hj hjl => m3F j (by omega) hjl⟩, ⟨_, hS10.keep (show w9.drew.heap[g2]? = _ from s4) hne3, hsz6, hR⟩⟩, hstep, by dsimp only; omega, hfold, (hF.trans hF6).trans hF10⟩ (by dsimp only; omega) ⟨rfl, rfl, rfl, rfl, by rw [show (((i + 1, (⟨c.out ++ [{ e with parent := (m : Int) }], c.remap ++ [c.out.length], c.gone ++ [false]⟩ : Clr)).2.out.length : Nat) : Int) = (c.out.length : Int) + 1 by simp]; rfl, rfl, trivial⟩
              · intro j a ha
                by_cases hj : j < c.out.length
                · rw [List.getElem?_append_left hj] at ha
                  exact ((hE6 j a ha).fm hF10 (by simp)).other (cs := [Value.int .i32 m, .int .u8 e.kind, .bool e.expl, d]) (by rw [hlcs]; exact hnl) (.inl (by omega))
                · have hj' : j = c.out.length := by
                    have := (List.getElem?_eq_some_iff.1 ha).1
                    simp at this; omega
                  subst hj'
                  rw [List.getElem?_append_right (Nat.le_refl _), Nat.sub_self] at ha
                  simp only [List.getElem?_cons_zero, Option.some.injEq] at ha
                  subst ha
                  exact EntIs.here (e := { e with parent := (m : Int) }) hnl (hq5.fm hF10 (by simp))
              · exact ((hR6 j a (by omega) ha).fm hF10 (by simp)).other (cs := [Value.int .i32 m, .int .u8 e.kind, .bool e.expl, d]) (by rw [hlcs]; exact hnl) (.inr (by rw [hlcs]; omega))
      · have hie : i = t.ents.length := by omega
        rw [List.drop_eq_nil_of_le (by omega)] at hfold
        simp only [List.foldl_nil] at hfold
        have hout : clrE id t.ents = c.out := by unfold clrE; rw [← hfold]
        rw [hout]
        repeat (first | refine WL.pp rfl ?_ | refine WL.ns ?_ | refine WC.sr ?_ | refine WC.dF rfl (by first | omega | decide) ?_ | refine WL.ldB (b := tb) (i := 0) rfl rfl m1 rfl rfl ?_ | refine WL.s0 c.out.length rfl rfl rfl (by omega) rfl ?_ | refine WC.seq ?_ | refine WC.reg ?_ | refine X.sn ?_ | refine X.sx ?_ | refine X.bx ?_ | refine WC.exit ?_)
        refine WL.stB rfl rfl rfl m1 rfl rfl (fun w5 hS5 => ?_)
        repeat (refine WL.nil ?_)
        have hF5 : Fm tb [59, 145, 4, 21] w4 w5 := hS5.fm m1 (Nat.le_refl _) (by simp [tag]) rfl
        refine X.end_ rfl rfl ⟨rfl, ⟨.slice (some ⟨ge, 0, none⟩) c.out.length cap, cu.take (c.out.length * 4), .slice (some ⟨g1, 0, none⟩) n1 cn, .slice (some ⟨g2, 0, none⟩) nn2 cn, cn, hS5.at_, ⟨?_, .inr ⟨ge, cap, ⟨cu⟩, rfl, by omega, hS5.keep m2 (by omega), by dsimp only; omega, hc2, m2l, rfl⟩⟩, ?_, .inr ⟨g1, g2, n1, nn2, c1, c2, rfl, rfl, hg1, hg2, hS5.keep m3 (by omega), hS5.keep m4 (by omega), m3s, m4s⟩⟩, hF.trans hF5⟩
        · rw [List.length_take]
          dsimp only
          omega
        · intro j a ha
          have hjl := (List.getElem?_eq_some_iff.1 ha).1
          have key : ∀ (k : Nat) (v : Value), k < 4 → cu[j * 4 + k]? = some v → (cu.take (c.out.length * 4))[j * 4 + k]? = some v := fun k v hk hv => by
            rw [List.getElem?_take, if_pos (by simp only at hjl; omega)]; exact hv
          obtain ⟨q1, q2, q3, d, q4, q5⟩ := (m2E j a ha).fm hF5 (by simp)
          exact ⟨key 0 _ (by omega) q1, key 1 _ (by omega) q2, key 2 _ (by omega) q3, d, key 3 _ (by omega) q4, q5⟩
end Go.Proofs.YtaccphdkapmdhaaGreat

