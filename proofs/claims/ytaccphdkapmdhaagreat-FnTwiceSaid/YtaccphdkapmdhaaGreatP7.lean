/- 'push', 'at', 'Range', 'offsetOf', 'rangeFrom'. 'at', 'Range', 'offsetOf', 'rangeFrom', parts of keys as nodes. Keys with points, as nodes. The nodes of lists and tables, hung one behind the other. The number 7. The number 7, as a node. No condition. -/
import Derived.Test.YtaccphdkapmdhaaGreatP6
namespace Go.Proofs.YtaccphdkapmdhaaGreat
attribute [local irreducible] binOp IntKind.wrap Sem.run

theorem bsNode (a b c d e f g : Value) (w : World) : (Instr.buildSlice 48 1 ⟨[(0, .agg ⟨[a, b, c, d, e, f, g]⟩)]⟩).run PP w = .ok (.slice (some ⟨w.heap.size, 0, none⟩) 1 1) (w.alloc (.cells ⟨[a, b, c, d, e, f, g]⟩ 104 (0, 0))) := by kernel_rfl

section
attribute [local semireducible] WL WC X WD Sem.run
variable {all : List Oper} {Q : Exit → Act → World → Prop} {N : Nat} {L L' : Env} {o : Oper} {rest : List Oper} {w : World}

/-- 'copy' into a row, of elements of several cells. -/
theorem WL.cpn {t e s g dl dc n c : Nat} {ad : Addr} {cur : Array Value} (m : Nat) (cs : List Value) (hg : grd all L o = some true) (h : cpA L o.op = some (t, t, .slice (some ⟨g, 0, none⟩) dl dc, .slice (some ad) n c)) (ht : rowT t = some (e, s))
    (hgc : w.heap[g]? = some (.cells cur e (0, 0))) (hm : Nat.min n dl = m) (hn : cs.length = m * s) (hcs : ∀ j u, cs[j]? = some u → w.cell? (ad.add j) = some u) (hfit : cs.length ≤ cur.size) (h1 : ∀ u ∈ cs, oneV u = true)
    (hd : dstE N o (.int .i64 (m : Int)) L = some L')
    (k : ∀ w', St w g (.cells (cs ++ cur.toList.drop cs.length).toArray e (0, 0)) w' → WL all Q N L' rest w') : WL all Q N L (o :: rest) w := by
  obtain ⟨i, z, hu, hi, hz, hsz, hby, hzs, h0⟩ := row_parts ht
  have hone : ∀ u ∈ cs, u.oneCell' = true := fun u hu => by
    have := h1 u hu
    cases u <;> first | rfl | (simp [oneV] at this)
  have hf := run_firstCells_some (P := PP) w s m ad n c cs hn hcs
  have hst := run_storeCells_at PP g 0 e cs 0 cur w hgc (by simpa using hfit) hone
  simp only [Nat.add_zero, Nat.zero_add, List.take_zero, List.nil_append] at hst
  have hr : ∀ ty, (Builtin.copy_ #[t, t] ty #[.slice (some ⟨g, 0, none⟩) dl dc, .slice (some ad) n c]).run PP w = .ok (goInt m) (w.setRow g (cs ++ cur.toList.drop cs.length).toArray) := fun ty => by
    simp [Builtin.copy_, run_underlying hu, Builtin.lenOf, sizeOf, typeInfo, hi, hsz, hm, hf, hst]
  refine WL.of_run (w' := w.setRow g (cs ++ cur.toList.drop cs.length).toArray) hg (fun a hf => ?_) hd (k _ ⟨rfl, rfl, rfl, by simp, setRow_heap w g cur _ e (0, 0) hgc, fun k hk => setRow_other w g k _ hk⟩)
  obtain ⟨dst, op, ty, pos, after, guard⟩ := o
  simp only at h
  unfold cpA at h
  split at h
  · rename_i x y t1 t2
    split at h
    · rename_i v' u' hx hy
      simp only [Option.some.injEq, Prod.mk.injEq] at h
      obtain ⟨rfl, rfl, rfl, rfl⟩ := h
      simp [execOp, resolve, invoke, builtin, hf.eval hx, hf.eval hy, hr, goInt]
    · cases h
  · cases h

/-- 'copy' of nothing at all. -/
theorem WL.cp0 {t e s g dl dc : Nat} (hg : grd all L o = some true) (h : cpA L o.op = some (t, t, .slice (some ⟨g, 0, none⟩) dl dc, .slice none 0 0)) (ht : rowT t = some (e, s))
    (hd : dstE N o (.int .i64 0) L = some L') (k : WL all Q N L' rest w) : WL all Q N L (o :: rest) w := by
  obtain ⟨i, z, hu, hi, hz, hsz, hby, hzs, h0⟩ := row_parts ht
  have hr : ∀ ty, (Builtin.copy_ #[t, t] ty #[.slice (some ⟨g, 0, none⟩) dl dc, .slice none 0 0]).run PP w = .ok (goInt 0) w := fun ty =>
    run_copy_nil (P := PP) w t t ty e ⟨g, 0, none⟩ dl dc hu (by rw [hi]; rfl)
  refine WL.of_run hg (fun a hf => ?_) hd k
  obtain ⟨dst, op, ty, pos, after, guard⟩ := o
  simp only at h
  unfold cpA at h
  split at h
  · rename_i x y t1 t2
    split at h
    · rename_i v' u' hx hy
      simp only [Option.some.injEq, Prod.mk.injEq] at h
      obtain ⟨rfl, rfl, rfl, rfl⟩ := h
      simp [execOp, resolve, invoke, builtin, hf.eval hx, hf.eval hy, hr, goInt]
    · cases h
  · cases h
end

/-- 'append' where there is room. -/
theorem apRoom {B t e s n m c g cap : Nat} {xs : List Value} {ad : Addr} {w : World} (ty : TypeId) (news : List Value)
    (ht : rowT t = some (e, s)) (hown : w.ownsRow B e s (.slice (some ⟨g, 0, none⟩) n cap) n xs) (hl : news.length = m * s) (hnews : ∀ j u, news[j]? = some u → w.cell? (ad.add j) = some u) (h1 : ∀ u ∈ news, oneV u = true)
    (hroom : n + m ≤ cap) :
    ∃ w' cur', (Builtin.append_ #[t, t] ty #[.slice (some ⟨g, 0, none⟩) n cap, .slice (some ad) m c]).run PP w = .ok (.slice (some ⟨g, 0, none⟩) (n + m) cap) w' ∧ w'.ownsRow B e s (.slice (some ⟨g, 0, none⟩) (n + m) cap) (n + m) (xs ++ news) ∧ St w g (.cells cur' e (0, 0)) w' := by
  obtain ⟨i, z, hu, hi, hz, hsz, hby, hzs, h0⟩ := row_parts ht
  have hone : ∀ u ∈ news, u.oneCell' = true := fun u hu => by
    have := h1 u hu
    cases u <;> first | rfl | (simp [oneV] at this)
  rcases hown.2 with ⟨hn, _⟩ | ⟨g', cap', cur, hn, hbg, hgg, hgc, hgm, hgs, hgt⟩
  · simp at hn
  · simp only [Value.slice.injEq, Option.some.injEq, Addr.mk.injEq] at hn
    obtain ⟨⟨rfl, -, -⟩, -, rfl⟩ := hn
    subst hsz
    have hfit : n * i.size + news.length ≤ cur.size := by rw [hl, hgs, ← Nat.add_mul]; exact Nat.mul_le_mul_right _ hroom
    have hr := run_append_room (P := PP) w t ty e i hu hi g n cap cur hgg ad m c news hl hnews hone hroom hfit
    have hlen : (xs ++ news).length = (n + m) * i.size := by rw [List.length_append, hown.1, hl, Nat.add_mul]
    refine ⟨_, _, hr, ⟨hlen, .inr ⟨g, cap, _, rfl, hbg, setRow_heap w g cur _ e _ hgg, hroom, hgm, ?_, ?_⟩⟩, ⟨rfl, rfl, rfl, by simp, setRow_heap w g cur _ e _ hgg, fun k hk => setRow_other w g k _ hk⟩⟩
    · simp only [List.size_toArray, List.length_append, List.length_take, List.length_drop, Array.length_toList]
      omega
    · rw [hgt, ← hlen]
      exact List.take_left

/-- The cells of a new node, its parser set. -/
theorem node_new {w : World} {pp : Nat} {kind nx ch : Nat} {a b : Int} {d : Value} {data : Option Bs} (hd : isSl d) (hr : ∀ s, data = some s → RB w d s) :
    NodeIs w pp ⟨kind, data, nx, ch⟩ [.int .i64 kind, .int .u32 a, .int .u32 b, d, .pointer (some ⟨pp, 0, none⟩), .int .i32 nx, .int .i32 ch] 0 :=
  ⟨rfl, ⟨a, b, rfl, rfl⟩, ⟨d, rfl, hd, hr⟩, rfl, rfl, rfl⟩

theorem take_drop7 {xs ys : List Value} {n : Nat} (h : xs.length = n) : (xs ++ ys).take n = xs := by
  rw [List.take_append_of_le_length (by omega), List.take_of_length_le (by omega)]

set_option maxRecDepth 100000 in
set_option maxHeartbeats 8000000 in
theorem push_any (pp : Nat) (data left : Value) (nest : Int) (ns : List ANode) (kind nx ch : Nat) (a b : Int) (d : Value) (dt : Option Bs) (w : World) (hP : PS w pp data left nest ns) (hd : isSl d) (hr : ∀ s, dt = some s → RB w d s) (hm : ns.length ≤ 400000000) :
    Calls PP 43 #[.pointer (some ⟨pp, 0, none⟩), .agg ⟨[.int .i64 kind, .int .u32 a, .int .u32 b, d, .pointer none, .int .i32 nx, .int .i32 ch]⟩] w fun e w' =>
      e = .returned (.int .i32 ((ns.length + 1 : Nat) : Int)) ∧ PS w' pp data left nest (ns ++ [⟨kind, dt, nx, ch⟩]) ∧ Fm pp [52, 104] w w' := by
  obtain ⟨nv, xs, h1, h2, h3⟩ := hP
  have hpp := lt_of_heap h1
  obtain ⟨ad, cap, hnv⟩ : ∃ ad cap, nv = .slice ad ns.length cap := by
    rcases h2.2 with ⟨rfl, hn⟩ | ⟨g, cap, cur, rfl, _⟩
    · exact ⟨none, 0, by rw [hn]⟩
    · exact ⟨_, _, rfl⟩
  refine enter (L := [(0, .pointer (some ⟨pp, 0, none⟩)), (1, .agg ⟨[.int .i64 kind, .int .u32 a, .int .u32 b, d, .pointer none, .int .i32 nx, .int .i32 ch]⟩)]) Tryz.func43 rfl rfl rfl ⟨rfl, rfl, trivial⟩ ?_
  repeat (refine WC.sr ?_)
  refine WL.bx rfl rfl rfl (fun w1 hA => ?_)
  have hbx := hA.at_
  have h1a := hA.keep h1
  have h2a : w1.ownsRow (pp + 1) 104 7 nv ns.length xs := own_same h2 (fun k o _ h => hA.keep h)
  have hF1 : Fm pp [52, 104] w w1 := hA.fm (by omega)
  generalize hbxn : w.heap.size = bx at *
  repeat (first | refine WL.pp rfl ?_ | refine WL.ns ?_ | refine WC.cut (x := .seq _ (.cond _ _ _)) (σ := Value) (fun nv' w' => ∃ g' cap', nv' = .slice (some ⟨g', 0, none⟩) ns.length cap' ∧ ns.length < cap' ∧ w'.heap[pp]? = some (.cells ⟨[.bool false, data, left, nv', .nilIface, .int .i64 nest]⟩ 52 (0, 0)) ∧ w'.ownsRow (pp + 1) 104 7 nv' ns.length xs ∧ w'.heap[bx]? = some (.cells ⟨[.int .i64 kind, .int .u32 a, .int .u32 b, d, .pointer none, .int .i32 nx, .int .i32 ch]⟩ 104 (0, 0)) ∧ Fm pp [52, 104] w w' ∧ nv'.ownBlock ≠ some bx) (fun _ => [(0, .pointer (some ⟨pp, 0, none⟩)), (3, .pointer (some ⟨bx, 0, none⟩))]) ?_ ?_ | refine WC.seq ?_)
  · refine WC.drx (fun w' => w'.heap[pp]? = some (.cells ⟨[.bool false, data, left, nv, .nilIface, .int .i64 nest]⟩ 52 (0, 0))) ?_
    have h1b : w1.drew.heap[pp]? = some (.cells ⟨[.bool false, data, left, nv, .nilIface, .int .i64 nest]⟩ 52 (0, 0)) := h1a
    subst hnv
    repeat (first | refine WX.p (by kernel_rfl) (by first | trivial | assumption) rfl ?_ | refine WX.ld (by kernel_rfl) (by assumption) rfl rfl (fun w' hw' => cell_of hw' rfl) rfl ?_)
    refine WX.nil ?_
    have hone := h3.one h2.1
    by_cases hcap : ns.length = cap
    · subst hcap
      repeat (first | refine WL.pp rfl ?_ | refine WL.ns ?_ | refine WC.sr ?_ | refine WC.dT rfl (by first | omega | decide) ?_ | refine WL.ldB (v := .slice ad ns.length ns.length) rfl rfl h1b rfl rfl ?_ | refine WL.mu rfl rfl (by omega) rfl ?_ | refine WC.cut (x := .seq _ (.cond _ _ _)) (σ := Nat) (fun c w' => w' = w1.drew ∧ ns.length < c ∧ c ≤ 800000064) (fun c => [(0, .pointer (some ⟨pp, 0, none⟩)), (3, .pointer (some ⟨bx, 0, none⟩)), (5, .int .i64 (c : Int))]) ?_ ?_ | refine X.sn ?_)
      · by_cases h64 : ns.length < 32
        · repeat (first | refine WL.pp rfl ?_ | refine WC.dT rfl (by first | omega | decide) ?_ | refine WC.reg ?_ | refine WL.nil ?_)
          exact X.cut 64 ⟨rfl, by omega, by omega⟩ ⟨rfl, rfl, rfl, trivial⟩
        · repeat (first | refine WC.dF rfl (by first | omega | decide) ?_ | refine WC.skip ?_)
          exact X.cut (2 * ns.length) ⟨rfl, by omega, by omega⟩ ⟨rfl, rfl, rfl, trivial⟩
      · rintro c w2 ⟨rfl, hc1, hc2⟩
        repeat (first | refine WL.pp rfl ?_ | refine WC.sr ?_ | refine WL.ldB (v := .slice ad ns.length ns.length) rfl rfl h1b rfl rfl ?_)
        refine WL.mk ns.length c rfl rfl rfl rfl rfl (by omega) (by omega) rfl (fun w3 z hz1 _ hA3 => ?_)
        have h1c := hA3.keep h1b
        have hsz : w1.drew.heap.size = bx + 1 := by rw [← hbxn]; exact hA.size
        have hbxc := hA3.keep (show w1.drew.heap[bx]? = some _ from hbx)
        have hF3 : Fm pp [52, 104] w w3 := hF1.drew.trans (hA3.fm (by omega))
        rcases h2.2 with ⟨hnil, hn0⟩ | ⟨g, cap', cur, hsl, hbg, hg, hgc, hgm, hgs, hgt⟩
        · simp only [Value.slice.injEq] at hnil
          obtain ⟨rfl, -, -⟩ := hnil
          have hns : ns = [] := List.eq_nil_of_length_eq_zero hn0
          subst hns
          have hxs : xs = [] := List.eq_nil_of_length_eq_zero h2.1
          subst hxs
          repeat (first | refine WL.pp rfl ?_ | refine WL.ns ?_ | refine WC.sr ?_ | refine WL.ldB (v := .slice none 0 0) rfl rfl h1c rfl rfl ?_ | refine WL.cp0 rfl rfl rfl rfl ?_ | refine WC.reg ?_)
          refine WL.stB rfl rfl rfl h1c rfl rfl (fun w4 hS4 => ?_)
          repeat (refine WL.nil ?_)
          refine X.cut _ ⟨_, _, rfl, hc1, hS4.at_, ⟨rfl, .inr ⟨_, c, _, rfl, by omega, hS4.keep hA3.at_ (by omega), Nat.zero_le _, by simp only [maxLen]; omega, size_madeCells _ _, by simp⟩⟩, hS4.keep hbxc (by omega), hF3.trans (hS4.fm h1c (Nat.le_refl _) (by simp [tag]) rfl), ?_⟩ ⟨rfl, rfl, trivial⟩
          simp only [Value.ownBlock, hsz, ne_eq, Option.some.injEq]
          omega
        · simp only [Value.slice.injEq] at hsl
          obtain ⟨rfl, -, rfl⟩ := hsl
          have hg3 := hA3.keep (show w1.drew.heap[g]? = some _ from hA.keep hg)
          have hcell : ∀ j u, xs[j]? = some u → w3.cell? ((⟨g, 0, none⟩ : Addr).add j) = some u := fun j u hu => by
            rw [add_zero]
            refine cell_of hg3 ?_
            rw [← hgt, List.getElem?_take] at hu
            split at hu
            · simpa using hu
            · cases hu
          have hlx : xs.length ≤ (madeCells z (c * 7)).size := by
            rw [size_madeCells, h2.1]
            exact Nat.mul_le_mul_right 7 (Nat.le_of_lt hc1)
          repeat (first | refine WL.pp rfl ?_ | refine WL.ns ?_ | refine WC.sr ?_ | refine WL.ldB (v := .slice (some ⟨g, 0, none⟩) ns.length ns.length) rfl rfl h1c rfl rfl ?_)
          refine WL.cpn ns.length xs rfl rfl rfl hA3.at_ (Nat.min_self _) h2.1 hcell hlx hone rfl (fun w4 hS4 => ?_)
          have h1d := hS4.keep h1c (by omega)
          repeat (first | refine WL.pp rfl ?_ | refine WL.ns ?_ | refine WC.reg ?_)
          refine WL.stB rfl rfl rfl h1d rfl rfl (fun w5 hS5 => ?_)
          repeat (refine WL.nil ?_)
          refine X.cut _ ⟨_, _, rfl, hc1, hS5.at_, ⟨h2.1, .inr ⟨_, c, _, rfl, by omega, hS5.keep hS4.at_ (by omega), by omega, by simp only [maxLen]; omega, ?_, ?_⟩⟩, hS5.keep (hS4.keep hbxc (by omega)) (by omega), (hF3.trans (hS4.fm hA3.at_ (by omega) (by simp [tag]) rfl)).trans (hS5.fm h1d (Nat.le_refl _) (by simp [tag]) rfl), ?_⟩ ⟨rfl, rfl, trivial⟩
          · have := size_madeCells z (c * 7)
            simp only [List.size_toArray, List.length_append, List.length_drop, Array.length_toList]
            omega
          · rw [← h2.1]
            simp
          · simp only [Value.ownBlock, hsz, ne_eq, Option.some.injEq]
            omega
    · repeat (first | refine WC.dF rfl (by first | omega | decide) ?_ | refine X.sn ?_ | refine WC.skip ?_)
      rcases h2.2 with ⟨hnil, hn0⟩ | ⟨g, cap', cur, hsl, hbg, hg, hgc, hgm, hgs, hgt⟩
      · simp only [Value.slice.injEq] at hnil
        omega
      · simp only [Value.slice.injEq] at hsl
        obtain ⟨rfl, -, rfl⟩ := hsl
        exact X.cut _ ⟨g, cap, rfl, by omega, h1b, own_same h2a (fun _ _ _ h => h), hbx, hF1.drew, fun e => by
          have := (h2.lt bx e).2
          omega⟩ ⟨rfl, rfl, trivial⟩
  · rintro nv2 w2 ⟨g2, cap2, rfl, hcap2, hP2, hO2, hB2, hF2, hne⟩
    repeat (first | refine WL.pp rfl ?_ | refine WC.sr ?_)
    refine WL.stB rfl rfl rfl hB2 rfl rfl (fun w3 hS3 => ?_)
    have hP3 := hS3.keep hP2 (by omega)
    have hO3 : w3.ownsRow (pp + 1) 104 7 (.slice (some ⟨g2, 0, none⟩) ns.length cap2) ns.length xs := own_same hO2 (fun k o hk h => hS3.keep h (fun e => hne (by rw [hk, e])))
    have hB3 : w3.heap[bx]? = some (.cells ⟨[.int .i64 kind, .int .u32 a, .int .u32 b, d, .pointer (some ⟨pp, 0, none⟩), .int .i32 nx, .int .i32 ch]⟩ 104 (0, 0)) := hS3.at_
    have hbx3 := lt_of_heap hB2
    have hF3 : Fm pp [52, 104] w w3 := by
      refine ⟨hS3.os.trans hF2.os, hS3.tape.trans hF2.tape, hS3.output.trans hF2.output, by rw [hS3.size]; exact hF2.size, fun k hk => (hS3.oth k (by omega)).trans (hF2.old k hk), fun k o ho ht => hS3.keep (hF2.keep k o ho ht) (by have := lt_of_heap ho; omega), fun k o ho => ?_⟩
      obtain ⟨o', h1, h2⟩ := hF2.tags k o ho
      exact ⟨o', hS3.keep h1 (by have := lt_of_heap ho; omega), h2⟩
    clear hS3 hP2 hO2 hB2
    repeat (first | refine WL.ns ?_ | refine WC.seq ?_)
    refine WC.draw (fun _ => True) ?_
    generalize hw4 : w3.drew = w4
    have hP4 : w4.heap[pp]? = some (.cells ⟨[.bool false, data, left, .slice (some ⟨g2, 0, none⟩) ns.length cap2, .nilIface, .int .i64 nest]⟩ 52 (0, 0)) := by subst hw4; exact hP3
    have hO4 : w4.ownsRow (pp + 1) 104 7 (.slice (some ⟨g2, 0, none⟩) ns.length cap2) ns.length xs := by subst hw4; exact hO3
    have hB4 : w4.heap[bx]? = some (.cells ⟨[.int .i64 kind, .int .u32 a, .int .u32 b, d, .pointer (some ⟨pp, 0, none⟩), .int .i32 nx, .int .i32 ch]⟩ 104 (0, 0)) := by subst hw4; exact hB3
    have hF4 : Fm pp [52, 104] w w4 := by subst hw4; exact hF3.drew
    have hgt : bx < w4.heap.size := lt_of_heap hB4
    clear hP3 hO3 hB3 hF3 hw4
    refine WD.tp 0 rfl (by kernel_rfl) POk.ok trivial rfl ?_
    refine WD.tp 1 rfl (by kernel_rfl) POk.ok trivial rfl ?_
    refine WD.tp 2 rfl (by kernel_rfl) POk.ok trivial rfl ?_
    refine WD.tp 3 rfl (by kernel_rfl) POk.ok trivial rfl ?_
    have r4 : ∀ {N : Nat} {L : Env} {o : Oper} (a' : Act), Fr N L a' → ldA L o.op = some ⟨pp, 3, none⟩ → (execOp a'.eval o).run PP w4 = .ok (.value (.slice (some ⟨g2, 0, none⟩) ns.length cap2)) w4 := fun a' hf h => ldA_run hf h (cell_of hP4 rfl)
    have r5 : ∀ {N : Nat} {L : Env} {o : Oper} (a' : Act), Fr N L a' → lgA L o.op = some (7, ⟨bx, 0, none⟩) → (execOp a'.eval o).run PP w4 = .ok (.value (.agg ⟨[.int .i64 kind, .int .u32 a, .int .u32 b, d, .pointer (some ⟨pp, 0, none⟩), .int .i32 nx, .int .i32 ch]⟩)) w4 := fun a' hf h => lgA_run (cs := [.int .i64 kind, .int .u32 a, .int .u32 b, d, .pointer (some ⟨pp, 0, none⟩), .int .i32 nx, .int .i32 ch]) hf h rfl (cells_block hB4 rfl)
    have hA5 := alloc_al w4 (.cells ⟨[.int .i64 kind, .int .u32 a, .int .u32 b, d, .pointer (some ⟨pp, 0, none⟩), .int .i32 nx, .int .i32 ch]⟩ 104 (0, 0))
    have r6 : ∀ {N : Nat} {L : Env} {o : Oper} (a' : Act), Fr N L a' → bsA L o.op = some (48, 1, [(0, .agg ⟨[.int .i64 kind, .int .u32 a, .int .u32 b, d, .pointer (some ⟨pp, 0, none⟩), .int .i32 nx, .int .i32 ch]⟩)]) → (execOp a'.eval o).run PP w4 = .ok (.value (.slice (some ⟨w4.heap.size, 0, none⟩) 1 1)) (w4.alloc (.cells ⟨[.int .i64 kind, .int .u32 a, .int .u32 b, d, .pointer (some ⟨pp, 0, none⟩), .int .i32 nx, .int .i32 ch]⟩ 104 (0, 0))) := fun a' hf h => by
      rw [bsA_run hf h]
      simp [bsNode]
    generalize w4.alloc (.cells ⟨[.int .i64 kind, .int .u32 a, .int .u32 b, d, .pointer (some ⟨pp, 0, none⟩), .int .i32 nx, .int .i32 ch]⟩ 104 (0, 0)) = w5 at hA5 r6
    have r4b : ∀ {N : Nat} {L : Env} {o : Oper} (a' : Act), Fr N L a' → ldA L o.op = some ⟨pp, 3, none⟩ → (execOp a'.eval o).run PP w5 = .ok (.value (.slice (some ⟨g2, 0, none⟩) ns.length cap2)) w5 := fun a' hf h => ldA_run hf h (cell_of (hA5.keep hP4) rfl)
    have hO5 : w5.ownsRow (pp + 1) 104 7 (.slice (some ⟨g2, 0, none⟩) ns.length cap2) ns.length xs := own_same hO4 (fun _ _ _ h => hA5.keep h)
    obtain ⟨w6, cur6, hr6, hO6, hS6⟩ := apRoom (B := pp + 1) (t := 48) (e := 104) (s := 7) (n := ns.length) (m := 1) (c := 1) (w := w5) (g := g2) (cap := cap2) (ad := ⟨w4.heap.size, 0, none⟩) 48 [.int .i64 kind, .int .u32 a, .int .u32 b, d, .pointer (some ⟨pp, 0, none⟩), .int .i32 nx, .int .i32 ch] rfl hO5 rfl (fun j u hu => by rw [add_zero]; exact cell_of hA5.at_ (by simpa using hu)) (by
        intro u hu
        simp only [List.mem_cons, List.not_mem_nil, or_false] at hu
        rcases hu with rfl | rfl | rfl | rfl | rfl | rfl | rfl <;> first | rfl | (cases u <;> first | rfl | exact hd.elim)) hcap2
    have hg2 : pp < g2 ∧ ∃ cur2, w5.heap[g2]? = some (.cells cur2 104 (0, 0)) := by
      rcases hO5.2 with ⟨hn, _⟩ | ⟨g, cap, cur, hn, hbg, hgg, _⟩
      · simp at hn
      · simp only [Value.slice.injEq, Option.some.injEq, Addr.mk.injEq] at hn
        obtain ⟨⟨rfl, -, -⟩, -, rfl⟩ := hn
        exact ⟨hbg, cur, hgg⟩
    obtain ⟨hg2, cur2, hgc2⟩ := hg2
    have r7 : ∀ {N : Nat} {L : Env} {o : Oper} (a' : Act), Fr N L a' → o.type = 48 → apA L o.op = some (48, .slice (some ⟨g2, 0, none⟩) ns.length cap2, .slice (some ⟨w4.heap.size, 0, none⟩) 1 1) → (execOp a'.eval o).run PP w5 = .ok (.value (.slice (some ⟨g2, 0, none⟩) (ns.length + 1) cap2)) w6 := fun a' hf ht h => by
      rw [apA_run hf h, ht]
      simp [hr6]
    have hP6 : w6.heap[pp]? = some (.cells ⟨[.bool false, data, left, .slice (some ⟨g2, 0, none⟩) ns.length cap2, .nilIface, .int .i64 nest]⟩ 52 (0, 0)) := hS6.keep (hA5.keep hP4) (by omega)
    have hS7 := setCell_st (i := 3) (.slice (some ⟨g2, 0, none⟩) (ns.length + 1) cap2) hP6
    have r10 : ∀ {N : Nat} {L : Env} {o : Oper} (a' : Act), Fr N L a' → oneV (.slice (some ⟨g2, 0, none⟩) (ns.length + 1) cap2) = true → stA L o.op = some (⟨pp, 3, none⟩, (.slice (some ⟨g2, 0, none⟩) (ns.length + 1) cap2)) → (execOp a'.eval o).run PP w6 = .ok .skip (w6.setCell ⟨pp, 3, none⟩ (.slice (some ⟨g2, 0, none⟩) (ns.length + 1) cap2)) := fun a' hf h1 h => stA_run hf h h1 hP6 rfl
    generalize hw7 : w6.setCell ⟨pp, 3, none⟩ (.slice (some ⟨g2, 0, none⟩) (ns.length + 1) cap2) = w7 at hS7 r10
    have hfin : PS w7 pp data left nest (ns ++ [⟨kind, dt, nx, ch⟩]) ∧ Fm pp [52, 104] w w7 := by
      have hF5 : Fm pp [52, 104] w w5 := hF4.trans (hA5.fm (by omega))
      have hF6 : Fm pp [52, 104] w5 w6 := hS6.fm hgc2 (by omega) (by simp [tag]) rfl
      have hF7 : Fm pp [52, 104] w w7 := (hF5.trans hF6).trans (hS7.fm hP6 (Nat.le_refl _) (by simp [tag]) rfl)
      refine ⟨⟨(.slice (some ⟨g2, 0, none⟩) (ns.length + 1) cap2), xs ++ [.int .i64 kind, .int .u32 a, .int .u32 b, d, .pointer (some ⟨pp, 0, none⟩), .int .i32 nx, .int .i32 ch], hS7.at_, ?_, ?_⟩, hF7⟩
      · rw [List.length_append, List.length_singleton]
        refine own_same hO6 (fun k o hk h => hS7.keep h (fun e => ?_))
        have := (hO6.lt k hk).1
        omega
      · exact (h3.fm hF7 (by decide)).snoc h2.1 (node_new hd (fun s hs => (hr s hs).fm hF7 (by decide)))
    refine WD.br (i := 4) (j := 5) (by kernel_rfl) rfl rfl rfl rfl (fun a' hf => r4 a' hf rfl) (fun a' hf => r5 a' hf rfl) trivial trivial rfl rfl ?_ ?_
    · refine WD.rv 5 (by kernel_rfl) rfl rfl (fun a' hf => r5 a' hf rfl) trivial rfl ?_
      refine WD.rv 6 (by kernel_rfl) rfl rfl (fun a' hf => r6 a' hf rfl) trivial rfl ?_
      refine WD.weaken (L' := [(49, .slice (some ⟨g2, 0, none⟩) ns.length cap2), (51, .slice (some ⟨w4.heap.size, 0, none⟩) 1 1), (45, .pointer (some ⟨pp, 0, none⟩)), (0, .pointer (some ⟨pp, 0, none⟩))]) ⟨rfl, rfl, rfl, rfl, trivial⟩ ?_
      refine WD.rv 7 (by kernel_rfl) rfl rfl (fun a' hf => r7 a' hf rfl rfl) trivial rfl ?_
      refine WD.tp 8 rfl (by kernel_rfl) POk.ok trivial rfl ?_
      refine WD.tp 9 rfl (by kernel_rfl) POk.ok trivial rfl ?_
      refine WD.rk 10 (by kernel_rfl) rfl rfl (fun a' hf => r10 a' hf rfl rfl) trivial rfl ?_
      refine WD.nil (by kernel_rfl) ?_
      repeat (first | refine WL.pp rfl ?_ | refine WL.ns ?_ | refine WC.sr ?_ | refine WL.ldB (v := .slice (some ⟨g2, 0, none⟩) (ns.length + 1) cap2) rfl rfl hS7.at_ rfl rfl ?_ | refine X.sn ?_ | refine WC.ret ?_ | refine WL.cv rfl rfl (wrap_i32 (by omega)) rfl ?_)
      exact X.ret_ rfl rfl ⟨rfl, hfin.1, hfin.2⟩
    · refine WD.br (i := 4) (j := 6) (by kernel_rfl) rfl rfl rfl rfl (fun a' hf => r4 a' hf rfl) (fun a' hf => r6 a' hf rfl) trivial trivial rfl rfl ?_ ?_
      · refine WD.rv 6 (by kernel_rfl) rfl rfl (fun a' hf => r6 a' hf rfl) trivial rfl ?_
        refine WD.weaken (L' := [(49, .slice (some ⟨g2, 0, none⟩) ns.length cap2), (51, .slice (some ⟨w4.heap.size, 0, none⟩) 1 1), (45, .pointer (some ⟨pp, 0, none⟩)), (0, .pointer (some ⟨pp, 0, none⟩))]) ⟨rfl, rfl, rfl, rfl, trivial⟩ ?_
        refine WD.rv 7 (by kernel_rfl) rfl rfl (fun a' hf => r7 a' hf rfl rfl) trivial rfl ?_
        refine WD.tp 8 rfl (by kernel_rfl) POk.ok trivial rfl ?_
        refine WD.tp 9 rfl (by kernel_rfl) POk.ok trivial rfl ?_
        refine WD.rk 10 (by kernel_rfl) rfl rfl (fun a' hf => r10 a' hf rfl rfl) trivial rfl ?_
        refine WD.nil (by kernel_rfl) ?_
        repeat (first | refine WL.pp rfl ?_ | refine WL.ns ?_ | refine WC.sr ?_ | refine WL.ldB (v := .slice (some ⟨g2, 0, none⟩) (ns.length + 1) cap2) rfl rfl hS7.at_ rfl rfl ?_ | refine X.sn ?_ | refine WC.ret ?_ | refine WL.cv rfl rfl (wrap_i32 (by omega)) rfl ?_)
        exact X.ret_ rfl rfl ⟨rfl, hfin.1, hfin.2⟩
      · refine WD.rv 4 (by kernel_rfl) rfl rfl (fun a' hf => r4b a' hf rfl) trivial rfl ?_
        refine WD.weaken (L' := [(49, .slice (some ⟨g2, 0, none⟩) ns.length cap2), (51, .slice (some ⟨w4.heap.size, 0, none⟩) 1 1), (45, .pointer (some ⟨pp, 0, none⟩)), (0, .pointer (some ⟨pp, 0, none⟩))]) ⟨rfl, rfl, rfl, rfl, trivial⟩ ?_
        refine WD.rv 7 (by kernel_rfl) rfl rfl (fun a' hf => r7 a' hf rfl rfl) trivial rfl ?_
        refine WD.tp 8 rfl (by kernel_rfl) POk.ok trivial rfl ?_
        refine WD.tp 9 rfl (by kernel_rfl) POk.ok trivial rfl ?_
        refine WD.rk 10 (by kernel_rfl) rfl rfl (fun a' hf => r10 a' hf rfl rfl) trivial rfl ?_
        refine WD.nil (by kernel_rfl) ?_
        repeat (first | refine WL.pp rfl ?_ | refine WL.ns ?_ | refine WC.sr ?_ | refine WL.ldB (v := .slice (some ⟨g2, 0, none⟩) (ns.length + 1) cap2) rfl rfl hS7.at_ rfl rfl ?_ | refine X.sn ?_ | refine WC.ret ?_ | refine WL.cv rfl rfl (wrap_i32 (by omega)) rfl ?_)
        exact X.ret_ rfl rfl ⟨rfl, hfin.1, hfin.2⟩
end Go.Proofs.YtaccphdkapmdhaaGreat

namespace Go.Proofs.YtaccphdkapmdhaaGreat

section
attribute [local semireducible] WL WC X WD
/-- The result stands in a block. -/
theorem X.retC {fn : Func} {R : Ending → World → Prop} {N : Nat} {L : Env} {w : World} {x b n : Nat} {t e : TypeId} {cs : List Value} {fz : Nat × Nat} (hr : fn.results = ⟨[.cell x t]⟩) (hx : look L x = some (.pointer (some ⟨b, 0, none⟩))) (ht : aggSize t = some n)
    (hb : w.heap[b]? = some (.cells ⟨cs⟩ e fz)) (hn : cs.length = n) (hR : R (.returned (.agg ⟨cs⟩)) w) : X .ret (bodyPost PP fn R) N L w := fun a hf => by
  refine bodyPost_ret ?_ hf.defers hR
  rw [results_eq, hr]
  subst hn
  obtain ⟨h1, h2⟩ := agg_run ht w
  have h3 := loadCells_run (w := w) (b := b) (ofs := 0) cs (cells_block hb (by simp))
  simp [List.mapM_toArray, resF, hf.getD hx, asAddr, loadVar, h1, h2, h3]
end
attribute [local irreducible] binOp IntKind.wrap Sem.run

set_option maxHeartbeats 4000000 in
theorem at_any (pp g n cap h i : Nat) (c0 data left err nest : Value) (w : World) (hb : w.heap[pp]? = some (.cells ⟨[c0, data, left, .slice (some ⟨g, 0, none⟩) n cap, err, nest]⟩ 52 (0, 0))) (hi : h = i + 1) (hn : i < n) (hm : n ≤ 1000000000) :
    Calls PP 102 #[.pointer (some ⟨pp, 0, none⟩), .int .i32 (h : Int)] w fun e w' => e = .returned (.pointer (some ⟨g, i * 7, none⟩)) ∧ w' = w := by
  refine enter (L := [(0, .pointer (some ⟨pp, 0, none⟩)), (1, .int .i32 (h : Int))]) Tryz.func102 rfl rfl rfl ⟨rfl, rfl, trivial⟩ ?_
  repeat (first | refine WL.pp rfl ?_ | refine WL.ns ?_ | refine WC.sr ?_ | refine WL.ldB (v := .slice (some ⟨g, 0, none⟩) n cap) rfl rfl hb rfl rfl ?_ | refine WL.su32 rfl rfl (by omega) rfl ?_ | refine WL.ix (i := i) rfl rfl (by omega) hn rfl ?_ | refine WC.ret ?_)
  refine X.ret_ rfl rfl ⟨?_, rfl⟩
  simp [resV]

theorem bdRange (a b : Int) (w : World) : (Instr.build 101 ⟨[(0, .int .u32 a), (1, .int .u32 b)]⟩).run PP w = .ok (.agg ⟨[.int .u32 a, .int .u32 b]⟩) w := by kernel_rfl

set_option maxHeartbeats 4000000 in
theorem range_any (pp E C : Nat) (ad : Option Addr) (c0 v left nv err nest : Value) (w : World) (hb : w.heap[pp]? = some (.cells ⟨[c0, .slice ad E C, left, nv, err, nest]⟩ 52 (0, 0))) (hv : Rg C E v) (hC : C ≤ 9223372036854775807) (hE : E ≤ 100000000) :
    Calls PP 44 #[.pointer (some ⟨pp, 0, none⟩), v] w fun e w' => ∃ a b : Int, e = .returned (.agg ⟨[.int .u32 a, .int .u32 b]⟩) ∧ Up w.heap.size w w' := by
  obtain ⟨ad', n, cap, rfl, h1, h2⟩ := hv
  refine enter (L := [(0, .pointer (some ⟨pp, 0, none⟩)), (1, .slice ad' n cap)]) Tryz.func44 rfl rfl rfl ⟨rfl, rfl, trivial⟩ ?_
  repeat (refine WC.sr ?_)
  refine WL.al rfl rfl rfl (fun w1 hA => ?_)
  have hb1 := hA.keep hb
  repeat (first | refine WL.pp rfl ?_ | refine WL.ns ?_ | refine WC.sr ?_ | refine WC.dF rfl (by first | omega | decide) ?_ | refine WL.ldB (v := .slice ad E C) rfl rfl hb1 rfl rfl ?_ | refine WL.p rfl ?_ | refine WC.seq ?_ | refine X.sn ?_ | refine WC.skip ?_ | refine WL.ad rfl rfl (by omega) rfl ?_ | refine WL.su rfl rfl (by omega) rfl ?_ | refine WL.gF rfl rfl (by first | omega | decide) ?_ | refine WL.cv rfl rfl (wrap_u32 (by omega)) rfl ?_)
  refine WL.bd rfl rfl (bdRange _ _) rfl ?_
  refine WL.sg rfl rfl rfl (by simp [oneV]) hA.at_ (by simp) rfl (fun w2 hS => ?_)
  repeat (first | refine WL.ns ?_ | refine WC.ret ?_)
  exact X.retC rfl rfl rfl hS.at_ rfl ⟨_, _, rfl, (hA.up (Nat.le_refl _)).trans (hS.up (Nat.le_refl _))⟩

set_option maxHeartbeats 4000000 in
theorem offsetOf_any (pp E C n cap : Nat) (ad ad' : Option Addr) (c0 left nv err nest : Value) (w : World) (hb : w.heap[pp]? = some (.cells ⟨[c0, .slice ad E C, left, nv, err, nest]⟩ 52 (0, 0))) (hC : C ≤ 9223372036854775807) (hc : cap ≤ 9223372036854775807) :
    Calls PP 47 #[.pointer (some ⟨pp, 0, none⟩), .slice ad' n cap] w fun e w' => e = .returned (.int .i64 ((C : Int) - cap)) ∧ w' = w := by
  refine enter (L := [(0, .pointer (some ⟨pp, 0, none⟩)), (1, .slice ad' n cap)]) Tryz.func47 rfl rfl rfl ⟨rfl, rfl, trivial⟩ ?_
  repeat (first | refine WL.pp rfl ?_ | refine WL.ns ?_ | refine WC.sr ?_ | refine WL.ldB (v := .slice ad E C) rfl rfl hb rfl rfl ?_ | refine WC.ret ?_ | refine WL.su rfl rfl (by omega) rfl ?_)
  exact X.ret_ rfl rfl ⟨rfl, rfl⟩

set_option maxHeartbeats 4000000 in
theorem rangeFrom_any (pp E C n cap n2 cap2 : Nat) (ad ad' ad2 : Option Addr) (c0 left nv err nest : Value) (w : World) (hb : w.heap[pp]? = some (.cells ⟨[c0, .slice ad E C, left, nv, err, nest]⟩ 52 (0, 0))) (hC : C ≤ 9223372036854775807) (hc : cap ≤ 9223372036854775807) (hc2 : cap2 ≤ 9223372036854775807) :
    Calls PP 105 #[.pointer (some ⟨pp, 0, none⟩), .slice ad' n cap, .slice ad2 n2 cap2] w fun e w' => ∃ a b : Int, e = .returned (.agg ⟨[.int .u32 a, .int .u32 b]⟩) ∧ Up w.heap.size w w' := by
  refine enter (L := [(0, .pointer (some ⟨pp, 0, none⟩)), (1, .slice ad' n cap), (2, .slice ad2 n2 cap2)]) Tryz.func105 rfl rfl rfl ⟨rfl, rfl, rfl, trivial⟩ ?_
  repeat (refine WC.sr ?_)
  refine WL.al rfl rfl rfl (fun w1 hA => ?_)
  have hb1 := hA.keep hb
  repeat (first | refine WL.pp rfl ?_ | refine WL.ns ?_ | refine WC.sr ?_)
  refine WL.call rfl rfl rfl (offsetOf_any pp E C n cap ad ad' c0 left nv err nest w1 hb1 hC hc) ?_
  rintro e w2 ⟨rfl, rfl⟩
  refine ⟨_, _, rfl, rfl, ?_⟩
  repeat (first | refine WL.pp rfl ?_ | refine WL.ns ?_ | refine WC.sr ?_)
  refine WL.call rfl rfl rfl (offsetOf_any pp E C n2 cap2 ad ad2 c0 left nv err nest w2 hb1 hC hc2) ?_
  rintro e w3 ⟨rfl, rfl⟩
  refine ⟨_, _, rfl, rfl, ?_⟩
  repeat (first | refine WL.pp rfl ?_ | refine WL.ns ?_ | refine WC.sr ?_ | refine WL.cw rfl rfl rfl ?_ | refine WL.su rfl rfl (by omega) rfl ?_)
  refine WL.bd rfl rfl (bdRange _ _) rfl ?_
  refine WL.sg rfl rfl rfl (by simp [oneV]) hA.at_ (by simp) rfl (fun w4 hS => ?_)
  repeat (first | refine WL.ns ?_ | refine WC.ret ?_)
  exact X.retC rfl rfl rfl hS.at_ rfl ⟨_, _, rfl, (hA.up (Nat.le_refl _)).trans (hS.up (Nat.le_refl _))⟩

theorem bdNode (k a b : Int) (ad : Option Addr) (n c : Nat) (w : World) : (Instr.build 104 ⟨[(0, .int .i64 k), (1, .agg ⟨[.int .u32 a, .int .u32 b]⟩), (2, .slice ad n c)]⟩).run PP w =
    .ok (.agg ⟨[.int .i64 k, .int .u32 a, .int .u32 b, .slice ad n c, .pointer none, .int .i32 0, .int .i32 0]⟩) w := by kernel_rfl
theorem bdNode1 (k : Int) (w : World) : (Instr.build 104 ⟨[(0, .int .i64 k)]⟩).run PP w =
    .ok (.agg ⟨[.int .i64 k, .int .u32 0, .int .u32 0, .slice none 0 0, .pointer none, .int .i32 0, .int .i32 0]⟩) w := by kernel_rfl
theorem bdNode2 (k a b : Int) (w : World) : (Instr.build 104 ⟨[(0, .int .i64 k), (1, .agg ⟨[.int .u32 a, .int .u32 b]⟩)]⟩).run PP w =
    .ok (.agg ⟨[.int .i64 k, .int .u32 a, .int .u32 b, .slice none 0 0, .pointer none, .int .i32 0, .int .i32 0]⟩) w := by kernel_rfl

section
variable {bd C E : Nat} {dc : Array Value} {fz : Nat × Nat}

theorem Suf.capLe {v l} (h : Suf bd C E dc v l) : ∃ ad n cap, v = .slice ad n cap ∧ cap ≤ 9223372036854775807 := by
  obtain ⟨ad, h1, _⟩ := h.ex
  exact ⟨ad, _, _, h1, by have := h.C63; omega⟩

set_option maxRecDepth 100000 in
set_option maxHeartbeats 4000000 in
theorem simpleKey_any (pp : Nat) (ad0 : Option Addr) (left : Value) (nest : Int) (ns : List ANode) (v : Value) (b k r : Bs) (w : World) (hv : Suf bd C E dc v b) (hE : E ≤ 100000000) (hk : KP b k r) (hD : w.heap[bd]? = some (.cells dc 5 fz))
    (hP : PS w pp (.slice ad0 E C) left nest ns) (hm : ns.length ≤ 400000000) :
    Calls PP 115 #[.pointer (some ⟨pp, 0, none⟩), v] w fun e w' => ∃ v', e = .returned (.tuple #[.int .i32 ((ns.length + 1 : Nat) : Int), v', .nilIface]) ∧ Suf bd C E dc v' r ∧ PS w' pp (.slice ad0 E C) left nest (ns ++ [⟨2, some k, 0, 0⟩]) ∧ Fm pp [52, 104] w w' := by
  have hC := hv.C63
  have hlt := hP.lt
  refine enter (L := [(0, .pointer (some ⟨pp, 0, none⟩)), (1, v)]) Tryz.func115 rfl rfl rfl ⟨rfl, rfl, trivial⟩ ?_
  repeat (first | refine WL.pp rfl ?_ | refine WL.ns ?_ | refine WC.sr ?_)
  refine WL.call rfl rfl rfl (scanKey_any _ v b k r w hv hE hk hD) ?_
  rintro e w1 ⟨v1, v2, v3, rfl, h1, h2, h3, hU1⟩
  refine ⟨_, _, rfl, rfl, ?_⟩
  repeat (first | refine WL.pp rfl ?_ | refine WL.ns ?_ | refine WC.sr ?_ | refine WC.bF rfl (by first | with_reducible rfl | exact Bool.not_true) ?_ | refine WC.seq ?_ | refine X.sn ?_ | refine WC.skip ?_)
  obtain ⟨nv, xs, hb1, _, _⟩ := hP.up hU1
  refine WL.call rfl rfl rfl (range_any pp E C ad0 _ v1 left nv .nilIface _ w1 hb1 h1 hC hE) ?_
  rintro e w2 ⟨a, b2, rfl, hU2⟩
  refine ⟨_, _, rfl, rfl, ?_⟩
  have h2' := h2.upS hU2
  obtain ⟨ad2, cap2, rfl, -⟩ := h2
  repeat (refine WL.pp rfl ?_)
  refine WL.bd rfl rfl (bdNode _ _ _ _ _ _) rfl ?_
  have hP2 := (hP.up hU1).up hU2
  refine WL.call rfl rfl rfl (push_any pp _ left nest ns 2 0 0 a b2 _ (some k) w2 hP2 trivial (fun s hs => by cases hs; exact h2') hm) ?_
  rintro e w3 ⟨rfl, hP3, hF3⟩
  refine ⟨_, _, rfl, rfl, ?_⟩
  repeat (first | refine WL.pp rfl ?_ | refine WL.ns ?_ | refine WC.sr ?_ | refine WC.ret ?_)
  exact X.ret_ rfl rfl ⟨_, rfl, h3, hP3, ((hU1.fm (Nat.le_refl _) (by omega)).trans (hU2.fm (Nat.le_refl _) (by have := hU1.size; omega))).trans hF3⟩
end
end Go.Proofs.YtaccphdkapmdhaaGreat

namespace Go.Proofs.YtaccphdkapmdhaaGreat
attribute [local irreducible] binOp IntKind.wrap Sem.run

theorem keyNodes_snoc : ∀ (ds : List Bs) (k : Nat) (s : Bs), ds ≠ [] → ∃ u, (keyNodes k ds)[ds.length - 1]? = some ⟨2, some u, 0, 0⟩ ∧
    (keyNodes k ds ++ [(⟨2, some s, 0, 0⟩ : ANode)]).set (ds.length - 1) ⟨2, some u, k + ds.length + 1, 0⟩ = keyNodes k (ds ++ [s])
  | [], _, _, h => absurd rfl h
  | [x], k, s, _ => ⟨x, rfl, rfl⟩
  | x :: y :: l, k, s, _ => by
    obtain ⟨u, h1, h2⟩ := keyNodes_snoc (y :: l) (k + 1) s (by simp)
    refine ⟨u, ?_, ?_⟩
    · simp only [keyNodes, List.length_cons, Nat.add_sub_cancel] at h1 ⊢
      rw [List.getElem?_cons_succ]
      simpa using h1
    · simp only [keyNodes, List.length_cons, Nat.add_sub_cancel, List.cons_append] at h2 ⊢
      rw [List.set_cons_succ]
      have e : k + (l.length + 1 + 1) + 1 = k + 1 + (l.length + 1) + 1 := by omega
      rw [e, h2]

theorem ns_snoc (ns : List ANode) (ds : List Bs) (s : Bs) (h : ds ≠ []) : ∃ u, (ns ++ keyNodes ns.length ds ++ [(⟨2, some s, 0, 0⟩ : ANode)])[ns.length + ds.length - 1]? = some ⟨2, some u, 0, 0⟩ ∧
    (ns ++ keyNodes ns.length ds ++ [(⟨2, some s, 0, 0⟩ : ANode)]).set (ns.length + ds.length - 1) ⟨2, some u, ns.length + ds.length + 1, 0⟩ = ns ++ keyNodes ns.length (ds ++ [s]) := by
  obtain ⟨u, h1, h2⟩ := keyNodes_snoc ds ns.length s h
  have hpos : 0 < ds.length := List.length_pos_iff.2 h
  have e : ns.length + ds.length - 1 - ns.length = ds.length - 1 := by omega
  refine ⟨u, ?_, ?_⟩
  · rw [List.append_assoc, List.getElem?_append_right (by omega), e, List.getElem?_append_left (by rw [keyNodes_length]; omega)]
    exact h1
  · rw [List.append_assoc, List.set_append_right _ _ (by omega), e, h2]

section
variable {bd C E : Nat} {dc : Array Value} {fz : Nat × Nat}

theorem Suf.skip {v l} (h : Suf bd C E dc v l) {w : World} (hD : w.heap[bd]? = some (.cells dc 5 fz)) : Calls PP 39 #[v] w fun e w' => ∃ v', e = .returned v' ∧ Suf bd C E dc v' (skipWs l) ∧ w' = w := skip_any v l w h hD

set_option maxRecDepth 100000 in
set_option maxHeartbeats 8000000 in
theorem key_any (pp : Nat) (ad0 : Option Addr) (left : Value) (nest : Int) (ns : List ANode) (v : Value) (b r : Bs) (ks : List Bs) (w : World) (hv : Suf bd C E dc v (skipWs b)) (hE : E ≤ 100000000) (hk : Ks b ks r) (hD : w.heap[bd]? = some (.cells dc 5 fz))
    (hP : PS w pp (.slice ad0 E C) left nest ns) (hm : ns.length + ks.length ≤ 400000000) :
    Calls PP 101 #[.pointer (some ⟨pp, 0, none⟩), v] w fun e w' => ∃ v', e = .returned (.tuple #[.int .i32 ((ns.length + 1 : Nat) : Int), v', .nilIface]) ∧ Suf bd C E dc v' r ∧ PS w' pp (.slice ad0 E C) left nest (ns ++ keyNodes ns.length ks) ∧ Fm pp [52, 104] w w' := by
  have hC := hv.C63
  refine enter (L := [(0, .pointer (some ⟨pp, 0, none⟩)), (1, v)]) Tryz.func101 rfl rfl rfl ⟨rfl, rfl, trivial⟩ ?_
  repeat (first | refine WL.pp rfl ?_ | refine WL.ns ?_ | refine WC.sr ?_ | refine WC.block ?_)
  refine WC.loop (σ := Value × Bs × List Bs × List Bs) (I := fun s w' => Ks s.2.1 s.2.2.2 r ∧ s.2.2.1 ++ s.2.2.2 = ks ∧ Suf bd C E dc s.1 (skipWs s.2.1) ∧ PS w' pp (.slice ad0 E C) left nest (ns ++ keyNodes ns.length s.2.2.1) ∧ Fm pp [52, 104] w w')
    (m := fun s => s.2.2.2.length) (Lf := fun s => [(0, .pointer (some ⟨pp, 0, none⟩)), (1, s.1), (7, .int .i32 ((if s.2.2.1 = [] then 0 else ns.length + 1 : Nat) : Int)), (8, .int .i32 ((if s.2.2.1 = [] then 0 else ns.length + s.2.2.1.length : Nat) : Int))])
    (v, b, [], ks) ⟨hk, rfl, hv, by simpa [keyNodes] using hP, Fm.refl _ _ _⟩ ⟨rfl, rfl, rfl, rfl, trivial⟩ ?_
  clear hP hv hk
  rintro ⟨v1, b1, ds, kc⟩ w1 ⟨hk, hks, hv, hP, hF⟩
  dsimp only at hk hks hv hP hF ⊢
  have hD1 : w1.heap[bd]? = some (.cells dc 5 fz) := hF.keep _ _ hD (by simp [tag])
  have hlen : (ns ++ keyNodes ns.length ds).length = ns.length + ds.length := by rw [List.length_append, keyNodes_length]
  have hksl := congrArg List.length hks
  rw [List.length_append] at hksl
  have step : ∀ (k : Bs) (rest : List Bs) (r1 : Bs), kc = k :: rest → KP (skipWs b1) k r1 → Calls PP 115 #[.pointer (some ⟨pp, 0, none⟩), v1] w1 fun e w' => ∃ v', e = .returned (.tuple #[.int .i32 ((ns.length + ds.length + 1 : Nat) : Int), v', .nilIface]) ∧ Suf bd C E dc v' r1 ∧
      PS w' pp (.slice ad0 E C) left nest (ns ++ keyNodes ns.length ds ++ [⟨2, some k, 0, 0⟩]) ∧ Fm pp [52, 104] w1 w' := fun k rest r1 hkc hkp => by
    have := simpleKey_any pp ad0 left nest (ns ++ keyNodes ns.length ds) v1 (skipWs b1) k r1 w1 hv hE hkp hD1 hP (by rw [hlen]; omega)
    rw [hlen] at this
    exact this
  obtain ⟨k, rest, r1, rfl, hkp, hrest⟩ : ∃ k rest r1, kc = k :: rest ∧ KP (skipWs b1) k r1 ∧ ((rest = [] ∧ (skipWs r1).head? ≠ some 46 ∧ r = skipWs r1) ∨ (∃ r', skipWs r1 = 46 :: r' ∧ Ks r' rest r)) := by
    cases hk with
    | one h1 h2 => exact ⟨_, _, _, rfl, h1, .inl ⟨rfl, h2, rfl⟩⟩
    | dot h1 h2 h3 => exact ⟨_, _, _, rfl, h1, .inr ⟨_, h2, h3⟩⟩
  clear hk
  simp only [List.length_cons] at hksl
  repeat (first | refine WL.pp rfl ?_ | refine WC.sr ?_ | refine WC.block ?_)
  refine WL.call rfl rfl rfl (step k rest r1 rfl hkp) ?_
  rintro e w2 ⟨v2, rfl, hv2, hP2, hF2⟩
  refine ⟨_, _, rfl, rfl, ?_⟩
  have hD2 : w2.heap[bd]? = some (.cells dc 5 fz) := hF2.keep _ _ hD1 (by simp [tag])
  have hF12 := hF.trans hF2
  repeat (first | refine WL.pp rfl ?_ | refine WL.ns ?_ | refine WC.sr ?_ | refine WC.bF rfl (by first | with_reducible rfl | exact Bool.not_true) ?_ | refine WC.cut (x := .seq _ (.cond (.tmp 23) _ _)) (σ := Unit) (fun _ w' => PS w' pp (.slice ad0 E C) left nest (ns ++ keyNodes ns.length (ds ++ [k])) ∧ Fm pp [52, 104] w w') (fun _ => [(0, .pointer (some ⟨pp, 0, none⟩)), (7, .int .i32 ((ns.length + 1 : Nat) : Int)), (9, .int .i32 ((ns.length + ds.length + 1 : Nat) : Int)), (10, v2)]) ?_ ?_ | refine WC.seq ?_ | refine X.sn ?_ | refine WC.skip ?_)
  · by_cases hds : ds = []
    · rw [if_pos hds, if_pos hds]
      repeat (first | refine WL.pp rfl ?_ | refine WC.dT rfl (by first | omega | decide) ?_ | refine WC.reg ?_ | refine WL.nil ?_)
      refine X.cut () ⟨?_, hF12⟩ ⟨rfl, ?_, rfl, rfl, trivial⟩
      · subst hds
        simpa [keyNodes] using hP2
      · subst hds; rfl
    · rw [if_neg hds, if_neg hds]
      have hpos : 0 < ds.length := List.length_pos_iff.2 hds
      obtain ⟨u, hu1, hu2⟩ := ns_snoc ns ds k hds
      obtain ⟨g, cap, cur, xs, hb, hpg, hgb, hc1, hc2, hcs, hct, hxl, hN⟩ := hP2.open (by simp; omega)
      have hlen2 : (ns ++ keyNodes ns.length ds ++ [(⟨2, some k, 0, 0⟩ : ANode)]).length = ns.length + ds.length + 1 := by rw [List.length_append, hlen]; rfl
      repeat (first | refine WL.pp rfl ?_ | refine WC.dF rfl (by first | omega | decide) ?_ | refine WC.reg ?_)
      refine WL.call rfl rfl rfl (at_any pp g _ cap (ns.length + ds.length) (ns.length + ds.length - 1) _ _ _ _ _ w2 hb (by omega) (by rw [hlen2]; omega) (by rw [hlen2]; omega)) ?_
      rintro e w3 ⟨rfl, rfl⟩
      refine ⟨_, _, rfl, rfl, ?_⟩
      repeat (refine WL.pp rfl ?_)
      have hcur : (ns.length + ds.length - 1) * 7 + 5 < cur.size := by rw [hcs]; omega
      refine WL.stB rfl rfl rfl hgb (Array.getElem?_eq_getElem hcur) rfl (fun w4 hS => ?_)
      repeat (refine WL.nil ?_)
      refine X.cut () ⟨?_, hF12.trans (hS.fm hgb (by omega) (by simp [tag]) rfl)⟩ ⟨rfl, rfl, rfl, rfl, trivial⟩
      rw [← hu2]
      refine PS.stored hb hpg hgb hc1 hc2 (by simpa using hcs) (by simp) hS ?_
      have := hN.setNext (ns.length + ds.length - 1) (ns.length + ds.length + 1) hu1
      rw [take_set, hct]
      exact this
  · rintro _ w3 ⟨hP3, hF3⟩
    have hD3 : w3.heap[bd]? = some (.cells dc 5 fz) := hF3.keep _ _ hD (by simp [tag])
    repeat (first | refine WL.pp rfl ?_ | refine WL.ns ?_ | refine WC.sr ?_)
    refine WL.call rfl rfl rfl (hv2.skip hD3) ?_
    rintro e w4 ⟨v4, rfl, hv4, rfl⟩
    refine ⟨_, _, rfl, rfl, ?_⟩
    rcases hrest with ⟨rfl, hh, rfl⟩ | ⟨r', hr', hks'⟩
    · rw [hks] at hP3
      cases hsk : skipWs r1 with
      | nil =>
        rw [hsk] at hv4
        obtain ⟨ad4, rfl, hs4⟩ := hv4.nil
        repeat (first | refine WL.pp rfl ?_ | refine WL.ns ?_ | refine WC.sr ?_ | refine WC.bF rfl (by first | with_reducible rfl | exact Bool.not_true) ?_ | refine WL.p rfl ?_ | refine WC.seq ?_ | refine X.sn ?_ | refine X.sr ?_ | refine X.br ?_ | refine WC.skip ?_ | refine WC.ret ?_ | refine WL.gF rfl rfl (by first | omega | decide) ?_)
        refine X.ret_ rfl rfl ⟨_, rfl, hv4, hP3, hF3⟩
      | cons c r2 =>
        rw [hsk] at hv4 hh
        have hc46 : c.toNat ≠ 46 := fun e => hh (by
          have : c = 46 := UInt8.toNat_inj.1 e
          rw [this]; rfl)
        have hcell := hv4.cell hD3
        have hv4' := hv4
        have hcons := hv4.cons
        subst hcons
        have hle := hv4'.le
        simp only [List.length_cons] at hle
        repeat (first | refine WL.pp rfl ?_ | refine WL.ns ?_ | refine WC.sr ?_ | refine WC.dF rfl (by first | omega | decide) ?_ | refine WL.ix (i := 0) rfl rfl rfl (by omega) rfl ?_ | refine WL.ld rfl rfl hcell rfl ?_ | refine WL.p rfl ?_ | refine WC.seq ?_ | refine X.sn ?_ | refine X.sr ?_ | refine X.br ?_ | refine WC.skip ?_ | refine WC.ret ?_ | refine WL.gT rfl rfl (by first | omega | decide) ?_)
        exact X.ret_ rfl rfl ⟨_, rfl, hv4', hP3, hF3⟩
    · rw [hr'] at hv4
      have hcell := hv4.cell hD3
      have hv4' := hv4
      have hcons := hv4.cons
      subst hcons
      have hle := hv4'.le
      have hEC := hv4'.EC
      simp only [List.length_cons] at hle
      repeat (first | refine WL.pp rfl ?_ | refine WL.ns ?_ | refine WC.sr ?_ | refine WC.dT rfl (by first | omega | decide) ?_ | refine WL.ix (i := 0) rfl rfl rfl (by omega) rfl ?_ | refine WL.ld rfl rfl hcell rfl ?_ | refine WL.p rfl ?_ | refine WC.seq ?_ | refine WL.gT rfl rfl (by first | omega | decide) ?_)
      refine WL.sS r'.length 1 rfl rfl (Sf.mk _ _ _) rfl (by simp; omega) (by omega) (fun _ => rfl) (fun ad' hs' => ?_)
      skip
      refine WL.call rfl rfl rfl ((hv4'.tail hs').skip hD3) ?_
      rintro e w5 ⟨v5, rfl, hv5, rfl⟩
      refine ⟨_, _, rfl, rfl, ?_⟩
      repeat (first | refine WL.pp rfl ?_ | refine WL.ns ?_ | refine X.sx ?_ | refine X.bx ?_ | refine WC.exit ?_)
      have hne : ds ++ [k] ≠ [] := by simp
      refine X.again (v5, r', ds ++ [k], rest) ⟨hks', by simpa using hks, hv5, hP3, hF3⟩ (by simp) ⟨rfl, rfl, ?_, ?_, trivial⟩
      · rw [if_neg hne]; rfl
      · rw [if_neg hne, List.length_append]; rfl
end
end Go.Proofs.YtaccphdkapmdhaaGreat

namespace Go.Proofs.YtaccphdkapmdhaaGreat
attribute [local irreducible] binOp IntKind.wrap Sem.run

/-- A child is hung in: below the node ar where it is the first, else behind the last one. -/
def hung (ns : List ANode) (ar lc h : Nat) : List ANode :=
  if lc = 0 then ns.modify (ar - 1) (fun a => { a with child := h }) else ns.modify (lc - 1) (fun a => { a with next := h })

theorem modify_set : ∀ {ns : List ANode} {i : Nat} {a : ANode} (f : ANode → ANode), ns[i]? = some a → ns.modify i f = ns.set i (f a)
  | [], i, a, f, h => by simp at h
  | b :: l, 0, a, f, h => by
    simp only [List.getElem?_cons_zero, Option.some.injEq] at h
    subst h
    simp
  | b :: l, i + 1, a, f, h => by
    rw [List.getElem?_cons_succ] at h
    simp only [List.modify_succ_cons, List.set_cons_succ]
    rw [modify_set f h]

set_option maxRecDepth 100000 in
set_option maxHeartbeats 4000000 in
theorem hang_any (fn : Nat) (hfn : fn = 132 ∨ fn = 133) (pp b1 b2 b3 lc ar h : Nat) (data left : Value) (nest : Int) (ns : List ANode) (w : World) (hP : PS w pp data left nest ns) (hm : ns.length ≤ 400000000)
    (h1 : w.heap[b1]? = some (.cells ⟨[.int .i32 lc]⟩ 21 (0, 0))) (h2 : w.heap[b2]? = some (.cells ⟨[.pointer (some ⟨pp, 0, none⟩)]⟩ 92 (0, 0))) (h3 : w.heap[b3]? = some (.cells ⟨[.int .i32 ar]⟩ 21 (0, 0)))
    (har : 0 < ar ∧ ar ≤ ns.length) (hlc : lc ≤ ns.length) :
    Calls PP fn #[.int .i32 h, .pointer (some ⟨b1, 0, none⟩), .pointer (some ⟨b2, 0, none⟩), .pointer (some ⟨b3, 0, none⟩)] w fun e w' => e = .returned (.tuple #[]) ∧ ∃ w1, PS w1 pp data left nest (hung ns ar lc h) ∧ Fm pp [104] w w1 ∧ St w1 b1 (.cells ⟨[.int .i32 h]⟩ 21 (0, 0)) w' := by
  obtain ⟨g, cap, cur, xs, hb, hpg, hgb, hc1, hc2, hcs, hct, hxl, hN⟩ := hP.open (by omega)
  have hg1 : b1 ≠ g := fun e => by subst e; rw [h1] at hgb; simp at hgb
  have main : ∀ (i f : Nat) (u : Value), i < ns.length → 5 ≤ f → f < 7 → (f = 6 ↔ lc = 0) → (lc = 0 → ar = i + 1) → (lc ≠ 0 → lc = i + 1) → ∃ hc : i * 7 + f < cur.size, ∀ w2, St w g (.cells (cur.setIfInBounds (i * 7 + f) (.int .i32 h)) 104 (0, 0)) w2 → PS w2 pp data left nest (hung ns ar lc h) ∧ Fm pp [104] w w2 := by
    intro i f u hi hf5 hf7 hf hA hB
    refine ⟨by rw [hcs]; omega, fun w2 hS => ⟨?_, hS.fm hgb (by omega) (by simp [tag]) rfl⟩⟩
    obtain ⟨a, ha⟩ : ∃ a, ns[i]? = some a := ⟨_, List.getElem?_eq_getElem hi⟩
    by_cases h0 : lc = 0
    · have hf6 := hf.2 h0
      have := hA h0
      have e : hung ns ar lc h = ns.set i { a with child := h } := by
        unfold hung
        rw [if_pos h0, show ar - 1 = i by omega, modify_set _ ha]
      rw [e]
      subst hf6
      refine PS.stored hb hpg hgb hc1 hc2 (by simpa using hcs) (by simp) hS ?_
      rw [take_set, hct]
      exact hN.setChild i h ha
    · have hf5' : f = 5 := by
        rcases Nat.lt_or_ge f 6 with h' | h'
        · omega
        · exact absurd (hf.1 (by omega)) h0
      have := hB h0
      have e : hung ns ar lc h = ns.set i { a with next := h } := by
        unfold hung
        rw [if_neg h0, show lc - 1 = i by omega, modify_set _ ha]
      rw [e]
      subst hf5'
      refine PS.stored hb hpg hgb hc1 hc2 (by simpa using hcs) (by simp) hS ?_
      rw [take_set, hct]
      exact hN.setNext i h ha
  rcases hfn with rfl | rfl
  all_goals
    by_cases h0 : lc = 0
    · obtain ⟨hc, hfin⟩ := main (ar - 1) 6 (.int .i32 0) (by omega) (by omega) (by omega) ⟨fun _ => h0, fun _ => rfl⟩ (by omega) (by omega)
      first
        | refine enter (L := [(0, .int .i32 h), (1, .pointer (some ⟨b1, 0, none⟩)), (2, .pointer (some ⟨b2, 0, none⟩)), (3, .pointer (some ⟨b3, 0, none⟩))]) Tryz.func132 rfl rfl rfl ⟨rfl, rfl, rfl, rfl, trivial⟩ ?_
        | refine enter (L := [(0, .int .i32 h), (1, .pointer (some ⟨b1, 0, none⟩)), (2, .pointer (some ⟨b2, 0, none⟩)), (3, .pointer (some ⟨b3, 0, none⟩))]) Tryz.func133 rfl rfl rfl ⟨rfl, rfl, rfl, rfl, trivial⟩ ?_
      repeat (first | refine WL.pp rfl ?_ | refine WL.ns ?_ | refine WC.sr ?_ | refine WC.dT rfl (by first | omega | decide) ?_ | refine WL.ldB (b := b1) (v := .int .i32 lc) rfl rfl h1 rfl rfl ?_ | refine WL.ldB (b := b2) (v := .pointer (some ⟨pp, 0, none⟩)) rfl rfl h2 rfl rfl ?_ | refine WL.ldB (b := b3) (v := .int .i32 ar) rfl rfl h3 rfl rfl ?_ | refine WC.seq ?_ | refine WC.reg ?_)
      refine WL.call rfl rfl rfl (at_any pp g _ cap ar (ar - 1) _ _ _ _ _ w hb (by omega) (by omega) (by omega)) ?_
      rintro e w1 ⟨rfl, rfl⟩
      refine ⟨_, _, rfl, rfl, ?_⟩
      repeat (refine WL.pp rfl ?_)
      refine WL.stB rfl rfl rfl hgb (Array.getElem?_eq_getElem hc) rfl (fun w2 hS => ?_)
      obtain ⟨hP2, hF2⟩ := hfin w2 hS
      repeat (first | refine WL.pp rfl ?_ | refine WL.ns ?_ | refine WC.reg ?_)
      refine WL.stB rfl rfl rfl (hS.keep h1 hg1) rfl rfl (fun w3 hS3 => ?_)
      repeat (refine WL.nil ?_)
      exact X.end_ rfl rfl ⟨rfl, w2, hP2, hF2, hS3⟩
    · obtain ⟨hc, hfin⟩ := main (lc - 1) 5 (.int .i32 0) (by omega) (by omega) (by omega) ⟨fun h => by omega, fun h => absurd h h0⟩ (by omega) (by omega)
      first
        | refine enter (L := [(0, .int .i32 h), (1, .pointer (some ⟨b1, 0, none⟩)), (2, .pointer (some ⟨b2, 0, none⟩)), (3, .pointer (some ⟨b3, 0, none⟩))]) Tryz.func132 rfl rfl rfl ⟨rfl, rfl, rfl, rfl, trivial⟩ ?_
        | refine enter (L := [(0, .int .i32 h), (1, .pointer (some ⟨b1, 0, none⟩)), (2, .pointer (some ⟨b2, 0, none⟩)), (3, .pointer (some ⟨b3, 0, none⟩))]) Tryz.func133 rfl rfl rfl ⟨rfl, rfl, rfl, rfl, trivial⟩ ?_
      repeat (first | refine WL.pp rfl ?_ | refine WL.ns ?_ | refine WC.sr ?_ | refine WC.dF rfl (by first | omega | decide) ?_ | refine WL.ldB (b := b1) (v := .int .i32 lc) rfl rfl h1 rfl rfl ?_ | refine WL.ldB (b := b2) (v := .pointer (some ⟨pp, 0, none⟩)) rfl rfl h2 rfl rfl ?_ | refine WC.seq ?_ | refine WC.reg ?_)
      refine WL.call rfl rfl rfl (at_any pp g _ cap lc (lc - 1) _ _ _ _ _ w hb (by omega) (by omega) (by omega)) ?_
      rintro e w1 ⟨rfl, rfl⟩
      refine ⟨_, _, rfl, rfl, ?_⟩
      repeat (refine WL.pp rfl ?_)
      refine WL.stB rfl rfl rfl hgb (Array.getElem?_eq_getElem hc) rfl (fun w2 hS => ?_)
      obtain ⟨hP2, hF2⟩ := hfin w2 hS
      repeat (first | refine WL.pp rfl ?_ | refine WL.ns ?_ | refine WC.reg ?_)
      refine WL.stB rfl rfl rfl (hS.keep h1 hg1) rfl rfl (fun w3 hS3 => ?_)
      repeat (refine WL.nil ?_)
      exact X.end_ rfl rfl ⟨rfl, w2, hP2, hF2, hS3⟩
end Go.Proofs.YtaccphdkapmdhaaGreat

namespace Go.Proofs.YtaccphdkapmdhaaGreat
attribute [local irreducible] binOp IntKind.wrap Sem.run

set_option maxHeartbeats 4000000 in
theorem isDigit_any (c : UInt8) (w : World) : Calls PP 135 #[u8 c] w fun e w' => e = .returned (.bool (isDig c)) ∧ w' = w := by
  refine enter (L := [(0, u8 c)]) Tryz.func135 rfl rfl rfl ⟨rfl, trivial⟩ ?_
  have key : c.toNat < 48 ∨ (48 ≤ c.toNat ∧ c.toNat ≤ 57) ∨ 57 < c.toNat := by omega
  rcases key with h | h | h
  all_goals
    repeat (first | refine WL.pp rfl ?_ | refine WL.ns ?_ | refine WC.sr ?_ | refine WL.p rfl ?_ | refine WC.ret ?_ | refine WL.gT rfl rfl (by first | omega | decide) ?_ | refine WL.gF rfl rfl (by first | omega | decide) ?_)
    refine X.ret_ rfl rfl ⟨?_, rfl⟩
    refine congrArg Ending.returned (congrArg Value.bool ?_)
    first
      | (rw [dc_of (by omega)]; simp only [isDig]; symm; rw [decide_eq_true_eq]; omega)
      | (rw [dc_not (by omega)]; simp only [isDig]; symm; rw [decide_eq_false_iff_not]; omega)
      | (simp only [isDig]; symm; rw [decide_eq_false_iff_not]; omega)

section
variable {bd C E : Nat} {dc : Array Value} {fz : Nat × Nat}

theorem Suf.c1 {v a c l} (h : Suf bd C E dc v (a :: c :: l)) {w : World} (hD : w.heap[bd]? = some (.cells dc 5 fz)) : w.cell? ⟨bd, E - ((c :: l).length + 1) + 1 * 1, none⟩ = some (u8 c) := h.at hD (i := 1) rfl

theorem isDig_not {c : UInt8} (h : c.toNat = 9 ∨ c.toNat = 10 ∨ c.toNat = 13 ∨ c.toNat = 32 ∨ c.toNat = 35 ∨ c.toNat = 44 ∨ c.toNat = 93 ∨ c.toNat = 125) : isDig c = false := by
  simp only [isDig, decide_eq_false_iff_not]; omega

set_option maxRecDepth 100000 in
set_option maxHeartbeats 4000000 in
theorem digits7_any (v : Value) (r : Bs) (w : World) (hv : Suf bd C E dc v (55 :: r)) (hf : Fol r) (hD : w.heap[bd]? = some (.cells dc 5 fz)) :
    Calls PP 144 #[v, .int .i64 1, .func (.func 135) #[] #[]] w fun e w' => e = .returned (.tuple #[.int .i64 1, .nilIface]) ∧ w' = w := by
  have hC := hv.C63
  have hv' := hv
  have hcons := hv.cons
  subst hcons
  have hle := hv'.le
  have hEC := hv'.EC
  simp only [List.length_cons] at hle
  refine enter (L := [(0, .slice (some ⟨bd, E - (r.length + 1), none⟩) (r.length + 1) (C - (E - (r.length + 1)))), (1, .int .i64 1), (2, .func (.func 135) #[] #[])]) Tryz.func144 rfl rfl rfl ⟨rfl, rfl, rfl, trivial⟩ ?_
  repeat (first | refine WL.pp rfl ?_ | refine WL.ns ?_ | refine WC.sr ?_ | refine WC.seq ?_ | refine WC.block ?_)
  refine WC.loop (σ := Unit) (I := fun _ w' => w' = w) (m := fun _ => 0) (Lf := fun _ => [(0, .slice (some ⟨bd, E - (r.length + 1), none⟩) (r.length + 1) (C - (E - (r.length + 1)))), (1, .int .i64 1), (2, .func (.func 135) #[] #[])]) () rfl ⟨rfl, rfl, rfl, trivial⟩ ?_
  rintro _ w1 rfl
  rcases hf with rfl | ⟨c, t, rfl, hc⟩
  · simp only [List.length_nil] at *
    repeat (first | refine WL.pp rfl ?_ | refine WL.ns ?_ | refine WC.sr ?_ | refine WC.dF rfl (by first | omega | decide) ?_ | refine WC.seq ?_ | refine X.sn ?_ | refine X.sx ?_ | refine X.bx ?_ | refine WC.exit ?_ | refine WC.ret ?_)
    exact X.ret_ rfl rfl ⟨rfl, rfl⟩
  · have hc1 := hv'.c1 hD
    have hnd := isDig_not hc
    simp only [List.length_cons] at *
    repeat (first | refine WL.pp rfl ?_ | refine WL.ns ?_ | refine WC.sr ?_ | refine WC.dT rfl (by first | omega | decide) ?_ | refine WL.ix (i := 1) rfl rfl rfl (by omega) rfl ?_ | refine WL.ld rfl rfl hc1 rfl ?_ | refine WC.seq ?_ | refine WC.block ?_ | refine X.sn ?_ | refine WC.skip ?_)
    refine WL.call rfl rfl rfl (isDigit_any c w1) ?_
    rintro e w2 ⟨rfl, rfl⟩
    rw [hnd]
    refine ⟨_, _, rfl, rfl, ?_⟩
    repeat (first | refine WL.pp rfl ?_ | refine WL.ns ?_ | refine WC.sr ?_ | refine WC.bF rfl (by first | with_reducible rfl | exact Bool.not_true) ?_ | refine WC.dF rfl (by first | omega | decide) ?_ | refine WC.seq ?_ | refine X.sn ?_ | refine X.sx ?_ | refine X.bx ?_ | refine X.bo rfl ?_ | refine WC.skip ?_ | refine WC.exit ?_ | refine WC.ret ?_)
    exact X.ret_ rfl rfl ⟨rfl, rfl⟩

set_option maxRecDepth 100000 in
set_option maxHeartbeats 8000000 in
theorem scan7_any (v : Value) (r : Bs) (w : World) (hv : Suf bd C E dc v (55 :: r)) (hf : Fol r) (hD : w.heap[bd]? = some (.cells dc 5 fz)) :
    Calls PP 134 #[v] w fun e w' => ∃ v1 v2 v3, e = .returned (.tuple #[.int .i64 11, v1, v2, v3, .nilIface]) ∧ Rg C E v1 ∧ RB w' v1 [55] ∧ Suf bd C E dc v3 r ∧ Sm w w' := by
  have hC := hv.C63
  have hv' := hv
  have hcons := hv.cons
  subst hcons
  have hle := hv'.le
  have hEC := hv'.EC
  have hc0 := hv'.cell hD
  simp only [List.length_cons] at hle
  refine enter (L := [(0, .slice (some ⟨bd, E - (r.length + 1), none⟩) (r.length + 1) (C - (E - (r.length + 1))))]) Tryz.func134 rfl rfl rfl ⟨rfl, trivial⟩ ?_
  have h55 : (55 : UInt8).toNat = 55 := rfl
  repeat (first | refine WL.pp rfl ?_ | refine WL.ns ?_ | refine WC.sr ?_ | refine WC.dF rfl (by first | omega | decide) ?_ | refine WL.ix (i := 0) rfl rfl rfl (by omega) rfl ?_ | refine WL.ld rfl rfl hc0 rfl ?_ | refine WL.p rfl ?_ | refine WC.seq ?_ | refine X.sn ?_ | refine WC.skip ?_ | refine WL.gF rfl rfl (by first | omega | decide) ?_)
  refine WL.call rfl rfl rfl (isDigit_any 55 w) ?_
  rintro e w1 ⟨rfl, rfl⟩
  rw [show isDig 55 = true from rfl]
  refine ⟨_, _, rfl, rfl, ?_⟩
  repeat (first | refine WL.pp rfl ?_ | refine WL.ns ?_ | refine WC.sr ?_ | refine WC.bF rfl (by first | with_reducible rfl | exact Bool.not_true) ?_ | refine WL.ix (i := 0) rfl rfl rfl (by omega) rfl ?_ | refine WL.ld rfl rfl hc0 rfl ?_ | refine WL.p rfl ?_ | refine WC.seq ?_ | refine X.sn ?_ | refine WC.skip ?_ | refine WL.ad rfl rfl (by omega) rfl ?_ | refine WL.gF rfl rfl (by first | omega | decide) ?_)
  refine WL.call rfl rfl rfl (digits7_any _ r w1 hv' hf hD) ?_
  rintro e w2 ⟨rfl, rfl⟩
  refine ⟨_, _, rfl, rfl, ?_⟩
  rcases hf with rfl | ⟨c, t, rfl, hc⟩
  · simp only [List.length_nil] at *
    repeat (first | refine WL.pp rfl ?_ | refine WL.ns ?_ | refine WC.sr ?_ | refine WC.bF rfl (by first | with_reducible rfl | exact Bool.not_true) ?_ | refine WC.dF rfl (by first | omega | decide) ?_ | refine WL.p rfl ?_ | refine WC.seq ?_ | refine X.sn ?_ | refine WC.skip ?_ | refine WL.gF rfl rfl (by first | omega | decide) ?_)
    refine WC.drx (fun _ => True) ?_
    repeat (refine WX.p (by kernel_rfl) (by first | trivial | assumption) rfl ?_)
    refine WX.sS 1 0 (by kernel_rfl) trivial rfl rfl (Sf.mk _ _ _) rfl rfl (by omega) (fun _ => rfl) (fun ad1 hs1 => ?_)
    repeat (refine WX.p (by kernel_rfl) (by first | trivial | assumption) rfl ?_)
    refine WX.sS 1 0 (by kernel_rfl) trivial rfl rfl (Sf.mk _ _ _) rfl rfl (by omega) (fun _ => rfl) (fun ad2 hs2 => ?_)
    repeat (refine WX.p (by kernel_rfl) (by first | trivial | assumption) rfl ?_)
    refine WX.sS 0 1 (by kernel_rfl) trivial rfl rfl (Sf.mk _ _ _) rfl (by simp) (by omega) (fun _ => rfl) (fun ad3 hs3 => ?_)
    repeat (refine WX.p (by kernel_rfl) (by first | trivial | assumption) rfl ?_)
    refine WX.nil ?_
    repeat (first | refine X.sn ?_ | refine WC.ret ?_)
    refine X.ret_ rfl rfl ⟨_, _, _, rfl, hv'.rg 0 1 (by simp) _, ?_, ?_, (Sm.refl _).drew⟩
    · have := hv'.sub (w := w2.drew) hD 0 1 (by simp) hs1
      exact this
    · have := hv'.drop 1 (by simp) hs3
      exact this
  · have hc1 := hv'.c1 hD
    simp only [List.length_cons] at *
    have hcc : c.toNat < 46 ∨ c.toNat = 93 ∨ c.toNat = 125 := by omega
    rcases hcc with hcc | hcc | hcc
    all_goals
     repeat (first | refine WL.pp rfl ?_ | refine WL.ns ?_ | refine WC.sr ?_ | refine WC.bF rfl (by first | with_reducible rfl | exact Bool.not_true) ?_ | refine WC.dT rfl (by first | omega | decide) ?_ | refine WC.dF rfl (by first | omega | decide) ?_ | refine WL.ix (i := 1) rfl rfl rfl (by omega) rfl ?_ | refine WL.ld rfl rfl hc1 rfl ?_ | refine WL.p rfl ?_ | refine WC.seq ?_ | refine X.sn ?_ | refine WC.skip ?_ | refine WL.gT rfl rfl (by first | omega | decide) ?_ | refine WL.gF rfl rfl (by first | omega | decide) ?_)
     refine WC.drx (fun _ => True) ?_
     repeat (refine WX.p (by kernel_rfl) (by first | trivial | assumption) rfl ?_)
     refine WX.sS 1 0 (by kernel_rfl) trivial rfl rfl (Sf.mk _ _ _) rfl rfl (by omega) (fun _ => rfl) (fun ad1 hs1 => ?_)
     repeat (refine WX.p (by kernel_rfl) (by first | trivial | assumption) rfl ?_)
     refine WX.sS 1 0 (by kernel_rfl) trivial rfl rfl (Sf.mk _ _ _) rfl rfl (by omega) (fun _ => rfl) (fun ad2 hs2 => ?_)
     repeat (refine WX.p (by kernel_rfl) (by first | trivial | assumption) rfl ?_)
     refine WX.sS (t.length + 1) 1 (by kernel_rfl) trivial rfl rfl (Sf.mk _ _ _) rfl (by simp; omega) (by omega) (fun _ => rfl) (fun ad3 hs3 => ?_)
     repeat (refine WX.p (by kernel_rfl) (by first | trivial | assumption) rfl ?_)
     refine WX.nil ?_
     repeat (first | refine X.sn ?_ | refine WC.ret ?_)
     refine X.ret_ rfl rfl ⟨_, _, _, rfl, hv'.rg 0 1 (by simp) _, ?_, ?_, (Sm.refl _).drew⟩
     · have := hv'.sub (w := w2.drew) hD 0 1 (by simp) hs1
       exact this
     · have := hv'.drop 1 (by simp) hs3
       exact this
end
end Go.Proofs.YtaccphdkapmdhaaGreat

namespace Go.Proofs.YtaccphdkapmdhaaGreat
attribute [local irreducible] binOp IntKind.wrap Sem.run
section
variable {bd C E : Nat} {dc : Array Value} {fz : Nat × Nat}

set_option maxRecDepth 100000 in
set_option maxHeartbeats 4000000 in
theorem dateStart7_any (v : Value) (r : Bs) (w : World) (hv : Suf bd C E dc v (55 :: r)) (hf : Fol r) (hD : w.heap[bd]? = some (.cells dc 5 fz)) :
    Calls PP 124 #[v] w fun e w' => e = .returned (.bool false) ∧ w' = w := by
  have hC := hv.C63
  have hv' := hv
  have hcons := hv.cons
  subst hcons
  have hle := hv'.le
  have hEC := hv'.EC
  simp only [List.length_cons] at hle
  refine enter (L := [(0, .slice (some ⟨bd, E - (r.length + 1), none⟩) (r.length + 1) (C - (E - (r.length + 1))))]) Tryz.func124 rfl rfl rfl ⟨rfl, trivial⟩ ?_
  rcases hf with rfl | ⟨c, t, rfl, hc⟩
  · simp only [List.length_nil] at *
    repeat (first | refine WL.pp rfl ?_ | refine WL.ns ?_ | refine WC.sr ?_ | refine WC.bF rfl (by first | with_reducible rfl | exact Bool.not_true) ?_ | refine WL.p rfl ?_ | refine WC.seq ?_ | refine X.sn ?_ | refine WC.skip ?_ | refine WC.ret ?_ | refine WL.gF rfl rfl (by first | omega | decide) ?_)
    exact X.ret_ rfl rfl ⟨rfl, rfl⟩
  · have hc1 := hv'.c1 hD
    have hnd := isDig_not hc
    simp only [List.length_cons] at *
    have key : t.length = 0 ∨ (1 ≤ t.length ∧ t.length < 3) ∨ 3 ≤ t.length := by omega
    rcases key with h | h | h
    · repeat (first | refine WL.pp rfl ?_ | refine WL.ns ?_ | refine WC.sr ?_ | refine WC.bF rfl (by first | with_reducible rfl | exact Bool.not_true) ?_ | refine WL.p rfl ?_ | refine WC.seq ?_ | refine X.sn ?_ | refine WC.skip ?_ | refine WC.ret ?_ | refine WL.gF rfl rfl (by first | omega | decide) ?_)
      exact X.ret_ rfl rfl ⟨rfl, rfl⟩
    · repeat (first | refine WL.pp rfl ?_ | refine WL.ns ?_ | refine WC.sr ?_ | refine WL.ix (i := 1) rfl rfl rfl (by omega) rfl ?_ | refine WL.ld rfl rfl hc1 rfl ?_ | refine WL.p rfl ?_ | refine WC.seq ?_ | refine WL.gT rfl rfl (by first | omega | decide) ?_)
      refine WL.call rfl rfl rfl (isDigit_any c w) ?_
      rintro e w2 ⟨rfl, rfl⟩
      rw [hnd]
      refine ⟨_, _, rfl, rfl, ?_⟩
      repeat (first | refine WL.pp rfl ?_ | refine WL.ns ?_ | refine WC.sr ?_ | refine WC.bF rfl (by first | with_reducible rfl | exact Bool.not_true) ?_ | refine WL.p rfl ?_ | refine WC.seq ?_ | refine X.sn ?_ | refine WC.skip ?_ | refine WC.ret ?_ | refine WL.gF rfl rfl (by first | omega | decide) ?_)
      exact X.ret_ rfl rfl ⟨rfl, rfl⟩
    · repeat (first | refine WL.pp rfl ?_ | refine WL.ns ?_ | refine WC.sr ?_ | refine WL.ix (i := 1) rfl rfl rfl (by omega) rfl ?_ | refine WL.ld rfl rfl hc1 rfl ?_ | refine WL.p rfl ?_ | refine WC.seq ?_ | refine WL.gT rfl rfl (by first | omega | decide) ?_)
      refine WL.call rfl rfl rfl (isDigit_any c w) ?_
      rintro e w2 ⟨rfl, rfl⟩
      rw [hnd]
      refine ⟨_, _, rfl, rfl, ?_⟩
      repeat (first | refine WL.pp rfl ?_ | refine WL.ns ?_ | refine WC.sr ?_ | refine WC.bF rfl (by first | with_reducible rfl | exact Bool.not_true) ?_ | refine WL.ix (i := 1) rfl rfl rfl (by omega) rfl ?_ | refine WL.ld rfl rfl hc1 rfl ?_ | refine WL.p rfl ?_ | refine WC.seq ?_ | refine X.sn ?_ | refine WC.skip ?_ | refine WL.gT rfl rfl (by first | omega | decide) ?_)
      refine WL.call rfl rfl rfl (isDigit_any c w2) ?_
      rintro e w3 ⟨rfl, rfl⟩
      rw [hnd]
      refine ⟨_, _, rfl, rfl, ?_⟩
      repeat (first | refine WL.pp rfl ?_ | refine WL.ns ?_ | refine WC.sr ?_ | refine WC.bF rfl (by first | with_reducible rfl | exact Bool.not_true) ?_ | refine WL.p rfl ?_ | refine X.sn ?_ | refine WC.skip ?_ | refine WC.ret ?_)
      exact X.ret_ rfl rfl ⟨rfl, rfl⟩

set_option maxRecDepth 100000 in
set_option maxHeartbeats 4000000 in
theorem number7_any (pp : Nat) (ad0 : Option Addr) (left : Value) (nest : Int) (ns : List ANode) (v : Value) (r : Bs) (w : World) (hv : Suf bd C E dc v (55 :: r)) (hE : E ≤ 100000000) (hf : Fol r) (hD : w.heap[bd]? = some (.cells dc 5 fz))
    (hP : PS w pp (.slice ad0 E C) left nest ns) (hm : ns.length ≤ 400000000) :
    Calls PP 123 #[.pointer (some ⟨pp, 0, none⟩), v] w fun e w' => ∃ v', e = .returned (.tuple #[.int .i32 ((ns.length + 1 : Nat) : Int), v', .nilIface]) ∧ Suf bd C E dc v' r ∧ PS w' pp (.slice ad0 E C) left nest (ns ++ [⟨11, some [55], 0, 0⟩]) ∧ Fm pp [52, 104] w w' := by
  have hC := hv.C63
  have hlt := hP.lt
  refine enter (L := [(0, .pointer (some ⟨pp, 0, none⟩)), (1, v)]) Tryz.func123 rfl rfl rfl ⟨rfl, rfl, trivial⟩ ?_
  repeat (first | refine WL.pp rfl ?_ | refine WL.ns ?_ | refine WC.sr ?_)
  refine WL.call rfl rfl rfl (scan7_any v r w hv hf hD) ?_
  rintro e w1 ⟨v1, v2, v3, rfl, h1, h2, h3, hS1⟩
  refine ⟨_, _, rfl, rfl, ?_⟩
  repeat (first | refine WL.pp rfl ?_ | refine WL.ns ?_ | refine WC.sr ?_ | refine WC.bF rfl (by first | with_reducible rfl | exact Bool.not_true) ?_ | refine WC.seq ?_ | refine X.sn ?_ | refine WC.skip ?_)
  have hU1 : Up w.heap.size w w1 := hS1.up
  obtain ⟨nv, xs, hb1, _, _⟩ := hP.up hU1
  refine WL.call rfl rfl rfl (range_any pp E C ad0 _ v1 left nv .nilIface _ w1 hb1 h1 hC hE) ?_
  rintro e w2 ⟨a, b2, rfl, hU2⟩
  refine ⟨_, _, rfl, rfl, ?_⟩
  have h2' := h2.upS hU2
  obtain ⟨ad2, cap2, rfl, -⟩ := h2
  repeat (refine WL.pp rfl ?_)
  refine WL.bd rfl rfl (bdNode _ _ _ _ _ _) rfl ?_
  have hP2 := (hP.up hU1).up hU2
  refine WL.call rfl rfl rfl (push_any pp _ left nest ns 11 0 0 a b2 _ (some [55]) w2 hP2 trivial (fun s hs => by cases hs; exact h2') hm) ?_
  rintro e w3 ⟨rfl, hP3, hF3⟩
  refine ⟨_, _, rfl, rfl, ?_⟩
  repeat (first | refine WL.pp rfl ?_ | refine WL.ns ?_ | refine WC.sr ?_ | refine WC.ret ?_)
  exact X.ret_ rfl rfl ⟨_, rfl, h3, hP3, ((hU1.fm (Nat.le_refl _) (by omega)).trans (hU2.fm (Nat.le_refl _) (by have := hU1.size; omega))).trans hF3⟩
end
end Go.Proofs.YtaccphdkapmdhaaGreat

