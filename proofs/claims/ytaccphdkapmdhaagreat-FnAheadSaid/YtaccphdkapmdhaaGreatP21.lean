/- The laws' documents: lists of expressions, as they are made. The first law: the walk. No condition. -/
import Derived.Test.YtaccphdkapmdhaaGreatP20
namespace Go.Proofs.YtaccphdkapmdhaaGreat

section
attribute [local semireducible] WL WC X WD WX
variable {all : List Oper} {Q : Exit → Act → World → Prop} {N : Nat} {L L' : Env} {o : Oper} {rest : List Oper} {w : World}

def mnA (L : Env) (op : Op) : Option (Int × Int) :=
  match op with
  | .call ⟨.builtin .min, ⟨[x, y]⟩, _⟩ => match ev L x, ev L y with
    | some (.int .i64 a), some (.int .i64 b) => some (a, b)
    | _, _ => none
  | _ => none

/-- 'min' of two whole numbers. -/
theorem WL.mn {a b : Nat} (m : Nat) (hg : grd all L o = some true) (h : mnA L o.op = some ((a : Int), (b : Int))) (hm : m = min a b) (hd : dstE N o (.int .i64 (m : Int)) L = some L') (k : WL all Q N L' rest w) : WL all Q N L (o :: rest) w := by
  refine WL.of_run hg (fun ac hf => ?_) hd k
  obtain ⟨dst, op, ty, pos, after, guard⟩ := o
  simp only at h
  unfold mnA at h
  split at h
  · rename_i x y t
    split at h
    · rename_i a' b' hx hy
      simp only [Option.some.injEq, Prod.mk.injEq] at h
      obtain ⟨rfl, rfl⟩ := h
      have e : (if b < a then (b : Int) else (a : Int)) = (m : Int) := by
        rw [hm]
        split <;> omega
      simp [execOp, resolve, invoke, builtin, hf.eval hx, hf.eval hy, Builtin.min_, Builtin.min2, e]
    · cases h
  · cases h
end

/-- A row of numbers of 32 bits. -/
def US (w : World) (v : Value) (l : List Nat) : Prop := ∃ ad cap, v = .slice ad l.length cap ∧ l.length ≤ cap ∧ (l ≠ [] → ∃ b o dc e fz, ad = some ⟨b, o, none⟩ ∧ w.heap[b]? = some (.cells dc e fz) ∧ ∀ (i n : Nat), l[i]? = some n → dc[o + i]? = some (.int .u32 (n : Int)))

theorem US.up {w w' v l} (h : US w v l) (hu : Up w.heap.size w w') : US w' v l := by
  obtain ⟨ad, cap, h1, h0, h2⟩ := h
  refine ⟨ad, cap, h1, h0, fun hne => ?_⟩
  obtain ⟨b, o, dc, e, fz, h3, h4, h5⟩ := h2 hne
  exact ⟨b, o, dc, e, fz, h3, hu.at (lt_of_heap h4) h4, h5⟩

theorem bsE0 (w : World) : (Instr.buildSlice 24 0 ⟨[]⟩).run PP w = .ok (.slice (some ⟨w.heap.size, 0, none⟩) 0 0) (w.alloc (.cells #[] 40 (0, 0))) := by kernel_rfl
theorem bsE1 (a b c d e f : Value) (w : World) : (Instr.buildSlice 24 1 ⟨[(0, .agg ⟨[a, b, c, d, e, f]⟩)]⟩).run PP w = .ok (.slice (some ⟨w.heap.size, 0, none⟩) 1 1) (w.alloc (.cells ⟨[a, b, c, d, e, f]⟩ 40 (0, 0))) := by kernel_rfl
theorem bdEx (ad : Option Addr) (n c : Nat) (w : World) : (Instr.build 40 ⟨[(1, .slice ad n c)]⟩).run PP w = .ok (.agg ⟨[.int .i64 0, .slice ad n c, .int .i64 0, str [], .slice none 0 0, .slice none 0 0]⟩) w := by kernel_rfl

attribute [local irreducible] binOp IntKind.wrap Sem.run

/-- An expression in a block of its own. -/
def XcAt (w : World) (P : Nat → Prop) (tb : Nat) (x : Ex) : Prop := ∃ kv a b c d, w.heap[tb]? = some (.cells ⟨[.int .i64 (exK x : Int), kv, a, b, c, d]⟩ 40 (0, 0)) ∧ RS w P kv (exKeys x) ∧ Nd w P (exV x) a b c ∧ RS w P d []

theorem nd0 (w : World) (P : Nat → Prop) : Nd w P (.sc 0 []) (.int .i64 0) (str []) (.slice none 0 0) := by
  rw [Nd]
  exact ⟨rfl, rfl, none, 0, rfl⟩

/-- A row of expressions that is owned. -/
theorem LsV.own {B : Nat} {w : World} {P : Nat → Prop} {v : Value} {es : List Ex} {xs : List Value} (hO : w.ownsRow B 40 6 v es.length xs) (hL : LsIs w P es xs) : LsV w P v es := by
  by_cases hz : es.length = 0
  · have : es = [] := List.eq_nil_of_length_eq_zero hz
    subst this
    rcases hO.2 with ⟨rfl, _⟩ | ⟨g, cap, cur, rfl, _⟩
    · exact ⟨none, 0, rfl, fun h => absurd rfl h⟩
    · exact ⟨_, cap, rfl, fun h => absurd rfl h⟩
  · obtain ⟨g, cap, cur, rfl, hg, hgc⟩ := row_cur hO hz
    exact ⟨_, cap, rfl, fun _ => ⟨g, _, rfl, hgc, LsIs.more cur hL⟩⟩

set_option maxRecDepth 100000 in
set_option maxHeartbeats 32000000 in
theorem linesOf_any (v : Value) (l : List Nat) (w : World) (hv : US w v l) (hl : ∀ n ∈ l, n < UU) :
    Calls PP 9 #[v] w fun e w' => ∃ lv xs, e = .returned lv ∧ w'.ownsRow w.heap.size 40 6 lv (linesOf l).length xs ∧ LsIs w' (fun b => w.heap.size ≤ b) (linesOf l) xs ∧ Up w.heap.size w w' := by
  obtain ⟨ad, cap, rfl, hlc, hrow⟩ := hv
  refine enter (L := [(0, .slice ad l.length cap)]) Tryz.func9 rfl rfl rfl ⟨rfl, trivial⟩ ?_
  repeat (first | refine WL.pp rfl ?_ | refine WL.ns ?_ | refine WC.sr ?_)
  refine WL.bs rfl rfl bsE0 rfl (fun w1 hA => ?_)
  have hU1 : Up w.heap.size w w1 := hA.up (Nat.le_refl _)
  have hO1 : w1.ownsRow w.heap.size 40 6 (.slice (some ⟨w.heap.size, 0, none⟩) 0 0) 0 [] := ⟨rfl, .inr ⟨w.heap.size, 0, #[], rfl, Nat.le_refl _, hA.at_, Nat.le_refl _, by simp only [maxLen]; omega, rfl, rfl⟩⟩
  obtain ⟨M, hM⟩ : ∃ M, M = min l.length 16 := ⟨_, rfl⟩
  have hll : (linesOf l).length = M := by simp [linesOf, hM, Nat.min_comm]
  repeat (first | refine WL.pp rfl ?_ | refine WL.ns ?_ | refine WC.sr ?_ | refine WL.mn (b := 16) M rfl rfl hM rfl ?_ | refine WL.s0 M rfl rfl rfl (by omega) rfl ?_ | refine WC.seq ?_ | refine WC.block ?_)
  refine WC.loop (σ := Nat × Value) (I := fun s w' => (∃ xs, w'.ownsRow w.heap.size 40 6 s.2 s.1 xs ∧ LsIs w' (fun b => w.heap.size ≤ b) ((linesOf l).take s.1) xs) ∧ Up w.heap.size w w' ∧ s.1 ≤ M)
    (m := fun s => M - s.1) (Lf := fun s => [(3, s.2), (12, .slice ad M cap), (13, .int .i64 (M : Int)), (14, .int .i64 (s.1 : Int))])
    (0, .slice (some ⟨w.heap.size, 0, none⟩) 0 0) ⟨⟨[], hO1, by simp [LsIs]⟩, hU1, Nat.zero_le _⟩ ⟨rfl, rfl, rfl, rfl, trivial⟩ ?_
  clear hA hU1 hO1
  rintro ⟨m, lv⟩ w2 ⟨⟨xs, hO, hL⟩, hU, hm⟩
  dsimp only at hO hL hm ⊢
  have hsz := hU.size
  by_cases hlt : m < M
  · have hml : m < l.length := by omega
    obtain ⟨n, hn⟩ : ∃ n, l[m]? = some n := ⟨_, List.getElem?_eq_getElem hml⟩
    have hnU := hl n (List.mem_of_getElem? hn)
    have hx : (linesOf l)[m]? = some (lineOf n) := by
      simp only [linesOf, List.getElem?_map, List.getElem?_take]
      rw [if_pos (by omega), hn]
      rfl
    have htake : (linesOf l).take (m + 1) = (linesOf l).take m ++ [lineOf n] := by rw [List.take_add_one, hx]; rfl
    have hne : l ≠ [] := by rintro rfl; simp at hml
    obtain ⟨b, o, dcs, _, fz, had, hb, hdc⟩ := hrow hne
    have hc2 : w2.cell? ⟨b, o + m, none⟩ = some (.int .u32 (n : Int)) := cell_of (hU.at (lt_of_heap hb) hb) (hdc m n hn)
    rw [had]
    repeat (first | refine WL.pp rfl ?_ | refine WL.ns ?_ | refine WC.sr ?_ | refine WC.dT rfl (by first | omega | decide) ?_ | refine WL.ix (i := m) rfl rfl rfl hlt (by rw [Nat.mul_one]; rfl) ?_ | refine WL.ld rfl rfl hc2 rfl ?_ | refine WC.seq ?_ | refine WC.block ?_ | refine X.sn ?_ | refine WC.skip ?_)
    refine WL.bo rfl rfl (shrUU n 3 (by omega) _ _ _) rfl ?_
    refine WL.call rfl rfl rfl (namesOf_any (n / 2 ^ 3) w2) ?_
    rintro e w3 ⟨kv, rfl, hR3, hU3⟩
    refine ⟨_, _, rfl, rfl, ?_⟩
    have hR3' := hR3
    obtain ⟨kad, kcap, rfl, -⟩ := hR3
    refine WL.bd rfl rfl (bdEx _ _ _) rfl ?_
    refine WL.al rfl rfl rfl (fun w4 hA4 => ?_)
    refine WL.sg rfl rfl rfl (by simp [oneV]) hA4.at_ (by simp) rfl (fun w5 hS5 => ?_)
    have hsz3 := hU3.size
    have hU35 : Up w3.heap.size w3 w5 := (hA4.up (Nat.le_refl _)).trans (hS5.up (Nat.le_refl _))
    have hU25 : Up w2.heap.size w2 w5 := hU3.trans (hU35.mono hsz3)
    have hb5 : w5.heap[w3.heap.size]? = some (.cells ⟨[.int .i64 0, .slice kad (nms (n / 2 ^ 3)).length kcap, .int .i64 0, str [], .slice none 0 0, .slice none 0 0]⟩ 40 (0, 0)) := by simpa using hS5.at_
    have hR5 : RS w5 (fun b => w.heap.size ≤ b) (.slice kad (nms (n / 2 ^ 3)).length kcap) (nms (n / 2 ^ 3)) := RS.move (Moved.up hU35 (fun b h _ => by omega)) hR3'
    generalize htb : w3.heap.size = tb at *
    clear hA4 hS5 hR3'
    repeat (first | refine WL.pp rfl ?_ | refine WL.ns ?_ | refine WC.sr ?_ | refine WL.bo rfl rfl (remU n 8 (by omega) _ _) rfl ?_ | refine WC.cut (x := .seq _ (.block _ _)) (σ := Unit) (fun _ w' => XcAt w' (fun b => w.heap.size ≤ b) tb (lineOf n) ∧ Up w2.heap.size w2 w' ∧ tb < w'.heap.size) (fun _ => [(3, lv), (6, .pointer (some ⟨tb, 0, none⟩)), (12, .slice (some ⟨b, o, none⟩) M cap), (13, .int .i64 (M : Int)), (14, .int .i64 (m : Int))]) ?_ ?_ | refine WC.seq ?_ | refine WC.block ?_)
    · have hn8 : n % 8 < 8 := Nat.mod_lt _ (by omega)
      have hR5' := hR5
      rcases (by omega : n % 8 = 0 ∨ n % 8 = 1 ∨ n % 8 = 2 ∨ 3 ≤ n % 8) with h | h | h | h
      · have hx2 : lineOf n = .tab (nms (n / 2 ^ 3)) := by unfold lineOf; rw [h]; rfl
        repeat (first | refine WL.pp rfl ?_ | refine WC.dT rfl (by first | omega | decide) ?_ | refine WC.reg ?_ | refine X.sn ?_ | refine WC.skip ?_)
        refine WL.stB rfl rfl rfl hb5 rfl rfl (fun w6 hS6 => ?_)
        repeat (first | refine WL.nil ?_ | refine X.bn ?_)
        refine X.cut () ⟨?_, hU25.trans (hS6.up (by omega)), by rw [hS6.size]; exact lt_of_heap hb5⟩ ⟨rfl, rfl, rfl, rfl, rfl, trivial⟩
        rw [hx2]
        exact ⟨_, _, _, _, _, hS6.at_, hR5.keep (fun g o hg ho ht => hS6.keep ho (fun e => by subst e; rw [hb5] at ho; cases ho; simp [tag] at ht)), nd0 _ _, RS.nil _ _⟩
      · have hx2 : lineOf n = .tab (nms (n / 2 ^ 3)) := by unfold lineOf; rw [h]; rfl
        repeat (first | refine WL.pp rfl ?_ | refine WL.ns ?_ | refine WC.dT rfl (by first | omega | decide) ?_ | refine WC.dF rfl (by first | omega | decide) ?_ | refine WC.reg ?_)
        refine WL.stB rfl rfl rfl hb5 rfl rfl (fun w6 hS6 => ?_)
        repeat (first | refine WL.nil ?_ | refine X.bn ?_)
        refine X.cut () ⟨?_, hU25.trans (hS6.up (by omega)), by rw [hS6.size]; exact lt_of_heap hb5⟩ ⟨rfl, rfl, rfl, rfl, rfl, trivial⟩
        rw [hx2]
        exact ⟨_, _, _, _, _, hS6.at_, hR5.keep (fun g o hg ho ht => hS6.keep ho (fun e => by subst e; rw [hb5] at ho; cases ho; simp [tag] at ht)), nd0 _ _, RS.nil _ _⟩
      · have hx2 : lineOf n = .atab (nms (n / 2 ^ 3)) := by unfold lineOf; rw [h]; rfl
        repeat (first | refine WL.pp rfl ?_ | refine WL.ns ?_ | refine WC.sr ?_ | refine WC.dT rfl (by first | omega | decide) ?_ | refine WC.dF rfl (by first | omega | decide) ?_ | refine WC.reg ?_)
        refine WL.stB rfl rfl rfl hb5 rfl rfl (fun w6 hS6 => ?_)
        repeat (first | refine WL.nil ?_ | refine X.bn ?_)
        refine X.cut () ⟨?_, hU25.trans (hS6.up (by omega)), by rw [hS6.size]; exact lt_of_heap hb5⟩ ⟨rfl, rfl, rfl, rfl, rfl, trivial⟩
        rw [hx2]
        exact ⟨_, _, _, _, _, hS6.at_, hR5.keep (fun g o hg ho ht => hS6.keep ho (fun e => by subst e; rw [hb5] at ho; cases ho; simp [tag] at ht)), nd0 _ _, RS.nil _ _⟩
      · have hx2 : lineOf n = .kv (nms (n / 2 ^ 3)) (mt 2 (n / 2 ^ 12)) := by
          unfold lineOf
          split <;> first | omega | rfl
        have hn12 : n / 2 ^ 12 < UU := Nat.lt_of_le_of_lt (Nat.div_le_self _ _) hnU
        repeat (first | refine WL.pp rfl ?_ | refine WL.ns ?_ | refine WC.sr ?_ | refine WC.dF rfl (by first | omega | decide) ?_ | refine WC.reg ?_)
        refine WL.bo rfl rfl (shrUU n 12 (by omega) _ _ _) rfl ?_
        refine WL.call rfl rfl rfl (mtC_all 2 (by omega) (n / 2 ^ 12) w5 hn12) ?_
        rintro e w6 ⟨a', b', c', d', rfl, hN6, hR6, hU6⟩
        refine ⟨_, _, rfl, rfl, ?_⟩
        have hb6 := hU6.at (lt_of_heap hb5) hb5
        obtain ⟨o1, o2, o3, _⟩ := hN6.one
        have o4 := hR6.one
        have hsz5 := hU35.size
        have hsz56 := hU6.size
        repeat (refine WL.pp rfl ?_)
        refine WL.sg rfl rfl rfl (by simp [o1, o2, o3, o4]) hb6 (by simp) rfl (fun w7 hS7 => ?_)
        have hne7 : ∀ (g : Nat) (o : Obj), w6.heap[g]? = some o → (tag o = 9 ∨ tag o = 37) → g ≠ tb := fun g o ho ht e => by
          subst e
          rw [hb6] at ho
          cases ho
          simp [tag] at ht
        have hmv : ∀ (P P' : Nat → Prop), (∀ b, P b → P' b) → Moved P P' w6 w7 := fun P P' hp b o hb ho ht => ⟨hS7.keep ho (hne7 b o ho ht), hp b hb⟩
        repeat (first | refine WL.nil ?_ | refine X.bn ?_)
        refine X.cut () ⟨?_, (hU25.trans (hU6.mono (by omega))).trans (hS7.up (by omega)), by rw [hS7.size]; exact lt_of_heap hb6⟩ ⟨rfl, rfl, rfl, rfl, rfl, trivial⟩
        rw [hx2]
        exact ⟨_, _, _, _, _, by simpa [exK] using hS7.at_, RS.move ((Moved.up hU6 (fun b h _ => h)).trans (hmv _ _ (fun b h => h))) hR5, Nd.move (hmv _ _ (fun b h => by omega)) _ _ _ _ hN6, RS.move (hmv _ _ (fun b h => by omega)) hR6⟩
    · rintro _ w6 ⟨⟨kv, a', b', c', d', hb6, hR6, hN6, hRd6⟩, hU26, htb6⟩
      obtain ⟨o1, o2, o3, _⟩ := hN6.one
      have o4 := hR6.one
      have o5 := hRd6.one
      have hones : ∀ u ∈ [Value.int .i64 (exK (lineOf n) : Int), kv, a', b', c', d'], oneV u = true := fun u hu => by
        simp only [List.mem_cons, List.not_mem_nil, or_false] at hu
        rcases hu with rfl | rfl | rfl | rfl | rfl | rfl
        · rfl
        · exact o4
        · exact o1
        · exact o2
        · exact o3
        · exact o5
      repeat (first | refine WL.pp rfl ?_ | refine WL.lgB (b := tb) rfl rfl hb6 rfl rfl ?_ | refine WC.reg ?_)
      refine WL.bs rfl rfl (bsE1 _ _ _ _ _ _) rfl (fun w7 hA7 => ?_)
      have hsz26 := hU26.size
      have hO7 : w7.ownsRow w.heap.size 40 6 lv m xs := own_same hO (fun g o hg h => hA7.keep (hU26.at (lt_of_heap h) h))
      have hL7 : LsIs w7 (fun b => w.heap.size ≤ b) ((linesOf l).take m) xs := LsIs.move (Moved.up (hU26.trans (hA7.up hsz26)) (fun b h _ => h)) _ _ hL
      have hk7 : Kept (fun b => w.heap.size ≤ b) w6 w7 := Kept.fm (hA7.fm (B := 0) (T := []) (Nat.zero_le _)) (by simp) (by simp)
      refine WL.apf (m := 1) [.int .i64 (exK (lineOf n) : Int), kv, a', b', c', d'] rfl rfl (rfl : rowT 24 = some (40, 6)) hO7 rfl (fun j u hu => ?_) hones (by omega) (by rw [hA7.size]; omega) (fun lv' w8 hO8 hF8 _ => ?_)
      · rw [add_zero]
        exact cell_of hA7.at_ (by simpa using hu)
      have hk8 : Kept (fun b => w.heap.size ≤ b) w7 w8 := Kept.fm hF8 (by simp) (by simp)
      refine ⟨_, rfl, ?_⟩
      repeat (first | refine WL.pp rfl ?_ | refine WC.reg ?_ | refine WL.nil ?_ | refine X.sn ?_ | refine X.bn ?_ | refine WL.ad rfl rfl (by omega) rfl ?_)
      refine X.again (m + 1, lv') ⟨⟨_, hO8, ?_⟩, ((hU.trans (hU26.mono hsz)).trans (hA7.up (by omega))).trans (hF8.up.mono (by omega)), by dsimp only; omega⟩ (by dsimp only; omega) ⟨rfl, rfl, rfl, rfl, trivial⟩
      dsimp only
      rw [htake]
      exact LsIs.snoc (LsIs.keep hk8 _ _ hL7) (by rw [hO.1, List.length_take, hll]; omega) ((hR6.keep hk7).keep hk8) (Nd.keep hk8 _ _ _ _ (Nd.keep hk7 _ _ _ _ hN6)) ((hRd6.keep hk7).keep hk8)
  · have hmM : m = M := by omega
    subst hmM
    repeat (first | refine WL.pp rfl ?_ | refine WL.ns ?_ | refine WC.sr ?_ | refine WC.dF rfl (by first | omega | decide) ?_ | refine WC.seq ?_ | refine X.sn ?_ | refine X.sx ?_ | refine X.bx ?_ | refine WC.exit ?_ | refine WC.ret ?_)
    refine X.ret_ rfl rfl ⟨lv, xs, rfl, by rw [hll]; exact hO, ?_, hU⟩
    rw [← hll, List.take_length] at hL
    exact hL
end Go.Proofs.YtaccphdkapmdhaaGreat

namespace Go.Proofs.YtaccphdkapmdhaaGreat
attribute [local irreducible] binOp IntKind.wrap Sem.run

/-- What may be written of the laws' lines. -/
structure OkL (es : List Ex) : Prop where
  ok : ∀ x ∈ es, OkX x ∧ kX x ≤ 4000
  len : es.length ≤ 40

theorem OkL.lines (l : List Nat) : OkL (linesOf l) := ⟨fun x hx => by obtain ⟨h1, h2⟩ := (linesOf_ok l).1 x hx; exact ⟨h1, by omega⟩, by have := (linesOf_ok l).2; omega⟩
theorem OkL.take {es : List Ex} (h : OkL es) (k : Nat) : OkL (es.take k) := ⟨fun x hx => h.ok x (List.mem_of_mem_take hx), by have := h.len; rw [List.length_take]; omega⟩
theorem OkL.kXs {es : List Ex} (h : OkL es) : kXs es ≤ 160000 := by
  have h1 := kXs_le 4000 es (fun x hx => (h.ok x hx).2)
  have h2 : es.length * 4000 ≤ 40 * 4000 := Nat.mul_le_mul_right _ h.len
  omega

/-- Lines are written, and read: the first one that is refused. -/
theorem writeMeant {Q : World → Prop} (P : Nat → Prop) (lv cv : Value) (es : List Ex) (code : Bs) (w : World) (hL : LsV w P lv es) (hc : RF w.heap.size w cv code) (hok : OkL es) (hm : code.length ≤ 100000) :
    Calls PP 11 #[lv, cv] w fun e w' => ∃ v, e = .returned v ∧ Up w.heap.size w w' ∧ Calls PP 10 #[v] w' fun e w'' => e = .returned (.int .i64 (foundV (meant es))) ∧ Up w'.heap.size w' w'' := by
  have hk := hok.kXs
  refine (write_any P lv cv es code w hL hc (fun x hx => (hok.ok x hx).1) (by omega)).mono ?_
  rintro e w' ⟨v, l, rfl, hR, hD, hl, hU⟩
  exact ⟨v, rfl, hU, meanings_any v l es w' hR hD (by omega)⟩

theorem LsV.cutTo {w : World} {P : Nat → Prop} {ad : Option Addr} {n cap : Nat} {es : List Ex} (h : LsV w P (.slice ad n cap) es) (k : Nat) (hk : k ≤ es.length) : LsV w P (.slice ad k cap) (es.take k) := by
  obtain ⟨ad', cap', h1, h2⟩ := h
  simp only [Value.slice.injEq] at h1
  obtain ⟨rfl, _, rfl⟩ := h1
  refine ⟨ad, cap, by rw [List.length_take, Nat.min_eq_left hk], fun hne => ?_⟩
  have hne' : es ≠ [] := by rintro rfl; simp at hne
  obtain ⟨g, cur, h3, h4, h5⟩ := h2 hne'
  exact ⟨g, cur, h3, h4, LsIs.take k h5⟩

theorem RF.mono {B B' w v l} (h : RF B w v l) (hb : B ≤ B') : RF B' w v l := by
  obtain ⟨ad, cap, h1, h2⟩ := h
  refine ⟨ad, cap, h1, fun hl => ?_⟩
  obtain ⟨b, o, dc, e, fz, h3, h4, h5, h6⟩ := h2 hl
  exact ⟨b, o, dc, e, fz, h3, h4, h5, Nat.lt_of_lt_of_le h6 hb⟩
theorem US.sl {w v l} (h : US w v l) : ∃ ad cap, v = .slice ad l.length cap := by
  obtain ⟨ad, cap, h, _⟩ := h
  exact ⟨ad, cap, h⟩

theorem LsV.keepOld {w w' : World} {P : Nat → Prop} {v : Value} {es : List Ex} {B : Nat} {T : List Nat} (h : LsV w P v es) (hf : Fm B T w w') (hb : ∀ g, v.ownBlock = some g → g < B) (h9 : 9 ∉ T) (h37 : 37 ∉ T) : LsV w' P v es := by
  obtain ⟨ad, cap, rfl, h2⟩ := h
  refine ⟨ad, cap, rfl, fun hne => ?_⟩
  obtain ⟨g, cur, rfl, h4, h5⟩ := h2 hne
  exact ⟨g, cur, rfl, (hf.old g (hb g rfl)).trans h4, LsIs.keep (Kept.fm hf h9 h37) es cur h5⟩

set_option maxRecDepth 100000 in
set_option maxHeartbeats 64000000 in
theorem fnAhead_any (v0 v1 v2 : Value) (l more : List Nat) (code : Bs) (w : World) (h0 : US w v0 l) (h1 : RF w.heap.size w v1 code) (h2 : US w v2 more) (hl : ∀ n ∈ l, n < UU) (hmo : ∀ n ∈ more, n < UU) :
    Calls PP 3 #[v0, v1, v2] w fun e w' => e = .returned (.bool true) ∧ Up w.heap.size w w' := by
  have g0 := h0
  have g1 := h1
  have g2 := h2
  obtain ⟨ad0, cap0, rfl⟩ := h0.sl
  obtain ⟨ad1, cap1, rfl, _⟩ := h1
  obtain ⟨ad2, cap2, rfl⟩ := h2.sl
  refine enter (L := [(0, .slice ad0 l.length cap0), (1, .slice ad1 code.length cap1), (2, .slice ad2 more.length cap2)]) Tryz.func3 rfl rfl rfl ⟨rfl, rfl, rfl, trivial⟩ ?_
  by_cases a1 : 2147483647 < l.length
  · repeat (first | refine WL.pp rfl ?_ | refine WL.ns ?_ | refine WC.sr ?_ | refine WC.bT rfl (by first | with_reducible rfl | exact Bool.not_false) ?_ | refine WL.p rfl ?_ | refine WC.seq ?_ | refine X.sr ?_ | refine WC.ret ?_ | refine WL.gT rfl rfl (by first | omega | decide) ?_)
    exact X.ret_ rfl rfl ⟨rfl, Up.refl _ _⟩
  by_cases a2 : 2147483647 < code.length
  · repeat (first | refine WL.pp rfl ?_ | refine WL.ns ?_ | refine WC.sr ?_ | refine WC.bT rfl (by first | with_reducible rfl | exact Bool.not_false) ?_ | refine WL.p rfl ?_ | refine WC.seq ?_ | refine X.sr ?_ | refine WC.ret ?_ | refine WL.gT rfl rfl (by first | omega | decide) ?_ | refine WL.gF rfl rfl (by first | omega | decide) ?_)
    exact X.ret_ rfl rfl ⟨rfl, Up.refl _ _⟩
  by_cases a3 : 2147483647 < more.length
  · repeat (first | refine WL.pp rfl ?_ | refine WL.ns ?_ | refine WC.sr ?_ | refine WC.dT rfl (by first | omega | decide) ?_ | refine WL.p rfl ?_ | refine WC.seq ?_ | refine X.sr ?_ | refine WC.ret ?_ | refine WL.gF rfl rfl (by first | omega | decide) ?_)
    exact X.ret_ rfl rfl ⟨rfl, Up.refl _ _⟩
  by_cases b1 : 100 < l.length
  · repeat (first | refine WL.pp rfl ?_ | refine WL.ns ?_ | refine WC.sr ?_ | refine WC.bT rfl (by first | with_reducible rfl | exact Bool.not_false) ?_ | refine WC.dF rfl (by first | omega | decide) ?_ | refine WL.p rfl ?_ | refine WC.seq ?_ | refine X.sn ?_ | refine X.sr ?_ | refine WC.skip ?_ | refine WC.ret ?_ | refine WL.gT rfl rfl (by first | omega | decide) ?_ | refine WL.gF rfl rfl (by first | omega | decide) ?_)
    exact X.ret_ rfl rfl ⟨rfl, Up.refl _ _⟩
  by_cases b2 : 1000 < code.length
  · repeat (first | refine WL.pp rfl ?_ | refine WL.ns ?_ | refine WC.sr ?_ | refine WC.bT rfl (by first | with_reducible rfl | exact Bool.not_false) ?_ | refine WC.dF rfl (by first | omega | decide) ?_ | refine WL.p rfl ?_ | refine WC.seq ?_ | refine X.sn ?_ | refine X.sr ?_ | refine WC.skip ?_ | refine WC.ret ?_ | refine WL.gT rfl rfl (by first | omega | decide) ?_ | refine WL.gF rfl rfl (by first | omega | decide) ?_)
    exact X.ret_ rfl rfl ⟨rfl, Up.refl _ _⟩
  by_cases b3 : 100 < more.length
  · repeat (first | refine WL.pp rfl ?_ | refine WL.ns ?_ | refine WC.sr ?_ | refine WC.dT rfl (by first | omega | decide) ?_ | refine WC.dF rfl (by first | omega | decide) ?_ | refine WL.p rfl ?_ | refine WC.seq ?_ | refine X.sn ?_ | refine X.sr ?_ | refine WC.skip ?_ | refine WC.ret ?_ | refine WL.gF rfl rfl (by first | omega | decide) ?_)
    exact X.ret_ rfl rfl ⟨rfl, Up.refl _ _⟩
  repeat (first | refine WL.pp rfl ?_ | refine WL.ns ?_ | refine WC.sr ?_ | refine WC.dF rfl (by first | omega | decide) ?_ | refine WL.p rfl ?_ | refine WC.seq ?_ | refine X.sn ?_ | refine WC.skip ?_ | refine WL.gF rfl rfl (by first | omega | decide) ?_)
  refine WL.call rfl rfl rfl (linesOf_any _ l w g0 hl) ?_
  rintro e w1 ⟨lv, xs, rfl, hO1, hL1, hU1⟩
  refine ⟨_, _, rfl, rfl, ?_⟩
  have hok := OkL.lines l
  have hlen16 := (linesOf_ok l).2
  have hV1 := LsV.own hO1 hL1
  generalize linesOf l = es at *
  have hV0 := hV1
  obtain ⟨lad, lcap, rfl, _⟩ := hV1
  have hlcap : es.length ≤ lcap := by
    rcases hO1.2 with ⟨h, hn⟩ | ⟨g, cap, cur, h, _, _, hc, _⟩
    · omega
    · simp only [Value.slice.injEq] at h
      omega
  repeat (first | refine WL.pp rfl ?_ | refine WL.ns ?_ | refine WC.sr ?_)
  refine WL.call rfl rfl rfl (writeMeant (Q := fun _ => True) _ _ _ es code w1 hV0 (g1.upS hU1) hok (by omega)) ?_
  rintro e w2 ⟨v2, rfl, hU2, hM2⟩
  refine ⟨_, _, rfl, rfl, ?_⟩
  skip
  refine WL.call rfl rfl rfl hM2 ?_
  rintro e w3 ⟨rfl, hU3⟩
  refine ⟨_, _, rfl, rfl, ?_⟩
  have hV3 := (hV0.up hU2).up hU3
  have hU13 : Up w.heap.size w w3 := (hU1.trans (hU2.mono hU1.size)).trans (hU3.mono (by have := hU1.size; have := hU2.size; omega))
  have hC3 := g1.upS hU13
  have hM3 := g2.up hU13
  have hsz3 := hU13.size
  cases hme : meant es with
  | some k =>
    obtain ⟨hkl, hkt⟩ := meant_take hme
    have hne : es ≠ [] := by rintro rfl; simp at hkl
    simp only [foundV]
    repeat (first | refine WL.pp rfl ?_ | refine WL.ns ?_ | refine WC.sr ?_ | refine WC.dT rfl (by first | omega | decide) ?_ | refine WC.seq ?_)
    refine WL.bs rfl rfl bsE0 rfl (fun w4 hA4 => ?_)
    have hV4 := hV3.up (hA4.up (Nat.le_refl _))
    have hV4' := hV4
    obtain ⟨lad', lcap', hlv, hrow4⟩ := hV4
    simp only [Value.slice.injEq] at hlv
    obtain ⟨rfl, _, rfl⟩ := hlv
    obtain ⟨g, cur, rfl, hg, hLs⟩ := hrow4 hne
    have hg3 : g < w3.heap.size := by
      obtain ⟨ad', cap', e1, e2⟩ := hV3
      simp only [Value.slice.injEq] at e1
      obtain ⟨rfl, _, _⟩ := e1
      obtain ⟨g', cur', e3, e4, _⟩ := e2 hne
      simp only [Option.some.injEq, Addr.mk.injEq] at e3
      rw [e3.1]
      exact lt_of_heap e4
    have hge := hLs.lenGe
    have hO4 : w4.ownsRow w3.heap.size 40 6 (.slice (some ⟨w3.heap.size, 0, none⟩) 0 0) 0 [] := ⟨rfl, .inr ⟨w3.heap.size, 0, #[], rfl, Nat.le_refl _, hA4.at_, Nat.le_refl _, by simp only [maxLen]; omega, rfl, rfl⟩⟩
    repeat (refine WL.pp rfl ?_)
    refine WL.apf (m := es.length) (cur.take (es.length * 6)) rfl rfl (rfl : rowT 24 = some (40, 6)) hO4 (by rw [List.length_take]; omega) (fun j u hu => ?_) (LsIs.one (hLs.tk) (by rw [List.length_take]; omega)) (by have := hok.len; omega) (by rw [hA4.size]; omega) (fun v5 w5 hO5 hF5 _ => ?_)
    · rw [add_zero]
      refine cell_of hg ?_
      rw [List.getElem?_take] at hu
      split at hu
      · simpa using hu
      · cases hu
    refine ⟨_, rfl, ?_⟩
    have hsz4 : w4.heap.size = w3.heap.size + 1 := hA4.size
    have hF45 : Fm 0 [40] w4 w5 := hF5.mono (Nat.zero_le _) (fun _ h => h)
    have hsz45 := hF45.size
    have hU35 : Up w3.heap.size w3 w5 := (hA4.up (Nat.le_refl _)).trans (hF5.up)
    have hC5 := hC3.upS hU35
    have hV5 := hV3.up hU35
    have hLs5 : LsIs w5 (fun _ => True) es (cur.take (es.length * 6)) := LsIs.mono (fun _ _ => trivial) _ _ (LsIs.keep (Kept.fm hF45 (by simp) (by simp)) _ _ hLs.tk)
    have hlt6 : (cur.take (es.length * 6)).length = es.length * 6 := by rw [List.length_take]; omega
    repeat (refine WL.pp rfl ?_)
    refine WL.call rfl rfl rfl (linesOf_any _ more w5 (hM3.up hU35) hmo) ?_
    rintro e w6 ⟨lv2, xs2, rfl, hO6, hL6, hU6⟩
    refine ⟨_, _, rfl, rfl, ?_⟩
    have hok2' := OkL.lines more
    have hlen2 := (linesOf_ok more).2
    generalize linesOf more = es2 at *
    have hok2 : OkL (es ++ es2) := ⟨fun x hx => (List.mem_append.1 hx).elim (hok.ok x) (hok2'.ok x), by rw [List.length_append]; omega⟩
    have hme2 : meant (es ++ es2) = some k := meant_app es2 hme
    have hO6' : w6.ownsRow w3.heap.size 40 6 v5 (0 + es.length) ([] ++ cur.take (es.length * 6)) := own_same hO5 (fun g o hg h => hU6.at (lt_of_heap h) h)
    have hLs6 : LsIs w6 (fun _ => True) es (cur.take (es.length * 6)) := LsIs.move (Moved.up hU6 (fun _ _ _ => trivial)) _ _ hLs5
    have hL6' : LsIs w6 (fun _ => True) es2 xs2 := LsIs.mono (fun _ _ => trivial) _ _ hL6
    have hC6 := hC5.upS hU6
    have hV6 := hV5.up hU6
    have hsz6 := hU6.size
    have hU06 : Up w.heap.size w w6 := hU13.trans ((hU35.mono (by omega)).trans (hU6.mono (by omega)))
    have hkl2 : k ≤ es.length := by omega
    have hklc : k ≤ lcap := by omega
    rcases hO6.2 with ⟨rfl, hn0⟩ | ⟨g2, cap2, cur2, rfl, hb2, hg2, hc2, hm2, hs2, ht2⟩
    · have he2 : es2 = [] := List.eq_nil_of_length_eq_zero hn0
      refine WL.ap0 rfl rfl rfl hO6' rfl ?_
      have hV7 : LsV w6 (fun _ => True) v5 (es ++ es2) := by
        rw [he2, List.append_nil]
        exact LsV.own (B := w3.heap.size) (xs := cur.take (es.length * 6)) (by simpa using hO6') hLs6
      have hC7 := hC6
      have hVl7 := hV6
      have hU7 := hU06
      generalize w6 = w7 at *
      repeat (refine WL.pp rfl ?_)
      refine WL.call rfl rfl rfl (writeMeant (Q := fun _ => True) _ _ _ (es ++ es2) code w7 hV7 hC7 hok2 (by omega)) ?_
      rintro e w8 ⟨v8, rfl, hU8, hM8⟩
      refine ⟨_, _, rfl, rfl, ?_⟩
      skip
      refine WL.call rfl rfl rfl hM8 ?_
      rintro e w9 ⟨rfl, hU9⟩
      refine ⟨_, _, rfl, rfl, ?_⟩
      rw [hme2]
      simp only [foundV]
      have hsz7 := hU7.size
      have hsz8 := hU8.size
      have hsz9 := hU9.size
      have hVl9 := (hVl7.up hU8).up hU9
      have hC9 := (hC7.upS hU8).upS hU9
      repeat (first | refine WL.pp rfl ?_ | refine WL.s0 k rfl rfl rfl hklc rfl ?_ | refine WL.p rfl ?_ | refine WL.gT rfl rfl (by first | omega | decide) ?_)
      refine WL.call rfl rfl rfl (writeMeant (Q := fun _ => True) _ _ _ (es.take k) code w9 (hVl9.cutTo k (by omega)) hC9 (hok.take k) (by omega)) ?_
      rintro e w10 ⟨v10, rfl, hU10, hM10⟩
      refine ⟨_, _, rfl, rfl, ?_⟩
      skip
      refine WL.call rfl rfl rfl hM10 ?_
      rintro e w11 ⟨rfl, hU11⟩
      refine ⟨_, _, rfl, rfl, ?_⟩
      rw [hkt]
      simp only [foundV]
      have hsz10 := hU10.size
      repeat (first | refine WL.pp rfl ?_ | refine WL.ns ?_ | refine WL.p rfl ?_ | refine X.sr ?_ | refine WC.ret ?_)
      refine X.ret_ rfl rfl ⟨?_, hU7.trans (((hU8.mono (by omega)).trans (hU9.mono (by omega))).trans ((hU10.mono (by omega)).trans (hU11.mono (by omega))))⟩
      refine congrArg Ending.returned (congrArg Value.bool ?_)
      exact dc_of rfl
    · refine WL.apf (m := es2.length) xs2 rfl rfl (rfl : rowT 24 = some (40, 6)) hO6' hO6.1 (fun j u hu => hO6.cells (g := g2) rfl j u hu) (LsIs.one hL6' hO6.1) (by omega) (by omega) (fun v7 w7 hO7 hF7 _ => ⟨_, rfl, ?_⟩)
      have hF67 : Fm 0 [40] w6 w7 := hF7.mono (Nat.zero_le _) (fun _ h => h)
      have hV7 : LsV w7 (fun _ => True) v7 (es ++ es2) := by
        refine LsV.own (B := w3.heap.size) (xs := cur.take (es.length * 6) ++ xs2) ?_ (LsIs.app (LsIs.keep (Kept.fm hF67 (by simp) (by simp)) _ _ hLs6) hlt6 (LsIs.keep (Kept.fm hF67 (by simp) (by simp)) _ _ hL6'))
        rw [List.length_append]
        simpa using hO7
      have hC7 := RF.mono (B' := w7.heap.size) (((hC3.fm (hU35.fm (B' := 0) (T := []) (Nat.le_refl _) (Nat.zero_le _)) (by simp)).fm (hU6.fm (B' := 0) (T := []) (Nat.le_refl _) (Nat.zero_le _)) (by simp)).old hF7) (by have := hF7.size; omega)
      have hU7 : Up w.heap.size w w7 := hU06.trans (hF7.up.mono (by omega))
      have hVl7 := hV6.keepOld hF7 (fun g' hg' => by simp only [Value.ownBlock, Option.some.injEq] at hg'; subst hg'; exact hg3) (by simp) (by simp)
      repeat (refine WL.pp rfl ?_)
      refine WL.call rfl rfl rfl (writeMeant (Q := fun _ => True) _ _ _ (es ++ es2) code w7 hV7 hC7 hok2 (by omega)) ?_
      rintro e w8 ⟨v8, rfl, hU8, hM8⟩
      refine ⟨_, _, rfl, rfl, ?_⟩
      skip
      refine WL.call rfl rfl rfl hM8 ?_
      rintro e w9 ⟨rfl, hU9⟩
      refine ⟨_, _, rfl, rfl, ?_⟩
      rw [hme2]
      simp only [foundV]
      have hsz7 := hU7.size
      have hsz8 := hU8.size
      have hsz9 := hU9.size
      have hVl9 := (hVl7.up hU8).up hU9
      have hC9 := (hC7.upS hU8).upS hU9
      repeat (first | refine WL.pp rfl ?_ | refine WL.s0 k rfl rfl rfl hklc rfl ?_ | refine WL.p rfl ?_ | refine WL.gT rfl rfl (by first | omega | decide) ?_)
      refine WL.call rfl rfl rfl (writeMeant (Q := fun _ => True) _ _ _ (es.take k) code w9 (hVl9.cutTo k (by omega)) hC9 (hok.take k) (by omega)) ?_
      rintro e w10 ⟨v10, rfl, hU10, hM10⟩
      refine ⟨_, _, rfl, rfl, ?_⟩
      skip
      refine WL.call rfl rfl rfl hM10 ?_
      rintro e w11 ⟨rfl, hU11⟩
      refine ⟨_, _, rfl, rfl, ?_⟩
      rw [hkt]
      simp only [foundV]
      have hsz10 := hU10.size
      repeat (first | refine WL.pp rfl ?_ | refine WL.ns ?_ | refine WL.p rfl ?_ | refine X.sr ?_ | refine WC.ret ?_)
      refine X.ret_ rfl rfl ⟨?_, hU7.trans (((hU8.mono (by omega)).trans (hU9.mono (by omega))).trans ((hU10.mono (by omega)).trans (hU11.mono (by omega))))⟩
      refine congrArg Ending.returned (congrArg Value.bool ?_)
      exact dc_of rfl
  | none =>
    simp only [foundV]
    repeat (first | refine WL.pp rfl ?_ | refine WL.ns ?_ | refine WC.sr ?_ | refine WC.dF rfl (by first | omega | decide) ?_ | refine WC.seq ?_ | refine WC.block ?_ | refine X.sn ?_ | refine WC.skip ?_ | refine WL.ad rfl rfl (by omega) rfl ?_)
    refine WC.loop (σ := Nat) (I := fun n w' => Up w.heap.size w w' ∧ Up w3.heap.size w3 w' ∧ n ≤ es.length + 1) (m := fun n => es.length + 1 - n) (Lf := fun n => [(1, .slice ad1 code.length cap1), (7, .slice lad es.length lcap), (8, .int .i64 (-1)), (66, .int .i64 ((es.length : Int) + 1)), (67, .int .i64 (n : Int))])
      0 ⟨hU13, Up.refl _ _, Nat.zero_le _⟩ ⟨rfl, rfl, rfl, rfl, rfl, trivial⟩ ?_
    rintro n w4 ⟨hU, hU4, hn⟩
    have hsz4 := hU4.size
    by_cases hlt : n < es.length + 1
    · repeat (first | refine WL.pp rfl ?_ | refine WL.ns ?_ | refine WC.sr ?_ | refine WC.dT rfl (by first | omega | decide) ?_ | refine WL.s0 n rfl rfl rfl (by omega) rfl ?_ | refine WC.seq ?_ | refine WC.block ?_ | refine X.sn ?_ | refine WC.skip ?_)
      refine WL.call rfl rfl rfl (writeMeant (Q := fun _ => True) _ _ _ (es.take n) code w4 ((hV3.up hU4).cutTo n (by omega)) (hC3.upS hU4) (hok.take n) (by omega)) ?_
      rintro e w5 ⟨v5, rfl, hU5, hM5⟩
      refine ⟨_, _, rfl, rfl, ?_⟩
      skip
      refine WL.call rfl rfl rfl hM5 ?_
      rintro e w6 ⟨rfl, hU6⟩
      refine ⟨_, _, rfl, rfl, ?_⟩
      rw [meant_none n hme]
      simp only [foundV]
      have hsz5 := hU5.size
      repeat (first | refine WL.pp rfl ?_ | refine WL.ns ?_ | refine WC.dF rfl (by first | omega | decide) ?_ | refine WC.reg ?_ | refine WL.nil ?_ | refine X.sn ?_ | refine X.bn ?_ | refine WC.skip ?_ | refine WL.ad rfl rfl (by omega) rfl ?_)
      exact X.again (n + 1) ⟨hU.trans ((hU5.mono (by omega)).trans (hU6.mono (by omega))), hU4.trans ((hU5.mono (by omega)).trans (hU6.mono (by omega))), by omega⟩ (by omega) ⟨rfl, rfl, rfl, rfl, rfl, trivial⟩
    · repeat (first | refine WL.pp rfl ?_ | refine WL.ns ?_ | refine WC.sr ?_ | refine WC.dF rfl (by first | omega | decide) ?_ | refine WC.seq ?_ | refine X.sn ?_ | refine X.sx ?_ | refine X.bx ?_ | refine WC.exit ?_ | refine WC.ret ?_)
      refine X.ret_ rfl rfl ⟨?_, hU⟩
      refine congrArg Ending.returned (congrArg Value.bool ?_)
      exact dc_of rfl
end Go.Proofs.YtaccphdkapmdhaaGreat

