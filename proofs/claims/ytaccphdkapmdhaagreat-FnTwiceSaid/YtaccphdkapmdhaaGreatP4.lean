/- Regions whose order is open, walked in the order of the text; words of 64 bits; texts out of slices of bytes. What eight bytes at once tell of each of them: the parser's tests on words. Plain Lean. The scanner's small functions, along texts that are right. Rows that a function owns: 'append', 'make', 'copy'; bytes. The parser's words of eight bytes. No condition. -/
import Derived.Test.YtaccphdkapmdhaaGreatP3
import Derived.Test.YtaccphdkapmdhaaGreatP1
import Derived.Laws.OwnMore
import Derived.Laws.MakeOwn
import Derived.Laws.CopyRow
import Derived.Lib.AppendStr
namespace Go.Proofs.YtaccphdkapmdhaaGreat
attribute [local semireducible] WL WC X WD

/-- The same memory. -/
structure Sm (w w' : World) : Prop where
  heap : w'.heap = w.heap
  os : w'.os = w.os
  tape : w'.tape = w.tape
  output : w'.output = w.output

theorem Sm.refl (w : World) : Sm w w := ⟨rfl, rfl, rfl, rfl⟩
theorem Sm.trans {a b c : World} (h : Sm a b) (g : Sm b c) : Sm a c := ⟨g.heap.trans h.heap, g.os.trans h.os, g.tape.trans h.tape, g.output.trans h.output⟩
theorem Sm.drew {a b : World} (h : Sm a b) : Sm a b.drew := ⟨h.heap, h.os, h.tape, h.output⟩
theorem Sm.fm {B T} {w w' : World} (h : Sm w w') : Fm B T w w' :=
  ⟨h.os, h.tape, h.output, by rw [h.heap]; exact Nat.le_refl _, fun k _ => by rw [h.heap], fun k o ho _ => by rw [h.heap]; exact ho, fun k o ho => ⟨o, by rw [h.heap]; exact ho, rfl⟩⟩
theorem Sm.at {w w' : World} (h : Sm w w') {k : Nat} {o : Obj} (ho : w.heap[k]? = some o) : w'.heap[k]? = some o := by rw [h.heap]; exact ho
theorem Sm.cell {w w' : World} (h : Sm w w') {a : Addr} {v : Value} (hc : w.cell? a = some v) : w'.cell? a = some v := by
  unfold World.cell? at *; rw [h.heap]; exact hc

def lst (n k : Nat) : Array Bool := ((List.range n).map fun i => Nat.blt i k).toArray

theorem lst_set {n k : Nat} (h : k < n) : (lst n k).setIfInBounds k true = lst n (k + 1) := by
  unfold lst
  apply Array.ext_getElem?
  intro i
  rw [Array.getElem?_setIfInBounds]
  simp only [List.size_toArray, List.length_map, List.length_range, List.getElem?_toArray, List.getElem?_map]
  by_cases hi : i < n
  · simp only [List.getElem?_range hi, Option.map_some]
    by_cases e : k = i
    · subst e; simp [h, Nat.blt_eq]
    · simp only [e, if_false]
      congr 1
      rw [Bool.eq_iff_iff]
      simp only [Nat.blt_eq]
      omega
  · have : (List.range n)[i]? = none := by simp; omega
    simp only [this, Option.map_none]
    split <;> simp_all

theorem lst_zero (n : Nat) : lst n 0 = Array.replicate n false := by
  unfold lst
  apply Array.ext_getElem?
  intro i
  simp only [List.getElem?_toArray, List.getElem?_map, Array.getElem?_replicate]
  by_cases hi : i < n
  · simp [List.getElem?_range hi, hi]; rfl
  · have : (List.range n)[i]? = none := by simp; omega
    simp [this, hi]

/-- A region whose order is open, in the order of the text: 'rest' is left. -/
def WX (all : List Oper) (Q : Exit → Act → World → Prop) (N : Nat) (S : World → Prop) (L : Env) (rest : List Oper) (w : World) : Prop :=
  ∀ k, all.drop k = rest → k + rest.length = all.length → WD all Q N S rest.length (lst all.length k) L w

class POk (Q : Exit → Act → World → Prop) : Prop where
  ok : PanicOk Q

instance (P : Program) (fn : Func) (R : Ending → World → Prop) : POk (bodyPost P fn R) := ⟨fun _ _ d _ _ h => by cases d <;> exact h⟩
instance (K : Act → World → Prop) (Q : Exit → Act → World → Prop) [h : POk Q] : POk (Exit.then K Q) := ⟨fun c a d v w hh => h.ok c a d v w hh⟩
instance (i : Nat) (Q : Exit → Act → World → Prop) [h : POk Q] : POk (Exit.inBlock i Q) := ⟨fun c a d v w hh => h.ok c a d v w hh⟩

def pos (all rest : List Oper) : Nat := all.length - rest.length

def sideX (all rest : List Oper) : Bool := sideOk all (lst all.length (pos all rest)) (pos all rest)

section
variable {all : List Oper} {Q : Exit → Act → World → Prop} {N : Nat} {L L' : Env} {o : Oper} {rest : List Oper} {w : World} {S : World → Prop}

theorem drop_head {k : Nat} (h : all.drop k = o :: rest) : all[k]? = some o ∧ all.drop (k + 1) = rest := by
  constructor
  · have := congrArg (fun l => l[0]?) h
    simpa using this
  · have := congrArg (fun l => l.drop 1) h
    simpa using this

theorem WC.drx {id : Nat} {l : List Oper} (S : World → Prop) (k : WX l Q N S L l w.drew) : WC Q N L (.region id ⟨l⟩ true) w :=
  WC.draw S (by have := k 0 rfl (by simp); rwa [lst_zero] at this)

theorem WX.weaken (L' : Env) (ha : Agree L' L) (k : WX all Q N S L' rest w) : WX all Q N S L rest w := fun i h1 h2 a hf => k i h1 h2 a (hf.weaken ha)

theorem WX.of_yields [hQ : POk Q] {v : Value} (hs : sideX all (o :: rest) = true) (hy : ∀ a, Fr N L a → YieldsIf PP all.toArray S o v a) (hS : S w)
    (hd : dstE N o v L = some L') (k : WX all Q N S L' rest w) : WX all Q N S L (o :: rest) w := fun i h1 h2 => by
  obtain ⟨h3, h4⟩ := drop_head h1
  have hp : pos all (o :: rest) = i := by unfold pos; omega
  unfold sideX at hs
  rw [hp] at hs
  simp only [List.length_cons] at h2
  have := k (i + 1) h4 (by omega)
  rw [← lst_set (by omega)] at this
  exact WD.of_yields i h3 hs hQ.ok hy hS hd this

theorem WX.p [POk Q] (hs : sideX all (o :: rest) = true) (hS : S w) (h : stepP N all L o = some L') (k : WX all Q N S L' rest w) : WX all Q N S L (o :: rest) w := by
  unfold stepP at h
  split at h
  · rename_i hg
    split at h
    · rename_i v hv
      exact WX.of_yields hs (fun a hf => .inl ⟨grd_ok hf hg, fun w _ => pure1_run hf hv w⟩) hS h k
    · cases h
  · rename_i hg
    exact WX.of_yields hs (fun a hf => .inr ⟨grd_ok hf hg, rfl⟩) hS h k
  · cases h

/-- Whatever runs alike in every world that meets S. -/
theorem WX.r [POk Q] {v : Value} (hs : sideX all (o :: rest) = true) (hS : S w) (hg : grd all L o = some true)
    (hr : ∀ w', S w' → ∀ a, Fr N L a → (execOp a.eval o).run PP w' = .ok (.value v) w') (hd : dstE N o v L = some L') (k : WX all Q N S L' rest w) : WX all Q N S L (o :: rest) w :=
  WX.of_yields hs (fun a hf => .inl ⟨grd_ok hf hg, fun w' hw' => hr w' hw' a hf⟩) hS hd k

theorem WX.ld [POk Q] {ad : Addr} {v : Value} (hs : sideX all (o :: rest) = true) (hS : S w) (hg : grd all L o = some true) (h : ldA L o.op = some ad)
    (hc : ∀ w', S w' → w'.cell? ad = some v) (hd : dstE N o v L = some L') (k : WX all Q N S L' rest w) : WX all Q N S L (o :: rest) w :=
  WX.r hs hS hg (fun w' hw' _ hf => ldA_run hf h (hc w' hw')) hd k

theorem WX.lg [POk Q] {n b ofs : Nat} {cs : List Value} (hs : sideX all (o :: rest) = true) (hS : S w) (hg : grd all L o = some true) (h : lgA L o.op = some (n, ⟨b, ofs, none⟩)) (hn : cs.length = n)
    (hc : ∀ w', S w' → ∀ j v, cs[j]? = some v → w'.cell? ⟨b, ofs + j, none⟩ = some v) (hd : dstE N o (.agg cs.toArray) L = some L') (k : WX all Q N S L' rest w) : WX all Q N S L (o :: rest) w :=
  WX.r hs hS hg (fun w' hw' _ hf => lgA_run hf h hn (hc w' hw')) hd k

theorem WX.ix [POk Q] {n b ofs len : Nat} {j : Int} {i : Nat} (hs : sideX all (o :: rest) = true) (hS : S w) (hg : grd all L o = some true) (h : ixA L o.op = some (n, b, ofs, len, j)) (hj : j = (i : Int)) (hi : i < len)
    (hd : dstE N o (.pointer (some ⟨b, ofs + i * n, none⟩)) L = some L') (k : WX all Q N S L' rest w) : WX all Q N S L (o :: rest) w := by
  subst hj
  exact WX.r hs hS hg (fun w' _ a hf => by have := ixA_run hf h (by omega) (by omega) w'; simpa using this) hd k

theorem WX.a [POk Q] {bop x y} (hs : sideX all (o :: rest) = true) (hS : S w) (hg : grd all L o = some true) (h : arA L o.op = some (bop, .i64, x, y)) (hb : -9223372036854775808 ≤ arV bop x y ∧ arV bop x y ≤ 9223372036854775807)
    (hd : dstE N o (.int .i64 (arV bop x y)) L = some L') (k : WX all Q N S L' rest w) : WX all Q N S L (o :: rest) w :=
  WX.r hs hS hg (fun w' _ a hf => by rw [arA_run hf h w', wrap_i64 hb]) hd k
theorem WX.a32 [POk Q] {bop x y} (hs : sideX all (o :: rest) = true) (hS : S w) (hg : grd all L o = some true) (h : arA L o.op = some (bop, .i32, x, y)) (hb : -2147483648 ≤ arV bop x y ∧ arV bop x y ≤ 2147483647)
    (hd : dstE N o (.int .i32 (arV bop x y)) L = some L') (k : WX all Q N S L' rest w) : WX all Q N S L (o :: rest) w :=
  WX.r hs hS hg (fun w' _ a hf => by rw [arA_run hf h w', wrap_i32 hb]) hd k

theorem WX.ad [POk Q] {x y : Int} (hs : sideX all (o :: rest) = true) (hS : S w) (hg : grd all L o = some true) (h : arA L o.op = some (.add, .i64, x, y)) (hb : -9223372036854775808 ≤ x + y ∧ x + y ≤ 9223372036854775807)
    (hd : dstE N o (.int .i64 (x + y)) L = some L') (k : WX all Q N S L' rest w) : WX all Q N S L (o :: rest) w := WX.a hs hS hg h hb hd k
theorem WX.ad32 [POk Q] {x y : Int} (hs : sideX all (o :: rest) = true) (hS : S w) (hg : grd all L o = some true) (h : arA L o.op = some (.add, .i32, x, y)) (hb : -2147483648 ≤ x + y ∧ x + y ≤ 2147483647)
    (hd : dstE N o (.int .i32 (x + y)) L = some L') (k : WX all Q N S L' rest w) : WX all Q N S L (o :: rest) w := WX.a32 hs hS hg h hb hd k
theorem WX.su [POk Q] {x y : Int} (hs : sideX all (o :: rest) = true) (hS : S w) (hg : grd all L o = some true) (h : arA L o.op = some (.sub, .i64, x, y)) (hb : -9223372036854775808 ≤ x - y ∧ x - y ≤ 9223372036854775807)
    (hd : dstE N o (.int .i64 (x - y)) L = some L') (k : WX all Q N S L' rest w) : WX all Q N S L (o :: rest) w := WX.a hs hS hg h hb hd k
theorem WX.su32 [POk Q] {x y : Int} (hs : sideX all (o :: rest) = true) (hS : S w) (hg : grd all L o = some true) (h : arA L o.op = some (.sub, .i32, x, y)) (hb : -2147483648 ≤ x - y ∧ x - y ≤ 2147483647)
    (hd : dstE N o (.int .i32 (x - y)) L = some L') (k : WX all Q N S L' rest w) : WX all Q N S L (o :: rest) w := WX.a32 hs hS hg h hb hd k
theorem WX.mu [POk Q] {x y : Int} (hs : sideX all (o :: rest) = true) (hS : S w) (hg : grd all L o = some true) (h : arA L o.op = some (.mul, .i64, x, y)) (hb : -9223372036854775808 ≤ x * y ∧ x * y ≤ 9223372036854775807)
    (hd : dstE N o (.int .i64 (x * y)) L = some L') (k : WX all Q N S L' rest w) : WX all Q N S L (o :: rest) w := WX.a hs hS hg h hb hd k
theorem WX.mu32 [POk Q] {x y : Int} (hs : sideX all (o :: rest) = true) (hS : S w) (hg : grd all L o = some true) (h : arA L o.op = some (.mul, .i32, x, y)) (hb : -2147483648 ≤ x * y ∧ x * y ≤ 2147483647)
    (hd : dstE N o (.int .i32 (x * y)) L = some L') (k : WX all Q N S L' rest w) : WX all Q N S L (o :: rest) w := WX.a32 hs hS hg h hb hd k
theorem WX.cv [POk Q] {kd : IntKind} {n : Int} (hs : sideX all (o :: rest) = true) (hS : S w) (hg : grd all L o = some true) (h : cvA L o.op = some (kd, n)) (hw : kd.wrap n = n)
    (hd : dstE N o (.int kd n) L = some L') (k : WX all Q N S L' rest w) : WX all Q N S L (o :: rest) w :=
  WX.r hs hS hg (fun w' _ a hf => by rw [cvA_run hf h w', hw]) hd k

theorem WX.sS [POk Q] {bd ofs c len : Nat} {ad : Option Addr} {lo hi : Option Int} {L' : Option Addr → Env} (n' l : Nat) (hsd : sideX all (o :: rest) = true) (hS : S w) (hg : grd all L o = some true)
    (h : slA L o.op = some (1, ad, len, c, lo, hi)) (hs : Sf bd ofs c ad) (hlo : lo.getD 0 = (l : Int)) (hhi : hi.getD len = ((l + n' : Nat) : Int)) (hc : l + n' ≤ c)
    (hd : ∀ ad', dstE N o (.slice ad' n' (c - l)) L = some (L' ad')) (k : ∀ ad', Sf bd (ofs + l) (c - l) ad' → WX all Q N S (L' ad') rest w) : WX all Q N S L (o :: rest) w := by
  refine WX.r hsd hS hg (fun w' _ a hf => ?_) (hd _) (k _ (hs.sl l))
  have := slA_run hf h hlo hhi (by omega) hc w'
  rw [this]
  congr 3
  omega

theorem boA_run {N : Nat} {L : Env} {a : Act} {bop : BinOp} {t : Nat} {x y : Value} (hf : Fr N L a) (h : boA L o.op = some (bop, t, x, y)) {v : Value} {w : World} (hr : (binOp bop t x y).run PP w = .ok v w) :
    (execOp a.eval o).run PP w = .ok (.value v) w := by
  obtain ⟨dst, op, ty, pos, after, guard⟩ := o
  simp only at h
  unfold boA at h
  split at h
  · rename_i b2 t' ox oy t2
    split at h
    · rename_i k1 a1 k2 b1 hx hy
      simp only [Option.some.injEq, Prod.mk.injEq] at h
      obtain ⟨rfl, rfl, rfl, rfl⟩ := h
      simp only [execOp, hf.eval hx, hf.eval hy, Sem.run_bind, eqGuard_int, Result.andThen_ok, hr, Sem.run_pure]
    · rename_i a1 b1 hx hy
      simp only [Option.some.injEq, Prod.mk.injEq] at h
      obtain ⟨rfl, rfl, rfl, rfl⟩ := h
      simp only [execOp, hf.eval hx, hf.eval hy, Sem.run_bind, eqGuard_str, Result.andThen_ok, hr, Sem.run_pure]
    · cases h
  · cases h

theorem WX.bo [POk Q] {bop : BinOp} {t : Nat} {x y v : Value} (hs : sideX all (o :: rest) = true) (hS : S w) (hg : grd all L o = some true) (h : boA L o.op = some (bop, t, x, y)) (hr : ∀ w, (binOp bop t x y).run PP w = .ok v w)
    (hd : dstE N o v L = some L') (k : WX all Q N S L' rest w) : WX all Q N S L (o :: rest) w :=
  WX.r hs hS hg (fun w' _ a hf => boA_run hf h (hr w')) hd k

theorem WX.bd [POk Q] {t : Nat} {vs : List (Nat × Value)} {v : Value} (hs : sideX all (o :: rest) = true) (hS : S w) (hg : grd all L o = some true) (h : bdA L o.op = some (t, vs)) (hr : ∀ w, (Instr.build t ⟨vs⟩).run PP w = .ok v w)
    (hd : dstE N o v L = some L') (k : WX all Q N S L' rest w) : WX all Q N S L (o :: rest) w :=
  WX.r hs hS hg (fun w' _ a hf => by rw [bdA_run hf h]; simp [hr]) hd k

theorem WX.gs {d : Nat} {b : Bool} (_hs : gslot all o = some d) (hl : look L d = some (.bool b))
    (kt : b = true → WX all Q N S ((d, .bool true) :: L) (o :: rest) w) (kf : b = false → WX all Q N S ((d, .bool false) :: L) (o :: rest) w) : WX all Q N S L (o :: rest) w := by
  cases b with
  | true => exact fun i h1 h2 a hf => kt rfl i h1 h2 a (hf.known hl)
  | false => exact fun i h1 h2 a hf => kf rfl i h1 h2 a (hf.known hl)
theorem WX.gD {d : Nat} {p : Prop} [Decidable p] (hs : gslot all o = some d) (hl : look L d = some (.bool (dc p)))
    (kt : p → WX all Q N S ((d, .bool true) :: L) (o :: rest) w) (kf : ¬ p → WX all Q N S ((d, .bool false) :: L) (o :: rest) w) : WX all Q N S L (o :: rest) w :=
  WX.gs hs hl (fun h => kt (dc_true h)) (fun h => kf (dc_false h))
theorem WX.gT {d : Nat} {p : Prop} [Decidable p] (hs : gslot all o = some d) (hl : look L d = some (.bool (dc p))) (hp : p)
    (kt : WX all Q N S ((d, .bool true) :: L) (o :: rest) w) : WX all Q N S L (o :: rest) w := WX.gD hs hl (fun _ => kt) (fun h => absurd hp h)
theorem WX.gF {d : Nat} {p : Prop} [Decidable p] (hs : gslot all o = some d) (hl : look L d = some (.bool (dc p))) (hp : ¬ p)
    (kf : WX all Q N S ((d, .bool false) :: L) (o :: rest) w) : WX all Q N S L (o :: rest) w := WX.gD hs hl (fun h => absurd h hp) (fun _ => kf)

theorem WX.nil (k : X .normal Q N L w) : WX all Q N S L [] w := fun i h1 h2 a hf => by
  simp only [List.length_nil, Nat.add_zero] at h2
  subst h2
  refine WD.nil (listed := lst all.length all.length) ?_ k a hf
  unfold Region.ready
  rw [List.filter_eq_nil_iff]
  intro j hj
  have hj' : j < all.length := by simpa using hj
  have hb : Nat.blt j all.length = true := by rw [Nat.blt_eq]; exact hj'
  have : (lst all.length all.length)[j]? = some true := by
    unfold lst
    rw [List.getElem?_toArray, List.getElem?_map, List.getElem?_range hj']
    simp [hb]
  simp [Array.getD_eq_getD_getElem?, this]

/-! The operations that write or make memory, one at a time -/
def oneX (all rest : List Oper) : Bool := (Region.ready .any all.toArray (lst all.length (pos all rest))) == [pos all rest]

theorem WX.one {hs : oneX all (o :: rest) = true} (hg : grd all L o = some true)
    (k : ∀ a, Fr N L a → o.wp PP a w (fun a' w' => S w' ∧ (∃ L', Fr N L' a' ∧ WX all Q N S L' rest w')) Q) : WX all Q N S L (o :: rest) w := fun i h1 h2 => by
  obtain ⟨h3, h4⟩ := drop_head h1
  have hp : pos all (o :: rest) = i := by unfold pos; omega
  unfold oneX at hs
  rw [hp] at hs
  have hs' := beq_iff_eq.1 hs
  simp only [List.length_cons] at h2
  refine WD.one hs' h3 hg fun a hf => Oper.wp_mono (fun a' w' hk => ?_) (k a hf)
  obtain ⟨hS, L', hf', hk⟩ := hk
  refine ⟨hS, ?_⟩
  rw [lst_set (by omega)]
  exact hk (i + 1) h4 (by omega) a' hf'

/-- An operation of memory, by its run. -/
theorem WX.rv {v : Value} {w' : World} (hs : oneX all (o :: rest) = true) (hg : grd all L o = some true)
    (hrun : ∀ a, Fr N L a → (execOp a.eval o).run PP w = .ok (.value v) w') (hS : S w') (hd : dstE N o v L = some L') (k : WX all Q N S L' rest w') : WX all Q N S L (o :: rest) w :=
  WX.one (hs := hs) hg fun a hf => by
    unfold Oper.wp
    rw [hrun a hf]
    exact ⟨hS, L', dstE_ok hf hd, k⟩

theorem WX.rk {w' : World} (hs : oneX all (o :: rest) = true) (hg : grd all L o = some true)
    (hrun : ∀ a, Fr N L a → (execOp a.eval o).run PP w = .ok .skip w') (hS : S w') (hd : dstE N o undef L = some L') (k : WX all Q N S L' rest w') : WX all Q N S L (o :: rest) w :=
  WX.one (hs := hs) hg fun a hf => by
    unfold Oper.wp
    rw [hrun a hf]
    exact ⟨hS, L', dstE_ok hf hd, k⟩

theorem WX.call {f : Nat} {vs : List Value} {R : Ending → World → Prop} (hs : oneX all (o :: rest) = true) (hg : grd all L o = some true)
    (hc : callA L o.op = some (f, vs)) (hf3 : (Nat.ble 3 f && Nat.blt f 150) = true) (h : Calls PP f vs.toArray w R)
    (k : ∀ e w', R e w' → ∃ v L', e = .returned v ∧ dstE N o v L = some L' ∧ S w' ∧ WX all Q N S L' rest w') : WX all Q N S L (o :: rest) w :=
  WX.one (hs := hs) hg fun a hf => by
    unfold Oper.wp
    rw [callA_run hf hc (callOk_at hf3) w]
    refine h.mono fun e w' hR => ?_
    obtain ⟨v, L', rfl, hd, hS, hk⟩ := k e w' hR
    exact ⟨hS, L', dstE_ok hf hd, hk⟩

theorem WX.stB {b i : Nat} {v u : Value} {c : Array Value} {t : TypeId} (hs : oneX all (o :: rest) = true) (hg : grd all L o = some true) (h : stA L o.op = some (⟨b, i, none⟩, v)) (hv : oneV v = true)
    (hb : w.heap[b]? = some (.cells c t (0, 0))) (hi : c[i]? = some u) (hd : dstE N o undef L = some L')
    (k : ∀ w', St w b (.cells (c.setIfInBounds i v) t (0, 0)) w' → S w' ∧ WX all Q N S L' rest w') : WX all Q N S L (o :: rest) w :=
  WX.rk hs hg (fun a hf => stA_run hf h hv hb hi) (k _ (setCell_st v hb)).1 hd (k _ (setCell_st v hb)).2

theorem WX.sg {n b ofs : Nat} {cs c : List Value} {t : TypeId} (hs : oneX all (o :: rest) = true) (hg : grd all L o = some true) (h : sgA L o.op = some (n, ⟨b, ofs, none⟩, cs)) (hn : cs.length = n)
    (hv : ∀ v ∈ cs, oneV v = true) (hb : w.heap[b]? = some (.cells ⟨c⟩ t (0, 0))) (hl : ofs + n ≤ c.length) (hd : dstE N o undef L = some L')
    (k : ∀ w', St w b (.cells ⟨c.take ofs ++ cs ++ c.drop (ofs + n)⟩ t (0, 0)) w' → S w' ∧ WX all Q N S L' rest w') : WX all Q N S L (o :: rest) w := by
  obtain ⟨w', hr, hst⟩ := sgA_run (N := N) h hn hv hb hl
  exact WX.rk hs hg hr (k w' hst).1 hd (k w' hst).2

theorem alA_run {N : Nat} {L : Env} {a : Act} {t : Nat} {l : List Value} (_hf : Fr N L a) (h : alA o.op = some (t, l)) (w : World) :
    (execOp a.eval o).run PP w = .ok (.value (.pointer (some ⟨w.heap.size, 0, none⟩))) (w.alloc (.cells l.toArray t (0, 0))) := by
  obtain ⟨dst, op, ty, pos, after, guard⟩ := o
  simp only at h
  unfold alA at h
  split at h
  · rename_i t'
    split at h
    · rename_i l' hl
      simp only [Option.some.injEq, Prod.mk.injEq] at h
      obtain ⟨rfl, rfl⟩ := h
      obtain ⟨z, hz, hc⟩ := zero_run hl w
      simp [execOp, Instr.alloc, hz, newVar, newRow, hc]
    · cases h
  · cases h

theorem WX.al {t : Nat} {l : List Value} (hs : oneX all (o :: rest) = true) (hg : grd all L o = some true) (h : alA o.op = some (t, l)) (hd : dstE N o (.pointer (some ⟨w.heap.size, 0, none⟩)) L = some L')
    (k : ∀ w', Al w (.cells l.toArray t (0, 0)) w' → S w' ∧ WX all Q N S L' rest w') : WX all Q N S L (o :: rest) w :=
  WX.rv hs hg (fun _ hf => alA_run hf h w) (k _ (alloc_al w _)).1 hd (k _ (alloc_al w _)).2

theorem WX.bs {t n e : Nat} {vs : List (Nat × Value)} {c : Array Value} (hs : oneX all (o :: rest) = true) (hg : grd all L o = some true) (h : bsA L o.op = some (t, n, vs))
    (hr : ∀ w, (Instr.buildSlice t n ⟨vs⟩).run PP w = .ok (.slice (some ⟨w.heap.size, 0, none⟩) n n) (w.alloc (.cells c e (0, 0))))
    (hd : dstE N o (.slice (some ⟨w.heap.size, 0, none⟩) n n) L = some L') (k : ∀ w', Al w (.cells c e (0, 0)) w' → S w' ∧ WX all Q N S L' rest w') : WX all Q N S L (o :: rest) w :=
  WX.rv hs hg (fun a hf => by rw [bsA_run hf h]; simp [hr]) (k _ (alloc_al w _)).1 hd (k _ (alloc_al w _)).2

end

/-! ### Words of 64 bits -/
abbrev UW (n : Nat) : Value := .int .u64 (n : Int)

theorem ofInt_nat (n : Nat) : BitVec.ofInt 64 (n : Int) = BitVec.ofNat 64 n := by simp

theorem u64_back {n : Nat} (h : n < 2 ^ 64) : IntKind.u64.wrap (n : Int) = n := wrap_u64 ⟨by omega, by omega⟩

theorem and64 {a b : Nat} (ha : a < 2 ^ 64) (hb : b < 2 ^ 64) (t : Nat) (w : World) : (binOp .and t (UW a) (UW b)).run PP w = .ok (UW (a &&& b)) w := by
  have h : (BitVec.ofInt 64 (a : Int) &&& BitVec.ofInt 64 (b : Int)).toNat = a &&& b := by
    rw [ofInt_nat, ofInt_nat, BitVec.toNat_and, BitVec.toNat_ofNat, BitVec.toNat_ofNat, Nat.mod_eq_of_lt ha, Nat.mod_eq_of_lt hb]
  have hl : a &&& b < 2 ^ 64 := Nat.and_lt_two_pow a hb
  show (Op.intBits .and .u64 (a : Int) (b : Int)).run PP w = _
  unfold Op.intBits
  simp only [Sem.run_pure]
  rw [show (BitVec.ofInt IntKind.u64.bits (a : Int) &&& BitVec.ofInt IntKind.u64.bits (b : Int)).toNat = a &&& b from h, u64_back hl]
theorem or64 {a b : Nat} (ha : a < 2 ^ 64) (hb : b < 2 ^ 64) (t : Nat) (w : World) : (binOp .or t (UW a) (UW b)).run PP w = .ok (UW (a ||| b)) w := by
  have h : (BitVec.ofInt 64 (a : Int) ||| BitVec.ofInt 64 (b : Int)).toNat = a ||| b := by
    rw [ofInt_nat, ofInt_nat, BitVec.toNat_or, BitVec.toNat_ofNat, BitVec.toNat_ofNat, Nat.mod_eq_of_lt ha, Nat.mod_eq_of_lt hb]
  have hl : a ||| b < 2 ^ 64 := Nat.or_lt_two_pow ha hb
  show (Op.intBits .or .u64 (a : Int) (b : Int)).run PP w = _
  unfold Op.intBits
  simp only [Sem.run_pure]
  rw [show (BitVec.ofInt IntKind.u64.bits (a : Int) ||| BitVec.ofInt IntKind.u64.bits (b : Int)).toNat = a ||| b from h, u64_back hl]
theorem xor64 {a b : Nat} (ha : a < 2 ^ 64) (hb : b < 2 ^ 64) (t : Nat) (w : World) : (binOp .xor t (UW a) (UW b)).run PP w = .ok (UW (a ^^^ b)) w := by
  have h : (BitVec.ofInt 64 (a : Int) ^^^ BitVec.ofInt 64 (b : Int)).toNat = a ^^^ b := by
    rw [ofInt_nat, ofInt_nat, BitVec.toNat_xor, BitVec.toNat_ofNat, BitVec.toNat_ofNat, Nat.mod_eq_of_lt ha, Nat.mod_eq_of_lt hb]
  have hl : a ^^^ b < 2 ^ 64 := Nat.xor_lt_two_pow ha hb
  show (Op.intBits .xor .u64 (a : Int) (b : Int)).run PP w = _
  unfold Op.intBits
  simp only [Sem.run_pure]
  rw [show (BitVec.ofInt IntKind.u64.bits (a : Int) ^^^ BitVec.ofInt IntKind.u64.bits (b : Int)).toNat = a ^^^ b from h, u64_back hl]

theorem and8 {a b : Nat} (ha : a < 256) (hb : b < 256) (t : Nat) (w : World) : (binOp .and t (.int .u8 (a : Int)) (.int .u8 (b : Int))).run PP w = .ok (.int .u8 ((a &&& b : Nat) : Int)) w := by
  have h : (BitVec.ofInt 8 (a : Int) &&& BitVec.ofInt 8 (b : Int)).toNat = a &&& b := by
    rw [show BitVec.ofInt 8 (a : Int) = BitVec.ofNat 8 a by simp, show BitVec.ofInt 8 (b : Int) = BitVec.ofNat 8 b by simp, BitVec.toNat_and, BitVec.toNat_ofNat, BitVec.toNat_ofNat, Nat.mod_eq_of_lt ha, Nat.mod_eq_of_lt hb]
  have hl : a &&& b < 2 ^ 8 := Nat.and_lt_two_pow a hb
  show (Op.intBits .and .u8 (a : Int) (b : Int)).run PP w = _
  unfold Op.intBits
  simp only [Sem.run_pure]
  rw [show (BitVec.ofInt IntKind.u8.bits (a : Int) &&& BitVec.ofInt IntKind.u8.bits (b : Int)).toNat = a &&& b from h, wrap_u8 (by omega)]

set_option maxRecDepth 20000 in
theorem and192 {n : Nat} (h : 128 ≤ n) (h2 : n < 192) : n &&& 192 = 128 := by
  have key : ∀ m : Fin 256, 128 ≤ m.val → m.val < 192 → m.val &&& 192 = 128 := by decide
  exact key ⟨n, by omega⟩ h h2

theorem and_cont {n : Nat} (h : 128 ≤ n) (h2 : n < 192) (t : Nat) (w : World) : (binOp .and t (.int .u8 (n : Int)) (.int .u8 192)).run PP w = .ok (.int .u8 128) w := by
  have := and8 (a := n) (b := 192) (by omega) (by omega) t w
  rw [and192 h h2] at this
  exact this

theorem sub64 {a b : Nat} (ha : a < 2 ^ 64) (hb : b < 2 ^ 64) (t : Nat) (w : World) : (binOp .sub t (UW a) (UW b)).run PP w = .ok (UW ((a + 2 ^ 64 - b) % 2 ^ 64)) w := by
  show (Op.intArith .sub .u64 (a : Int) (b : Int)).run PP w = _
  simp only [Op.intArith, Sem.run_pure]
  have e : IntKind.u64.wrap ((a : Int) - b) = ((a : Int) - b) % 18446744073709551616 := by simp [IntKind.wrap, IntKind.bits, IntKind.signed]
  rw [e]
  congr 2
  simp only [Nat.reducePow] at *
  omega
theorem mul64 {a b : Nat} (h : a * b < 2 ^ 64) (t : Nat) (w : World) : (binOp .mul t (UW a) (UW b)).run PP w = .ok (UW (a * b)) w := by
  show (Op.intArith .mul .u64 (a : Int) (b : Int)).run PP w = _
  simp only [Op.intArith, Sem.run_pure]
  rw [← Int.natCast_mul, u64_back h]
theorem shl64 {a n : Nat} (h : a * 2 ^ n < 2 ^ 64) (hn : n < 64) (t : Nat) (w : World) : (binOp .shl t (UW a) (.int .u64 (n : Int))).run PP w = .ok (UW (a * 2 ^ n)) w := by
  show (Op.shift .shl .u64 (a : Int) .u64 (n : Int)).run PP w = _
  unfold Op.shift
  rw [if_neg (by omega)]
  have hm : min (n : Int).toNat IntKind.u64.bits = n := by simp [IntKind.bits]; omega
  simp only [hm, Sem.run_pure]
  have : (a : Int) * 2 ^ n = ((a * 2 ^ n : Nat) : Int) := by simp
  rw [this, u64_back h]

section
variable {all : List Oper} {Q : Exit → Act → World → Prop} {N : Nat} {L L' : Env} {o : Oper} {rest : List Oper} {w : World}

def notA (L : Env) (op : Op) : Option Int :=
  match op with
  | .unOp .xor t x => cond (Nat.beq t 135) (match ev L x with
    | some (.int .u64 n) => some n
    | _ => none) none
  | _ => none

/-- '^x' of 64 bits. -/
theorem WL.not64 {n : Nat} (hn : n < 2 ^ 64) (hg : grd all L o = some true) (h : notA L o.op = some (n : Int)) (hd : dstE N o (UW (2 ^ 64 - 1 - n)) L = some L')
    (k : WL all Q N L' rest w) : WL all Q N L (o :: rest) w := by
  refine WL.of_run hg (fun a hf => ?_) hd k
  obtain ⟨dst, op, ty, pos, after, guard⟩ := o
  simp only at h
  unfold notA at h
  split at h
  · rename_i t x
    cases ht : Nat.beq t 135 with
    | false => simp [ht] at h
    | true =>
      simp only [ht, cond_true] at h
      split at h
      · rename_i m hx
        simp only [Option.some.injEq] at h
        subst h
        have h1 : (BitVec.ofInt 64 (18446744073709551615 : Int) ^^^ BitVec.ofInt 64 (n : Int)).toNat = 2 ^ 64 - 1 - n := by
          have e : BitVec.ofInt 64 (18446744073709551615 : Int) = BitVec.allOnes 64 := by decide
          rw [e, BitVec.allOnes_xor, ofInt_nat, BitVec.toNat_not, BitVec.toNat_ofNat, Nat.mod_eq_of_lt hn]
        have h2 : (Op.unary .xor (.int .u64 (n : Int))).run PP w = .ok (UW (2 ^ 64 - 1 - n)) w := by
          show (Op.intBits .xor .u64 (18446744073709551615 : Int) (n : Int)).run PP w = _
          unfold Op.intBits
          simp only [Sem.run_pure]
          rw [show (BitVec.ofInt IntKind.u64.bits (18446744073709551615 : Int) ^^^ BitVec.ofInt IntKind.u64.bits (n : Int)).toNat = 2 ^ 64 - 1 - n from h1, u64_back (by omega)]
        simp only [execOp, hf.eval hx, Sem.run_bind, h2, Result.andThen_ok, Sem.run_pure]
      · cases h
  · cases h
end
attribute [irreducible] WX
end Go.Proofs.YtaccphdkapmdhaaGreat

namespace Go.Proofs.YtaccphdkapmdhaaGreat

def n8 (a b c d e f g h : Nat) : Nat := a + 256 * b + 65536 * c + 16777216 * d + 4294967296 * e + 1099511627776 * f + 281474976710656 * g + 72057594037927936 * h

theorem bit_of {n m : Nat} {k : Nat} (h : n &&& m = 0) (hm : m.testBit k = true) : n / 2 ^ k % 2 = 0 := by
  have := Nat.testBit_and n m k
  rw [h, hm, Nat.zero_testBit, Bool.and_true] at this
  have h2 := Nat.testBit_eq_decide_div_mod_eq (x := n) (i := k)
  rw [← this] at h2
  have h3 := of_decide_eq_false h2.symm
  omega

def MSB : Nat := 9259542123273814144

theorem msb_bits : MSB.testBit 7 = true ∧ MSB.testBit 15 = true ∧ MSB.testBit 23 = true ∧ MSB.testBit 31 = true ∧ MSB.testBit 39 = true ∧ MSB.testBit 47 = true ∧ MSB.testBit 55 = true ∧ MSB.testBit 63 = true := by decide

/-- No highest bit: all bytes below 128. -/
theorem low_of {a b c d e f g h : Nat} (ha : a < 256) (hb : b < 256) (hc : c < 256) (hd : d < 256) (he : e < 256) (hf : f < 256) (hg : g < 256) (hh : h < 256)
    (hz : n8 a b c d e f g h &&& MSB = 0) : a < 128 ∧ b < 128 ∧ c < 128 ∧ d < 128 ∧ e < 128 ∧ f < 128 ∧ g < 128 ∧ h < 128 := by
  obtain ⟨m0, m1, m2, m3, m4, m5, m6, m7⟩ := msb_bits
  have h0 := bit_of hz m0
  have h1 := bit_of hz m1
  have h2 := bit_of hz m2
  have h3 := bit_of hz m3
  have h4 := bit_of hz m4
  have h5 := bit_of hz m5
  have h6 := bit_of hz m6
  have h7 := bit_of hz m7
  simp only [n8, Nat.reducePow] at h0 h1 h2 h3 h4 h5 h6 h7
  refine ⟨by omega, by omega, by omega, by omega, by omega, by omega, by omega, by omega⟩

/-- One place of the test 'below': x the word, d the difference. -/
theorem below_bit {x dif k : Nat} (hx : x < 2 ^ 64) (hz : (dif &&& (2 ^ 64 - 1 - x)) &&& MSB = 0) (hm : MSB.testBit k = true) (hxk : x / 2 ^ k % 2 = 0) (hk : k < 64) : dif / 2 ^ k % 2 = 0 := by
  rw [Nat.and_assoc, Nat.and_comm _ MSB, ← Nat.and_assoc] at hz
  have h1 : (2 ^ 64 - 1 - x).testBit k = true := by
    have : 2 ^ 64 - 1 - x = 2 ^ 64 - (x + 1) := by omega
    rw [this, Nat.testBit_two_pow_sub_succ hx]
    have h2 := Nat.testBit_eq_decide_div_mod_eq (x := x) (i := k)
    have h3 : x.testBit k = false := by rw [h2]; simp [hxk]
    simp [hk, h3]
  have h4 := bit_of hz h1
  have h5 := Nat.testBit_eq_decide_div_mod_eq (x := dif &&& MSB) (i := k)
  have h6 : (dif &&& MSB).testBit k = false := by rw [h5]; simp [h4]
  rw [Nat.testBit_and, hm, Bool.and_true] at h6
  have h7 := Nat.testBit_eq_decide_div_mod_eq (x := dif) (i := k)
  rw [h6] at h7
  have := of_decide_eq_false h7.symm
  omega

theorem n8_nest (a b c d e f g h : Nat) : n8 a b c d e f g h = a + 256 * (b + 256 * (c + 256 * (d + 256 * (e + 256 * (f + 256 * (g + 256 * h)))))) := by
  unfold n8; omega

theorem below_step {a n N M P : Nat} (ha : a < 128) (hn : n ≤ 128) (hb : ((a + 256 * N + 256 * P - (n + 256 * M)) % (256 * P)) / 2 ^ 7 % 2 = 0) (hM : M < N + P) (hP : 0 < P) :
    n ≤ a ∧ ((a + 256 * N + 256 * P - (n + 256 * M)) % (256 * P)) / 256 = (N + P - M) % P := by
  rw [Nat.mod_mul] at hb ⊢
  simp only [Nat.reducePow] at hb
  generalize hx : a + 256 * N + 256 * P - (n + 256 * M) = x at hb ⊢
  have h1 : n ≤ a := by omega
  refine ⟨h1, ?_⟩
  have h2 : x / 256 = N + P - M := by omega
  rw [h2]
  omega

/-- The test 'some byte is below n', n at most 128, of bytes below 128: where it says no, none is. -/
theorem none_below {n a b c d e f g h : Nat} (hn : n ≤ 128) (ha : a < 128) (hb : b < 128) (hc : c < 128) (hd : d < 128) (he : e < 128) (hf : f < 128) (hg : g < 128) (hh : h < 128)
    (hz : (((n8 a b c d e f g h + 2 ^ 64 - n8 n n n n n n n n) % 2 ^ 64) &&& (2 ^ 64 - 1 - n8 a b c d e f g h)) &&& MSB = 0) :
    n ≤ a ∧ n ≤ b ∧ n ≤ c ∧ n ≤ d ∧ n ≤ e ∧ n ≤ f ∧ n ≤ g ∧ n ≤ h := by
  have hx : n8 a b c d e f g h < 2 ^ 64 := by simp only [n8, Nat.reducePow]; omega
  obtain ⟨m0, m1, m2, m3, m4, m5, m6, m7⟩ := msb_bits
  have k0 := below_bit hx hz m0 (by simp only [n8, Nat.reducePow]; omega) (by omega)
  have k1 := below_bit hx hz m1 (by simp only [n8, Nat.reducePow]; omega) (by omega)
  have k2 := below_bit hx hz m2 (by simp only [n8, Nat.reducePow]; omega) (by omega)
  have k3 := below_bit hx hz m3 (by simp only [n8, Nat.reducePow]; omega) (by omega)
  have k4 := below_bit hx hz m4 (by simp only [n8, Nat.reducePow]; omega) (by omega)
  have k5 := below_bit hx hz m5 (by simp only [n8, Nat.reducePow]; omega) (by omega)
  have k6 := below_bit hx hz m6 (by simp only [n8, Nat.reducePow]; omega) (by omega)
  have k7 := below_bit hx hz m7 (by simp only [n8, Nat.reducePow]; omega) (by omega)
  clear hz hx
  rw [n8_nest, n8_nest n] at k0 k1 k2 k3 k4 k5 k6 k7
  have split64 : (2 : Nat) ^ 64 = 256 * 2 ^ 56 := by decide
  rw [split64] at k0 k1 k2 k3 k4 k5 k6 k7
  obtain ⟨r0, e0⟩ := below_step (P := 2 ^ 56) ha hn k0 (by simp only [Nat.reducePow]; omega) (by decide)
  have lift : ∀ {D D' k : Nat}, D / 256 = D' → D / 2 ^ (k + 8) % 2 = 0 → D' / 2 ^ k % 2 = 0 := by
    intro D D' k h h'
    rw [← h, Nat.div_div_eq_div_mul, show 256 * 2 ^ k = 2 ^ (k + 8) by rw [Nat.pow_add, Nat.mul_comm]]; exact h'
  have k1 := lift e0 (k := 7) k1
  have k2 := lift e0 (k := 15) k2
  have k3 := lift e0 (k := 23) k3
  have k4 := lift e0 (k := 31) k4
  have k5 := lift e0 (k := 39) k5
  have k6 := lift e0 (k := 47) k6
  have k7 := lift e0 (k := 55) k7
  have s1 : (2 : Nat) ^ 56 = 256 * 2 ^ 48 := by decide
  rw [s1] at k1 k2 k3 k4 k5 k6 k7
  obtain ⟨r1, e1⟩ := below_step (P := 2 ^ 48) hb hn k1 (by simp only [Nat.reducePow]; omega) (by decide)
  have k2 := lift e1 (k := 7) k2
  have k3 := lift e1 (k := 15) k3
  have k4 := lift e1 (k := 23) k4
  have k5 := lift e1 (k := 31) k5
  have k6 := lift e1 (k := 39) k6
  have k7 := lift e1 (k := 47) k7
  have s2 : (2 : Nat) ^ 48 = 256 * 2 ^ 40 := by decide
  rw [s2] at k2 k3 k4 k5 k6 k7
  obtain ⟨r2, e2⟩ := below_step (P := 2 ^ 40) hc hn k2 (by simp only [Nat.reducePow]; omega) (by decide)
  have k3 := lift e2 (k := 7) k3
  have k4 := lift e2 (k := 15) k4
  have k5 := lift e2 (k := 23) k5
  have k6 := lift e2 (k := 31) k6
  have k7 := lift e2 (k := 39) k7
  have s3 : (2 : Nat) ^ 40 = 256 * 2 ^ 32 := by decide
  rw [s3] at k3 k4 k5 k6 k7
  obtain ⟨r3, e3⟩ := below_step (P := 2 ^ 32) hd hn k3 (by simp only [Nat.reducePow]; omega) (by decide)
  have k4 := lift e3 (k := 7) k4
  have k5 := lift e3 (k := 15) k5
  have k6 := lift e3 (k := 23) k6
  have k7 := lift e3 (k := 31) k7
  have s4 : (2 : Nat) ^ 32 = 256 * 2 ^ 24 := by decide
  rw [s4] at k4 k5 k6 k7
  obtain ⟨r4, e4⟩ := below_step (P := 2 ^ 24) he hn k4 (by simp only [Nat.reducePow]; omega) (by decide)
  have k5 := lift e4 (k := 7) k5
  have k6 := lift e4 (k := 15) k6
  have k7 := lift e4 (k := 23) k7
  have s5 : (2 : Nat) ^ 24 = 256 * 2 ^ 16 := by decide
  rw [s5] at k5 k6 k7
  obtain ⟨r5, e5⟩ := below_step (P := 2 ^ 16) hf hn k5 (by simp only [Nat.reducePow]; omega) (by decide)
  have k6 := lift e5 (k := 7) k6
  have k7 := lift e5 (k := 15) k7
  have s6 : (2 : Nat) ^ 16 = 256 * 2 ^ 8 := by decide
  rw [s6] at k6 k7
  obtain ⟨r6, e6⟩ := below_step (P := 2 ^ 8) hg hn k6 (by simp only [Nat.reducePow]; omega) (by decide)
  have k7 := lift e6 (k := 7) k7
  clear e0 e1 e2 e3 e4 e5 e6 k0 k1 k2 k3 k4 k5 k6
  simp only [Nat.reducePow] at k7
  have r7 : n ≤ h := by omega
  exact ⟨r0, r1, r2, r3, r4, r5, r6, r7⟩

theorem xor_step (a b m n : Nat) (ha : a < 256) (hm : m < 256) : (a + 256 * b) ^^^ (m + 256 * n) = (a ^^^ m) + 256 * (b ^^^ n) := by
  have hlt : a ^^^ m < 256 := Nat.xor_lt_two_pow (n := 8) ha hm
  have e1 : a + 256 * b = 2 ^ 8 * b + a := by omega
  have e2 : m + 256 * n = 2 ^ 8 * n + m := by omega
  have e3 : (a ^^^ m) + 256 * (b ^^^ n) = 2 ^ 8 * (b ^^^ n) + (a ^^^ m) := by omega
  rw [e1, e2, e3]
  apply Nat.eq_of_testBit_eq
  intro i
  rw [Nat.testBit_xor, Nat.testBit_two_pow_mul_add _ (by omega), Nat.testBit_two_pow_mul_add _ (by omega), Nat.testBit_two_pow_mul_add _ (by omega)]
  split <;> simp [Nat.testBit_xor]

theorem n8_xor (a b c d e f g h m : Nat) (ha : a < 256) (hb : b < 256) (hc : c < 256) (hd : d < 256) (he : e < 256) (hf : f < 256) (hg : g < 256) (hm : m < 256) :
    n8 a b c d e f g h ^^^ n8 m m m m m m m m = n8 (a ^^^ m) (b ^^^ m) (c ^^^ m) (d ^^^ m) (e ^^^ m) (f ^^^ m) (g ^^^ m) (h ^^^ m) := by
  simp only [n8_nest]
  rw [xor_step _ _ _ _ ha hm, xor_step _ _ _ _ hb hm, xor_step _ _ _ _ hc hm, xor_step _ _ _ _ hd hm, xor_step _ _ _ _ he hm, xor_step _ _ _ _ hf hm, xor_step _ _ _ _ hg hm]

theorem ne_of_xor {a m : Nat} (h : 1 ≤ a ^^^ m) : a ≠ m := by
  rintro rfl
  simp at h

/-- The test 'some byte is m': where it says no, none is. -/
theorem none_equal {m a b c d e f g h : Nat} (hm : m < 128) (ha : a < 128) (hb : b < 128) (hc : c < 128) (hd : d < 128) (he : e < 128) (hf : f < 128) (hg : g < 128) (hh : h < 128)
    (hz : ((((n8 a b c d e f g h ^^^ n8 m m m m m m m m) + 2 ^ 64 - n8 1 1 1 1 1 1 1 1) % 2 ^ 64) &&& (2 ^ 64 - 1 - (n8 a b c d e f g h ^^^ n8 m m m m m m m m))) &&& MSB = 0) :
    a ≠ m ∧ b ≠ m ∧ c ≠ m ∧ d ≠ m ∧ e ≠ m ∧ f ≠ m ∧ g ≠ m ∧ h ≠ m := by
  rw [n8_xor _ _ _ _ _ _ _ _ _ (by omega) (by omega) (by omega) (by omega) (by omega) (by omega) (by omega) (by omega)] at hz
  have lt : ∀ {x : Nat}, x < 128 → x ^^^ m < 128 := fun {x} hx => Nat.xor_lt_two_pow (n := 7) hx hm
  obtain ⟨h0, h1, h2, h3, h4, h5, h6, h7⟩ := none_below (n := 1) (by omega) (lt ha) (lt hb) (lt hc) (lt hd) (lt he) (lt hf) (lt hg) (lt hh) hz
  exact ⟨ne_of_xor h0, ne_of_xor h1, ne_of_xor h2, ne_of_xor h3, ne_of_xor h4, ne_of_xor h5, ne_of_xor h6, ne_of_xor h7⟩

theorem or_shl {acc b k : Nat} (h : acc < 2 ^ k) : acc ||| b * 2 ^ k = acc + b * 2 ^ k := by
  have := Nat.two_pow_add_eq_or_of_lt h b
  rw [Nat.or_comm, Nat.mul_comm b, ← this, Nat.add_comm]

end Go.Proofs.YtaccphdkapmdhaaGreat

namespace Go.Proofs.YtaccphdkapmdhaaGreat

abbrev u8 (c : UInt8) : Value := .int .u8 (c.toNat : Int)

/-- The cells from o on hold these bytes. -/
def BA (dc : Array Value) (o : Nat) (l : Bs) : Prop := ∀ (i : Nat) (c : UInt8), l[i]? = some c → dc[o + i]? = some (u8 c)

theorem BA.head {dc o c l} (h : BA dc o (c :: l)) : dc[o]? = some (u8 c) := h 0 c rfl
theorem BA.drop {dc o l} (h : BA dc o l) (n : Nat) : BA dc (o + n) (l.drop n) := fun i c hc => by
  rw [List.getElem?_drop] at hc
  rw [Nat.add_assoc]; exact h (n + i) c hc
theorem BA.tail {dc o c l} (h : BA dc o (c :: l)) : BA dc (o + 1) l := h.drop 1

/-- A slice value that is the rest l of a text of E bytes in block bd, whose row has C cells. -/
structure Suf (bd C E : Nat) (dc : Array Value) (v : Value) (l : Bs) : Prop where
  ex : ∃ ad, v = .slice ad l.length (C - (E - l.length)) ∧ Sf bd (E - l.length) (C - (E - l.length)) ad
  le : l.length ≤ E
  EC : E ≤ C
  C62 : E ≤ 4611686018427387904
  C63 : C ≤ 9223372036854775807
  cells : BA dc (E - l.length) l

theorem Suf.cons {bd C E dc v c l} (h : Suf bd C E dc v (c :: l)) : v = .slice (some ⟨bd, E - (l.length + 1), none⟩) (l.length + 1) (C - (E - (l.length + 1))) := by
  obtain ⟨⟨ad, rfl, hs⟩, hle, hEC, _⟩ := h
  simp only [List.length_cons] at *
  rw [hs.addr (by omega)]

theorem Suf.nil {bd C E dc v} (h : Suf bd C E dc v []) : ∃ ad, v = .slice ad 0 (C - E) ∧ Sf bd E (C - E) ad := by
  obtain ⟨⟨ad, rfl, hs⟩, _⟩ := h
  exact ⟨ad, rfl, hs⟩

theorem Suf.drop {bd C E dc v l} (h : Suf bd C E dc v l) (n : Nat) (hn : n ≤ l.length) {ad' : Option Addr} (hs : Sf bd (E - l.length + n) (C - (E - l.length) - n) ad') :
    Suf bd C E dc (.slice ad' (l.length - n) (C - (E - l.length) - n)) (l.drop n) := by
  have hle := h.le
  have hEC := h.EC
  have e1 : E - l.length + n = E - (l.length - n) := by omega
  have e2 : C - (E - l.length) - n = C - (E - (l.length - n)) := by omega
  refine ⟨⟨ad', ?_, ?_⟩, by simp; omega, hEC, h.C62, h.C63, ?_⟩
  · rw [List.length_drop, e2]
  · rw [List.length_drop, ← e2, ← e1]; exact hs
  · rw [List.length_drop, ← e1]; exact h.cells.drop n

theorem Suf.tail {bd C E dc v c l} (h : Suf bd C E dc v (c :: l)) {ad' : Option Addr} (hs : Sf bd (E - (l.length + 1) + 1) (C - (E - (l.length + 1)) - 1) ad') :
    Suf bd C E dc (.slice ad' l.length (C - (E - (l.length + 1)) - 1)) l := by
  have := h.drop 1 (by simp) hs
  simpa using this

theorem Suf.cell {bd C E dc v c l} (h : Suf bd C E dc v (c :: l)) {w : World} {fz : Nat × Nat} (hD : w.heap[bd]? = some (.cells dc 5 fz)) :
    w.cell? ⟨bd, E - (l.length + 1), none⟩ = some (u8 c) := cell_of hD (by have := h.cells.head; simpa using this)

section
variable {bd C E : Nat} {dc : Array Value} {fz : Nat × Nat}

set_option maxHeartbeats 1000000 in
theorem skip_any (v : Value) (l : Bs) (w : World) (hv : Suf bd C E dc v l) (hD : w.heap[bd]? = some (.cells dc 5 fz)) :
    Calls PP 39 #[v] w fun e w' => ∃ v', e = .returned v' ∧ Suf bd C E dc v' (skipWs l) ∧ w' = w := by
  refine enter (L := [(0, v)]) Tryz.func39 rfl rfl rfl ⟨rfl, trivial⟩ ?_
  repeat (first | refine WL.pp rfl ?_ | refine WL.ns ?_ | refine WC.sr ?_ | refine WC.seq ?_ | refine WC.block ?_)
  refine WC.loop (σ := Value × Bs) (I := fun s w' => w' = w ∧ Suf bd C E dc s.1 s.2 ∧ skipWs s.2 = skipWs l) (m := fun s => s.2.length) (Lf := fun s => [(0, s.1)]) (v, l) ⟨rfl, hv, rfl⟩ ⟨rfl, trivial⟩ ?_
  rintro ⟨v1, l1⟩ w1 ⟨rfl, h1, h2⟩
  dsimp only at h1 h2 ⊢
  cases l1 with
  | nil =>
    obtain ⟨ad, rfl, hs⟩ := h1.nil
    repeat (first | refine WL.pp rfl ?_ | refine WL.ns ?_ | refine WC.sr ?_ | refine WC.bF rfl (by first | with_reducible rfl | exact Bool.not_true) ?_ | refine WL.p rfl ?_ | refine WC.seq ?_ | refine X.sn ?_ | refine X.sx ?_ | refine X.bx ?_ | refine WC.exit ?_ | refine WC.ret ?_ | refine WL.gF rfl rfl (by first | omega | decide) ?_)
    refine X.ret_ rfl rfl ⟨_, rfl, ?_, rfl⟩
    rw [← h2]; exact h1
  | cons c l1 =>
    have hc := h1.cell hD
    have hC := h1.C62
    have hle := h1.le
    have hEC := h1.EC
    have hcons := h1.cons
    subst hcons
    simp only [List.length_cons] at hle
    by_cases hw : isWs c = true
    · have hsk : skipWs (c :: l1) = skipWs l1 := by simp [skipWs, hw]
      have hcc : c.toNat = 32 ∨ c.toNat = 9 := by
        simpa [isWs] using hw
      rcases hcc with h3 | h3
      all_goals
        repeat (first | refine WL.pp rfl ?_ | refine WL.ns ?_ | refine WC.sr ?_ | refine WC.bT rfl (by first | with_reducible rfl | exact Bool.not_false) ?_ | refine WC.dT rfl (by first | omega | decide) ?_ | refine WL.ix (i := 0) rfl rfl rfl (by omega) rfl ?_ | refine WL.ld rfl rfl hc rfl ?_ | refine WL.p rfl ?_ | refine WC.seq ?_ | refine WC.reg ?_ | refine WC.block ?_ | refine X.sn ?_ | refine WC.skip ?_ | refine WL.gT rfl rfl (by first | omega | decide) ?_ | refine WL.gF rfl rfl (by first | omega | decide) ?_)
        refine WL.sS l1.length 1 rfl rfl (Sf.mk _ _ _) rfl (by simp; omega) (by omega) (fun _ => rfl) (fun ad' hs' => ?_)
        repeat (first | refine WL.pp rfl ?_ | refine WL.nil ?_ | refine X.bn ?_)
        refine X.again (.slice ad' l1.length (C - (E - (l1.length + 1)) - 1), l1) ⟨rfl, h1.tail hs', by rw [← h2, hsk]⟩ (by simp) ⟨rfl, trivial⟩
    · have hsk : skipWs (c :: l1) = c :: l1 := by simp [skipWs, hw]
      have hn : ¬ c.toNat = 32 ∧ ¬ c.toNat = 9 := by simpa [isWs] using hw
      obtain ⟨hn1, hn2⟩ := hn
      repeat (first | refine WL.pp rfl ?_ | refine WL.ns ?_ | refine WC.sr ?_ | refine WC.dF rfl (by first | omega | decide) ?_ | refine WL.ix (i := 0) rfl rfl rfl (by omega) rfl ?_ | refine WL.ld rfl rfl hc rfl ?_ | refine WL.p rfl ?_ | refine WC.seq ?_ | refine X.sn ?_ | refine X.sx ?_ | refine X.bx ?_ | refine WC.exit ?_ | refine WC.ret ?_ | refine WL.gT rfl rfl (by first | omega | decide) ?_ | refine WL.gF rfl rfl (by first | omega | decide) ?_)
      refine X.ret_ rfl rfl ⟨_, rfl, ?_, rfl⟩
      rw [← h2, hsk]; exact h1
end
end Go.Proofs.YtaccphdkapmdhaaGreat

namespace Go.Proofs.YtaccphdkapmdhaaGreat
attribute [local semireducible] WL WC X WD

/-- Below block B nothing has turned. -/
structure Up (B : Nat) (w w' : World) : Prop where
  os : w'.os = w.os
  tape : w'.tape = w.tape
  output : w'.output = w.output
  size : w.heap.size ≤ w'.heap.size
  old : ∀ (k : Nat), k < B → w'.heap[k]? = w.heap[k]?

theorem Up.refl (B : Nat) (w : World) : Up B w w := ⟨rfl, rfl, rfl, Nat.le_refl _, fun _ _ => rfl⟩
theorem Up.trans {B a b c} (h : Up B a b) (g : Up B b c) : Up B a c := ⟨g.os.trans h.os, g.tape.trans h.tape, g.output.trans h.output, Nat.le_trans h.size g.size, fun k hk => (g.old k hk).trans (h.old k hk)⟩
theorem Up.mono {B B' a b} (h : Up B a b) (hB : B' ≤ B) : Up B' a b := ⟨h.os, h.tape, h.output, h.size, fun k hk => h.old k (by omega)⟩
theorem Up.at {B w w'} (h : Up B w w') {k : Nat} {o : Obj} (hk : k < B) (ho : w.heap[k]? = some o) : w'.heap[k]? = some o := (h.old k hk).trans ho
theorem Up.cell {B w w'} (h : Up B w w') {a : Addr} {v : Value} (hk : a.block < B) (hc : w.cell? a = some v) : w'.cell? a = some v := by
  rw [World.cell?_of_block (h.old a.block hk)]; exact hc
theorem Up.fm {B B' : Nat} {T : List Nat} {w w'} (h : Up B w w') (hB : w.heap.size ≤ B) (hB' : B' ≤ B) : Fm B' T w w' :=
  ⟨h.os, h.tape, h.output, h.size, fun k hk => h.old k (by omega), fun k o ho _ => (h.old k (by have := lt_of_heap ho; omega)).trans ho,
    fun k o ho => ⟨o, (h.old k (by have := lt_of_heap ho; omega)).trans ho, rfl⟩⟩
theorem Sm.up {B w w'} (h : Sm w w') : Up B w w' := ⟨h.os, h.tape, h.output, by rw [h.heap]; exact Nat.le_refl _, fun k _ => by rw [h.heap]⟩
theorem Al.up {B w o w'} (h : Al w o w') (hB : B ≤ w.heap.size) : Up B w w' := ⟨h.os, h.tape, h.output, by rw [h.size]; omega, fun k hk => h.oth k (by omega)⟩
theorem St.up {B w b o w'} (h : St w b o w') (hB : B ≤ b) : Up B w w' := ⟨h.os, h.tape, h.output, by rw [h.size]; exact Nat.le_refl _, fun k hk => h.oth k (by omega)⟩
theorem Up.of_grown {B w w' row} (h : w.grownBy w' row) (hr : ∀ k, row = some k → B ≤ k) (hB : B ≤ w.heap.size) : Up B w w' :=
  ⟨h.os, h.tape, h.output, h.size, fun k hk => h.block k (by omega) (fun e => by have := hr k e.symm; omega)⟩
theorem Up.drew {B w w'} (h : Up B w w') : Up B w w'.drew := ⟨h.os, h.tape, h.output, h.size, h.old⟩
theorem Fm.up {B T w w'} (h : Fm B T w w') : Up B w w' := ⟨h.os, h.tape, h.output, h.size, h.old⟩

/-! ### Rows -/
/-- The slice types whose rows grow: their elements' type and its cells. -/
def rowT : Nat → Option (Nat × Nat)
  | 22 => some (29, 1) | 23 => some (5, 1) | 24 => some (40, 6) | 34 => some (9, 1) | 35 => some (37, 4) | 48 => some (104, 7) | 55 => some (145, 4) | 56 => some (4, 1) | 57 => some (21, 1)
  | 79 => some (73, 1) | 85 => some (132, 6) | 127 => some (129, 4) | 168 => some (3, 1)
  | _ => none

noncomputable def rowFits (t e n : Nat) : Bool :=
  (match PP.underlying t with
  | some (.slice e') => e' == e
  | _ => false) && (match PP.info? e with
  | some i => i.size == n && Nat.ble i.bytes 128 && Nat.blt 0 n && (match i.zero with | some z => z.cells.size == n | none => false)
  | none => false)

theorem rowFits_all : ∀ t e n, rowT t = some (e, n) → rowFits t e n = true := by
  intro t e n h
  unfold rowT at h
  split at h <;> first
    | (simp only [Option.some.injEq, Prod.mk.injEq] at h; obtain ⟨rfl, rfl⟩ := h; kernel_rfl)
    | (cases h)

theorem row_parts {t e n : Nat} (h : rowT t = some (e, n)) :
    ∃ i z, PP.underlying t = some (.slice e) ∧ PP.info? e = some i ∧ i.zero = some z ∧ i.size = n ∧ i.bytes ≤ 128 ∧ z.cells.size = n ∧ 0 < n := by
  have := rowFits_all t e n h
  unfold rowFits at this
  rw [Bool.and_eq_true] at this
  obtain ⟨h1, h2⟩ := this
  split at h1
  · rename_i e' hu
    have he : e' = e := by simpa using h1
    subst he
    split at h2
    · rename_i i hi
      simp only [Bool.and_eq_true, beq_iff_eq, Nat.ble_eq, Nat.blt_eq] at h2
      obtain ⟨⟨⟨h3, h4⟩, h5⟩, h6⟩ := h2
      split at h6
      · rename_i z hz
        exact ⟨i, z, hu, hi, hz, h3, h4, by simpa using h6, h5⟩
      · cases h6
    · cases h2
  · cases h1

section steps
variable {all : List Oper} {Q : Exit → Act → World → Prop} {N : Nat} {L L' : Env} {o : Oper} {rest : List Oper} {w : World}

def apA (L : Env) (op : Op) : Option (Nat × Value × Value) :=
  match op with
  | .call ⟨.builtin .append, ⟨[x, y]⟩, ⟨[t, t']⟩⟩ => cond (Nat.beq t t') (match ev L x, ev L y with
    | some v, some u => some (t, v, u)
    | _, _ => none) none
  | _ => none

theorem apA_run {N : Nat} {L : Env} {a : Act} {t : Nat} {v u : Value} (hf : Fr N L a) (h : apA L o.op = some (t, v, u)) (w : World) :
    (execOp a.eval o).run PP w = ((Builtin.append_ #[t, t] o.type #[v, u] >>= fun x => pure (.value x)) : Sem Next).run PP w := by
  obtain ⟨dst, op, ty, pos, after, guard⟩ := o
  simp only at h
  unfold apA at h
  split at h
  · rename_i x y t1 t2
    cases ht : Nat.beq t1 t2 with
    | false => simp [ht] at h
    | true =>
      have ht' : t1 = t2 := by simpa using ht
      subst ht'
      simp only [ht, cond_true] at h
      split at h
      · rename_i v' u' hx hy
        simp only [Option.some.injEq, Prod.mk.injEq] at h
        obtain ⟨rfl, rfl, rfl⟩ := h
        simp [execOp, resolve, invoke, builtin, hf.eval hx, hf.eval hy]
      · cases h
  · cases h

/-- 'append' onto a row that is owned. -/
theorem WL.ap {B t e s n m c : Nat} {v : Value} {xs : List Value} {ad : Addr} (news : List Value) (hg : grd all L o = some true) (h : apA L o.op = some (t, v, .slice (some ad) m c))
    (ht : rowT t = some (e, s)) (hown : w.ownsRow B e s v n xs) (hl : news.length = m * s) (hnews : ∀ j u, news[j]? = some u → w.cell? (ad.add j) = some u) (h1 : ∀ u ∈ news, oneV u = true)
    (hm : n + m ≤ 1099511627776) (hB : B ≤ w.heap.size)
    (k : ∀ v' w', w'.ownsRow B e s v' (n + m) (xs ++ news) → Up B w w' → w.grownBy w' v.ownBlock → ∃ L', dstE N o v' L = some L' ∧ WL all Q N L' rest w') : WL all Q N L (o :: rest) w := by
  obtain ⟨i, z, hu, hi, hz, hsz, hby, hzs, h0⟩ := row_parts ht
  have hone : ∀ u ∈ news, u.oneCell' = true := fun u hu => by
    have := h1 u hu
    cases u <;> first | rfl | (simp [oneV] at this)
  have hbb : (n + m) * i.bytes ≤ 140737488355328 := by
    have := Nat.mul_le_mul hm hby
    omega
  obtain ⟨v', w', hr, h2, h3, h4⟩ := run_append_own (P := PP) w B t o.type e i z s i.bytes hu hi hz hsz rfl hzs h0 v n xs hown ad m c news hl hnews hone (by simp only [maxLen]; omega) hbb hB
  obtain ⟨L', hd, hk⟩ := k v' w' h2 (Up.of_grown h3 (fun k hk => (hown.lt k hk).1) hB) h3
  exact WL.of_run hg (fun a hf => by rw [apA_run hf h]; simp [hr]) hd hk

/-- 'append' of nothing. -/
theorem WL.ap0 {B t e s n c : Nat} {v : Value} {xs : List Value} (hg : grd all L o = some true) (h : apA L o.op = some (t, v, .slice none 0 c))
    (ht : rowT t = some (e, s)) (hown : w.ownsRow B e s v n xs) (hd : dstE N o v L = some L') (k : WL all Q N L' rest w) : WL all Q N L (o :: rest) w := by
  obtain ⟨i, z, hu, hi, hz, hsz, hby, hzs, h0⟩ := row_parts ht
  refine WL.of_run hg (fun a hf => ?_) hd k
  rw [apA_run hf h]
  rcases hown.2 with ⟨rfl, rfl⟩ | ⟨g, cap, cur, rfl, _, _, hnc, _⟩
  · simp [Builtin.append_, run_underlying hu, sizeOf, typeInfo, hi, Builtin.lenOf, Builtin.firstCells]
  · simp [Builtin.append_, run_underlying hu, sizeOf, typeInfo, hi, Builtin.lenOf, Builtin.firstCells, hnc, storeCells]

def mkA (L : Env) (op : Op) : Option (Nat × Int × Int) :=
  match op with
  | .makeSlice t x y => match ev L x, ev L y with
    | some (.int _ l), some (.int _ c) => some (t, l, c)
    | _, _ => none
  | _ => none

/-- 'make' of a slice. -/
theorem WL.mk {t e s : Nat} {l c : Int} (ln cn : Nat) (hg : grd all L o = some true) (h : mkA L o.op = some (t, l, c)) (ht : rowT t = some (e, s)) (hl : l = (ln : Int)) (hc : c = (cn : Int)) (hlc : ln ≤ cn) (hm : cn ≤ 1099511627776)
    (hd : dstE N o (.slice (some ⟨w.heap.size, 0, none⟩) ln cn) L = some L')
    (k : ∀ w' z, z.size = s → (∃ i v, PP.info? e = some i ∧ i.zero = some v ∧ v.cells = z) → Al w (.cells (madeCells z (cn * s)) e (0, 0)) w' → WL all Q N L' rest w') : WL all Q N L (o :: rest) w := by
  obtain ⟨i, z, hu, hi, hz, hsz, hby, hzs, h0⟩ := row_parts ht
  subst hl hc
  refine WL.of_run hg (fun a hf => ?_) hd (k (w.alloc (.cells (madeCells z.cells (cn * s)) e (0, 0))) z.cells hzs ⟨i, z, hi, hz, rfl⟩ (alloc_al w _))
  obtain ⟨dst, op, ty, pos, after, guard⟩ := o
  simp only at h
  unfold mkA at h
  split at h
  · rename_i t' x y
    split at h
    · rename_i k1 l' k2 c' hx hy
      simp only [Option.some.injEq, Prod.mk.injEq] at h
      obtain ⟨rfl, rfl, rfl⟩ := h
      have hb : (i.bytes : Int) * (cn : Int) ≤ 281474976710656 := by
        have := Nat.mul_le_mul hby hm
        have h2 : ((i.bytes * cn : Nat) : Int) ≤ 281474976710656 := by omega
        rwa [Int.natCast_mul] at h2
      have hr := run_make (P := PP) w t' e i z hu hi hz k1 k2 (ln : Int) (cn : Int) (by omega) (by omega) hb (by omega)
      simp only [Int.toNat_natCast, hsz] at hr
      simp [execOp, hf.eval hx, hf.eval hy, hr]
    · cases h
  · cases h

def cpA (L : Env) (op : Op) : Option (Nat × Nat × Value × Value) :=
  match op with
  | .call ⟨.builtin .copy, ⟨[x, y]⟩, ⟨[t, t']⟩⟩ => match ev L x, ev L y with
    | some v, some u => some (t, t', v, u)
    | _, _ => none
  | _ => none

/-- 'copy' of bytes into a row. -/
theorem WL.cp {g dl dc n c : Nat} {ad : Addr} {cur : Array Value} (cs : List Value) (hg : grd all L o = some true) (h : cpA L o.op = some (23, 23, .slice (some ⟨g, 0, none⟩) dl dc, .slice (some ad) n c))
    (hgc : w.heap[g]? = some (.cells cur 5 (0, 0))) (hn : cs.length = Nat.min n dl) (hcs : ∀ j u, cs[j]? = some u → w.cell? (ad.add j) = some u) (hfit : cs.length ≤ cur.size) (h1 : ∀ u ∈ cs, oneV u = true)
    (hd : dstE N o (.int .i64 (cs.length : Int)) L = some L')
    (k : ∀ w', St w g (.cells (cs ++ cur.toList.drop cs.length).toArray 5 (0, 0)) w' → WL all Q N L' rest w') : WL all Q N L (o :: rest) w := by
  obtain ⟨i, z, hu, hi, hz, hsz, hby, hzs, h0⟩ := row_parts (t := 23) rfl
  have hone : ∀ u ∈ cs, u.oneCell' = true := fun u hu => by
    have := h1 u hu
    cases u <;> first | rfl | (simp [oneV] at this)
  have hr := fun ty => run_copy_row (P := PP) w 23 23 ty 5 g 0 dl dc ad n c cur 5 cs hu (by rw [hi]; simp [hsz]) hgc hn hcs (by omega) hone
  simp only [List.take_zero, List.nil_append, Nat.zero_add] at hr
  refine WL.of_run (w' := w.setRow g (cs ++ cur.toList.drop cs.length).toArray) hg (fun a hf => ?_) hd (k _ ⟨rfl, rfl, rfl, by simp, setRow_heap w g cur _ 5 (0, 0) hgc, fun k hk => setRow_other w g k _ hk⟩)
  obtain ⟨dst, op, ty, pos, after, guard⟩ := o
  simp only at h
  unfold cpA at h
  split at h
  · rename_i x y t1 t2
    split at h
    · rename_i v' u' hx hy
      simp only [Option.some.injEq, Prod.mk.injEq] at h
      obtain ⟨rfl, rfl, rfl, rfl⟩ := h
      simp [execOp, resolve, invoke, builtin, hf.eval hx, hf.eval hy, hr, goInt]
    · cases h
  · cases h
end steps

/-! ### Rows of bytes -/
/-- A row of bytes that is owned, from block B on. -/
def Ob (B : Nat) (w : World) (v : Value) (l : Bs) : Prop := w.ownsRow B 5 1 v l.length (l.map u8)

theorem Ob.up {B B' w w' v l} (h : Ob B w v l) (hu : Up B' w w') (hv : ∀ k, v.ownBlock = some k → k < B') : Ob B w' v l := by
  refine ⟨h.1, ?_⟩
  rcases h.2 with hn | ⟨g, cap, cur, rfl, hb, hgg, rest⟩
  · exact .inl hn
  · exact .inr ⟨g, cap, cur, rfl, hb, hu.at (hv g rfl) hgg, rest⟩
theorem Ob.upS {B w w' v l} (h : Ob B w v l) (hu : Up w.heap.size w w') : Ob B w' v l := h.up hu fun k hk => (World.ownsRow.lt h k hk).2
theorem Ob.base {B B' w v l} (h : Ob B w v l) (hB : B' ≤ B) : Ob B' w v l := by
  refine ⟨h.1, ?_⟩
  rcases h.2 with hn | ⟨g, cap, cur, rfl, hb, rest⟩
  · exact .inl hn
  · exact .inr ⟨g, cap, cur, rfl, by omega, rest⟩
theorem Ob.nil (B : Nat) (w : World) : Ob B w (.slice none 0 0) [] := World.ownsRow_nil w B 5 1
theorem Ob.len {B w v l} (h : Ob B w v l) : l.length ≤ 1152921504606846975 ∨ True := .inr trivial

theorem Ob.lit {B w w' n} {l : Bs} {cs : Array Value} (h : Al w (.cells cs 5 (0, 0)) w') (hcs : cs = (l.map u8).toArray) (hn : l.length = n) (hB : B ≤ w.heap.size) (hm : n ≤ 1099511627776) : Ob B w' (.slice (some ⟨w.heap.size, 0, none⟩) n n) l := by
  subst hcs hn
  refine ⟨by simp, .inr ⟨w.heap.size, l.length, (l.map u8).toArray, rfl, hB, h.at_, Nat.le_refl _, by simp only [maxLen]; omega, by simp, by simp [List.take_of_length_le]⟩⟩

/-- How long the row is: its value tells. -/
theorem Ob.slice {B w v l} (h : Ob B w v l) : ∃ ad cap, v = .slice ad l.length cap ∧ l.length ≤ cap := by
  rcases h.2 with ⟨rfl, hn⟩ | ⟨g, cap, cur, rfl, hb, hg, hc, _⟩
  · exact ⟨none, 0, by rw [hn], by omega⟩
  · exact ⟨_, cap, rfl, hc⟩

theorem bs1 (a : Int) (w : World) : (Instr.buildSlice 23 1 ⟨[(0, .int .u8 a)]⟩).run PP w = .ok (.slice (some ⟨w.heap.size, 0, none⟩) 1 1) (w.alloc (.cells #[.int .u8 a] 5 (0, 0))) := by kernel_rfl
theorem bs2 (a b : Int) (w : World) : (Instr.buildSlice 23 2 ⟨[(0, .int .u8 a), (1, .int .u8 b)]⟩).run PP w = .ok (.slice (some ⟨w.heap.size, 0, none⟩) 2 2) (w.alloc (.cells #[.int .u8 a, .int .u8 b] 5 (0, 0))) := by kernel_rfl
theorem bs3 (a b c : Int) (w : World) : (Instr.buildSlice 23 3 ⟨[(0, .int .u8 a), (1, .int .u8 b), (2, .int .u8 c)]⟩).run PP w = .ok (.slice (some ⟨w.heap.size, 0, none⟩) 3 3) (w.alloc (.cells #[.int .u8 a, .int .u8 b, .int .u8 c] 5 (0, 0))) := by kernel_rfl
theorem bs4 (a b c d : Int) (w : World) : (Instr.buildSlice 23 4 ⟨[(0, .int .u8 a), (1, .int .u8 b), (2, .int .u8 c), (3, .int .u8 d)]⟩).run PP w = .ok (.slice (some ⟨w.heap.size, 0, none⟩) 4 4) (w.alloc (.cells #[.int .u8 a, .int .u8 b, .int .u8 c, .int .u8 d] 5 (0, 0))) := by kernel_rfl

section
variable {all : List Oper} {Q : Exit → Act → World → Prop} {N : Nat} {L L' : Env} {o : Oper} {rest : List Oper} {w : World}

/-- 'append' of bytes onto a row of bytes that is owned. -/
theorem WL.apb {B m c : Nat} {v : Value} {l : Bs} {ad : Addr} (l' : Bs) (hg : grd all L o = some true) (h : apA L o.op = some (23, v, .slice (some ad) m c)) (hown : Ob B w v l) (hl : l'.length = m)
    (hnews : ∀ j x, l'[j]? = some x → w.cell? (ad.add j) = some (u8 x)) (hm : l.length + m ≤ 1099511627776) (hB : B ≤ w.heap.size)
    (k : ∀ v' w', Ob B w' v' (l ++ l') → Up B w w' → ∃ L', dstE N o v' L = some L' ∧ WL all Q N L' rest w') : WL all Q N L (o :: rest) w := by
  subst hl
  refine WL.ap (l'.map u8) hg h (rfl : rowT 23 = some (5, 1)) hown (by simp) (fun j u hu => ?_) (fun u hu => ?_) hm hB (fun v' w' h1 h2 _ => k v' w' ?_ h2)
  · rw [List.getElem?_map] at hu
    cases hx : l'[j]? with
    | none => simp [hx] at hu
    | some x =>
      simp only [hx, Option.map_some, Option.some.injEq] at hu
      subst hu
      exact hnews j x hx
  · obtain ⟨x, _, rfl⟩ := List.mem_map.1 hu
    rfl
  · unfold Ob
    rw [List.length_append, List.map_append]
    exact h1

theorem add_zero (b j : Nat) : (⟨b, 0, none⟩ : Addr).add j = ⟨b, j, none⟩ := by rw [addr_lit]; simp

/-- 'append' of the bytes of a new row. -/
theorem WL.apn {B : Nat} {m c b : Nat} {v : Value} {l : Bs} {cs : Array Value} (l' : Bs) (hg : grd all L o = some true) (h : apA L o.op = some (23, v, .slice (some ⟨b, 0, none⟩) m c)) (hown : Ob B w v l) (hl : l'.length = m)
    (hb : w.heap[b]? = some (.cells cs 5 (0, 0))) (hc : cs = (l'.map u8).toArray) (hm : l.length + m ≤ 1099511627776) (hB : B ≤ w.heap.size)
    (k : ∀ v' w', Ob B w' v' (l ++ l') → Up B w w' → ∃ L', dstE N o v' L = some L' ∧ WL all Q N L' rest w') : WL all Q N L (o :: rest) w := by
  refine WL.apb l' hg h hown hl (fun j x hx => ?_) hm hB k
  rw [add_zero]
  exact cell_of hb (by rw [hc]; simp [hx])

/-- Arithmetic of whatever kind, with what comes of it. -/
theorem WL.az {bop kd x y} {m : Int} (hg : grd all L o = some true) (h : arA L o.op = some (bop, kd, x, y)) (hw : kd.wrap (arV bop x y) = m) (hd : dstE N o (.int kd m) L = some L') (k : WL all Q N L' rest w) : WL all Q N L (o :: rest) w := by
  subst hw
  exact WL.aw hg h hd k
theorem WL.su8 {x y : Int} (hg : grd all L o = some true) (h : arA L o.op = some (.sub, .u8, x, y)) (hb : 0 ≤ x - y ∧ x - y ≤ 255) (hd : dstE N o (.int .u8 (x - y)) L = some L') (k : WL all Q N L' rest w) : WL all Q N L (o :: rest) w :=
  WL.az hg h (wrap_u8 hb) hd k
theorem WL.adu {x y : Int} (hg : grd all L o = some true) (h : arA L o.op = some (.add, .u32, x, y)) (hb : 0 ≤ x + y ∧ x + y ≤ 4294967295) (hd : dstE N o (.int .u32 (x + y)) L = some L') (k : WL all Q N L' rest w) : WL all Q N L (o :: rest) w :=
  WL.az hg h (wrap_u32 hb) hd k

/-- A conversion, with what comes of it. -/
theorem WL.cz {kd : IntKind} {n m : Int} (hg : grd all L o = some true) (h : cvA L o.op = some (kd, n)) (hw : kd.wrap n = m) (hd : dstE N o (.int kd m) L = some L') (k : WL all Q N L' rest w) : WL all Q N L (o :: rest) w := by
  subst hw
  exact WL.cw hg h hd k
end

/-! Figures -/
theorem or8 {a b c : Nat} (ha : a < 256) (hb : b < 256) (hc : a ||| b = c) (t : Nat) (w : World) : (binOp .or t (.int .u8 (a : Int)) (.int .u8 (b : Int))).run PP w = .ok (.int .u8 (c : Int)) w := by
  subst hc
  have h : (BitVec.ofInt 8 (a : Int) ||| BitVec.ofInt 8 (b : Int)).toNat = a ||| b := by
    rw [show BitVec.ofInt 8 (a : Int) = BitVec.ofNat 8 a by simp, show BitVec.ofInt 8 (b : Int) = BitVec.ofNat 8 b by simp, BitVec.toNat_or, BitVec.toNat_ofNat, BitVec.toNat_ofNat, Nat.mod_eq_of_lt ha, Nat.mod_eq_of_lt hb]
  have hl : a ||| b < 2 ^ 8 := Nat.or_lt_two_pow ha hb
  show (Op.intBits .or .u8 (a : Int) (b : Int)).run PP w = _
  unfold Op.intBits
  simp only [Sem.run_pure]
  rw [show (BitVec.ofInt IntKind.u8.bits (a : Int) ||| BitVec.ofInt IntKind.u8.bits (b : Int)).toNat = a ||| b from h, wrap_u8 (by omega)]

theorem or32 {a b c : Nat} (ha : a < 4294967296) (hb : b < 4294967296) (hc : a ||| b = c) (t : Nat) (w : World) : (binOp .or t (.int .u32 (a : Int)) (.int .u32 (b : Int))).run PP w = .ok (.int .u32 (c : Int)) w := by
  subst hc
  have h : (BitVec.ofInt 32 (a : Int) ||| BitVec.ofInt 32 (b : Int)).toNat = a ||| b := by
    rw [show BitVec.ofInt 32 (a : Int) = BitVec.ofNat 32 a by simp, show BitVec.ofInt 32 (b : Int) = BitVec.ofNat 32 b by simp, BitVec.toNat_or, BitVec.toNat_ofNat, BitVec.toNat_ofNat, Nat.mod_eq_of_lt ha, Nat.mod_eq_of_lt hb]
  have hl : a ||| b < 2 ^ 32 := Nat.or_lt_two_pow ha hb
  show (Op.intBits .or .u32 (a : Int) (b : Int)).run PP w = _
  unfold Op.intBits
  simp only [Sem.run_pure]
  rw [show (BitVec.ofInt IntKind.u32.bits (a : Int) ||| BitVec.ofInt IntKind.u32.bits (b : Int)).toNat = a ||| b from h, wrap_u32 (by omega)]

theorem shl32 {a n : Nat} (h : a * 2 ^ n < 4294967296) (hn : n < 32) (t : Nat) (w : World) : (binOp .shl t (.int .u32 (a : Int)) (.int .u64 (n : Int))).run PP w = .ok (.int .u32 ((a * 2 ^ n : Nat) : Int)) w := by
  show (Op.shift .shl .u32 (a : Int) .u64 (n : Int)).run PP w = _
  unfold Op.shift
  rw [if_neg (by omega)]
  have hm : min (n : Int).toNat IntKind.u32.bits = n := by simp [IntKind.bits]; omega
  simp only [hm, Sem.run_pure]
  have : (a : Int) * 2 ^ n = ((a * 2 ^ n : Nat) : Int) := by simp
  rw [this, wrap_u32 (by omega)]

theorem shr32 (a n : Nat) (hn : n < 32) (t : Nat) (w : World) : (binOp .shr t (.int .i32 (a : Int)) (.int .u64 (n : Int))).run PP w = .ok (.int .i32 ((a / 2 ^ n : Nat) : Int)) w := by
  show (Op.shift .shr .i32 (a : Int) .u64 (n : Int)).run PP w = _
  unfold Op.shift
  rw [if_neg (by omega)]
  have hm : min (n : Int).toNat IntKind.i32.bits = n := by simp [IntKind.bits]; omega
  simp only [hm, Sem.run_pure]
  congr 2
  rw [show (2 : Int) ^ n = ((2 ^ n : Nat) : Int) by simp, Int.fdiv_eq_ediv_of_nonneg _ (Int.natCast_nonneg _), Int.natCast_ediv]

end Go.Proofs.YtaccphdkapmdhaaGreat

namespace Go.Proofs.YtaccphdkapmdhaaGreat

def below (x n : Nat) : Nat := (((x + 2 ^ 64 - n * 72340172838076673) % 2 ^ 64) &&& (2 ^ 64 - 1 - x)) &&& MSB
def equal8 (x c : Nat) : Nat := ((((x ^^^ (c * 72340172838076673)) + 2 ^ 64 - 72340172838076673) % 2 ^ 64) &&& (2 ^ 64 - 1 - (x ^^^ (c * 72340172838076673)))) &&& MSB

theorem msb_lt : MSB < 2 ^ 64 := by decide
theorem below_lt (x n : Nat) : below x n < 2 ^ 64 := Nat.and_lt_two_pow _ msb_lt
theorem equal8_lt (x n : Nat) : equal8 x n < 2 ^ 64 := Nat.and_lt_two_pow _ msb_lt

theorem hasByteBelow_any (x n : Nat) (hx : x < 2 ^ 64) (hn : n ≤ 128) (w : World) :
    Calls PP 74 #[UW x, UW n] w fun e w' => e = .returned (UW (below x n)) ∧ w' = w := by
  refine enter (L := [(0, UW x), (1, UW n)]) Tryz.func74 rfl rfl rfl ⟨rfl, rfl, trivial⟩ ?_
  repeat (first | refine WL.pp rfl ?_ | refine WL.ns ?_ | refine WC.sr ?_)
  refine WL.bo rfl rfl (mul64 (a := n) (b := 72340172838076673) (by omega) _ _) rfl ?_
  refine WL.bo rfl rfl (sub64 hx (by omega) _ _) rfl ?_
  repeat (refine WL.pp rfl ?_)
  refine WL.not64 hx rfl rfl rfl ?_
  refine WL.bo rfl rfl (and64 (Nat.mod_lt _ (by decide)) (by omega) _ _) rfl ?_
  refine WL.bo rfl rfl (and64 (b := MSB) (Nat.and_lt_two_pow _ (by omega)) msb_lt _ _) rfl ?_
  repeat (first | refine WL.pp rfl ?_ | refine WL.ns ?_ | refine WC.ret ?_)
  exact X.ret_ rfl rfl ⟨rfl, rfl⟩

theorem hasByteEqual_any (x n : Nat) (hx : x < 2 ^ 64) (hn : n ≤ 128) (w : World) :
    Calls PP 75 #[UW x, UW n] w fun e w' => e = .returned (UW (equal8 x n)) ∧ w' = w := by
  have hxo : x ^^^ (n * 72340172838076673) < 2 ^ 64 := Nat.xor_lt_two_pow hx (by omega)
  refine enter (L := [(0, UW x), (1, UW n)]) Tryz.func75 rfl rfl rfl ⟨rfl, rfl, trivial⟩ ?_
  repeat (first | refine WL.pp rfl ?_ | refine WL.ns ?_ | refine WC.sr ?_)
  refine WL.bo rfl rfl (mul64 (a := n) (b := 72340172838076673) (by omega) _ _) rfl ?_
  refine WL.bo rfl rfl (xor64 hx (by omega) _ _) rfl ?_
  repeat (first | refine WL.pp rfl ?_ | refine WL.ns ?_ | refine WC.sr ?_)
  refine WL.bo rfl rfl (sub64 (b := 72340172838076673) hxo (by decide) _ _) rfl ?_
  repeat (refine WL.pp rfl ?_)
  refine WL.not64 hxo rfl rfl rfl ?_
  refine WL.bo rfl rfl (and64 (Nat.mod_lt _ (by decide)) (by omega) _ _) rfl ?_
  refine WL.bo rfl rfl (and64 (b := MSB) (Nat.and_lt_two_pow _ (by omega)) msb_lt _ _) rfl ?_
  repeat (first | refine WL.pp rfl ?_ | refine WL.ns ?_ | refine WC.ret ?_)
  exact X.ret_ rfl rfl ⟨rfl, rfl⟩

/-- The word of eight bytes. -/
def le8 (a b c d e f g h : UInt8) : Nat := n8 a.toNat b.toNat c.toNat d.toNat e.toNat f.toNat g.toNat h.toNat

set_option maxHeartbeats 1000000 in
theorem leUint64_any {bd o n cap : Nat} {dc : Array Value} {fz : Nat × Nat} {a b c d e f g h : UInt8} {l : Bs} (w : World) (hn : 8 ≤ n) (hB : BA dc o (a :: b :: c :: d :: e :: f :: g :: h :: l)) (hD : w.heap[bd]? = some (.cells dc 5 fz)) :
    Calls PP 73 #[.slice (some ⟨bd, o, none⟩) n cap] w fun en w' => en = .returned (UW (le8 a b c d e f g h)) ∧ Sm w w' := by
  have cell : ∀ (w' : World), w'.heap = w.heap → ∀ (i : Nat) (x : UInt8), (a :: b :: c :: d :: e :: f :: g :: h :: l)[i]? = some x → w'.cell? ⟨bd, o + i * 1, none⟩ = some (u8 x) := fun w' hw i x hx => by
    rw [Nat.mul_one]; exact cell_of (by rw [hw]; exact hD) (hB i x hx)
  refine enter (L := [(0, .slice (some ⟨bd, o, none⟩) n cap)]) Tryz.func73 rfl rfl rfl ⟨rfl, trivial⟩ ?_
  repeat (first | refine WL.pp rfl ?_ | refine WL.ns ?_ | refine WC.sr ?_ | refine WL.ix (i := 7) rfl rfl rfl (by omega) rfl ?_ | refine WL.ld rfl rfl (cell w rfl 7 h rfl) rfl ?_ | refine WC.seq ?_)
  refine WC.drx (fun w' => w'.heap = w.heap) ?_
  have hS : w.drew.heap = w.heap := rfl
  have ba := a.toNat_lt
  have bb := b.toNat_lt
  have bc := c.toNat_lt
  have bd := d.toNat_lt
  have be := e.toNat_lt
  have bf := f.toNat_lt
  have bg := g.toNat_lt
  have bh := h.toNat_lt
  repeat (first | refine WX.p (by kernel_rfl) (by first | trivial | assumption) rfl ?_ | refine WX.ix (i := 0) (by kernel_rfl) hS rfl rfl rfl (by omega) rfl ?_ | refine WX.ld (by kernel_rfl) hS rfl rfl (fun w' hw => cell w' hw 0 a rfl) rfl ?_ | refine WX.cv (by kernel_rfl) (by first | trivial | assumption) rfl rfl (wrap_u64 (by omega)) rfl ?_)
  repeat (first | refine WX.ix (i := 1) (by kernel_rfl) hS rfl rfl rfl (by omega) rfl ?_ | refine WX.ld (by kernel_rfl) hS rfl rfl (fun w' hw => cell w' hw 1 b rfl) rfl ?_ | refine WX.cv (by kernel_rfl) (by first | trivial | assumption) rfl rfl (wrap_u64 (by omega)) rfl ?_)
  refine WX.bo (by kernel_rfl) hS rfl rfl (fun w => shl64 (a := b.toNat) (n := 8) (by omega) (by omega) _ w) rfl ?_
  obtain ⟨A1, hA1⟩ : ∃ A, A = a.toNat ||| b.toNat * 2 ^ 8 := ⟨_, rfl⟩
  have eA1 : A1 = a.toNat + b.toNat * 2 ^ 8 := by rw [hA1]; exact or_shl (by omega)
  refine WX.bo (v := UW A1) (by kernel_rfl) hS rfl rfl (fun w => by rw [hA1]; exact or64 (by simp only [Nat.reducePow] at *; omega) (by simp only [Nat.reducePow] at *; omega) _ w) rfl ?_
  repeat (first | refine WX.p (by kernel_rfl) (by first | trivial | assumption) rfl ?_ | refine WX.ix (i := 2) (by kernel_rfl) hS rfl rfl rfl (by omega) rfl ?_ | refine WX.ld (by kernel_rfl) hS rfl rfl (fun w' hw => cell w' hw 2 c rfl) rfl ?_ | refine WX.cv (by kernel_rfl) (by first | trivial | assumption) rfl rfl (wrap_u64 (by omega)) rfl ?_)
  refine WX.bo (by kernel_rfl) hS rfl rfl (fun w => shl64 (a := c.toNat) (n := 16) (by omega) (by omega) _ w) rfl ?_
  obtain ⟨A2, hA2⟩ : ∃ A, A = A1 ||| c.toNat * 2 ^ 16 := ⟨_, rfl⟩
  have eA2 : A2 = A1 + c.toNat * 2 ^ 16 := by rw [hA2]; exact or_shl (by simp only [Nat.reducePow] at *; omega)
  refine WX.bo (v := UW A2) (by kernel_rfl) hS rfl rfl (fun w => by rw [hA2]; exact or64 (by simp only [Nat.reducePow] at *; omega) (by simp only [Nat.reducePow] at *; omega) _ w) rfl ?_
  repeat (first | refine WX.p (by kernel_rfl) (by first | trivial | assumption) rfl ?_ | refine WX.ix (i := 3) (by kernel_rfl) hS rfl rfl rfl (by omega) rfl ?_ | refine WX.ld (by kernel_rfl) hS rfl rfl (fun w' hw => cell w' hw 3 d rfl) rfl ?_ | refine WX.cv (by kernel_rfl) (by first | trivial | assumption) rfl rfl (wrap_u64 (by omega)) rfl ?_)
  refine WX.bo (by kernel_rfl) hS rfl rfl (fun w => shl64 (a := d.toNat) (n := 24) (by omega) (by omega) _ w) rfl ?_
  obtain ⟨A3, hA3⟩ : ∃ A, A = A2 ||| d.toNat * 2 ^ 24 := ⟨_, rfl⟩
  have eA3 : A3 = A2 + d.toNat * 2 ^ 24 := by rw [hA3]; exact or_shl (by simp only [Nat.reducePow] at *; omega)
  refine WX.bo (v := UW A3) (by kernel_rfl) hS rfl rfl (fun w => by rw [hA3]; exact or64 (by simp only [Nat.reducePow] at *; omega) (by simp only [Nat.reducePow] at *; omega) _ w) rfl ?_
  repeat (first | refine WX.p (by kernel_rfl) (by first | trivial | assumption) rfl ?_ | refine WX.ix (i := 4) (by kernel_rfl) hS rfl rfl rfl (by omega) rfl ?_ | refine WX.ld (by kernel_rfl) hS rfl rfl (fun w' hw => cell w' hw 4 e rfl) rfl ?_ | refine WX.cv (by kernel_rfl) (by first | trivial | assumption) rfl rfl (wrap_u64 (by omega)) rfl ?_)
  refine WX.bo (by kernel_rfl) hS rfl rfl (fun w => shl64 (a := e.toNat) (n := 32) (by omega) (by omega) _ w) rfl ?_
  obtain ⟨A4, hA4⟩ : ∃ A, A = A3 ||| e.toNat * 2 ^ 32 := ⟨_, rfl⟩
  have eA4 : A4 = A3 + e.toNat * 2 ^ 32 := by rw [hA4]; exact or_shl (by simp only [Nat.reducePow] at *; omega)
  refine WX.bo (v := UW A4) (by kernel_rfl) hS rfl rfl (fun w => by rw [hA4]; exact or64 (by simp only [Nat.reducePow] at *; omega) (by simp only [Nat.reducePow] at *; omega) _ w) rfl ?_
  repeat (first | refine WX.p (by kernel_rfl) (by first | trivial | assumption) rfl ?_ | refine WX.ix (i := 5) (by kernel_rfl) hS rfl rfl rfl (by omega) rfl ?_ | refine WX.ld (by kernel_rfl) hS rfl rfl (fun w' hw => cell w' hw 5 f rfl) rfl ?_ | refine WX.cv (by kernel_rfl) (by first | trivial | assumption) rfl rfl (wrap_u64 (by omega)) rfl ?_)
  refine WX.bo (by kernel_rfl) hS rfl rfl (fun w => shl64 (a := f.toNat) (n := 40) (by omega) (by omega) _ w) rfl ?_
  obtain ⟨A5, hA5⟩ : ∃ A, A = A4 ||| f.toNat * 2 ^ 40 := ⟨_, rfl⟩
  have eA5 : A5 = A4 + f.toNat * 2 ^ 40 := by rw [hA5]; exact or_shl (by simp only [Nat.reducePow] at *; omega)
  refine WX.bo (v := UW A5) (by kernel_rfl) hS rfl rfl (fun w => by rw [hA5]; exact or64 (by simp only [Nat.reducePow] at *; omega) (by simp only [Nat.reducePow] at *; omega) _ w) rfl ?_
  repeat (first | refine WX.p (by kernel_rfl) (by first | trivial | assumption) rfl ?_ | refine WX.ix (i := 6) (by kernel_rfl) hS rfl rfl rfl (by omega) rfl ?_ | refine WX.ld (by kernel_rfl) hS rfl rfl (fun w' hw => cell w' hw 6 g rfl) rfl ?_ | refine WX.cv (by kernel_rfl) (by first | trivial | assumption) rfl rfl (wrap_u64 (by omega)) rfl ?_)
  refine WX.bo (by kernel_rfl) hS rfl rfl (fun w => shl64 (a := g.toNat) (n := 48) (by omega) (by omega) _ w) rfl ?_
  obtain ⟨A6, hA6⟩ : ∃ A, A = A5 ||| g.toNat * 2 ^ 48 := ⟨_, rfl⟩
  have eA6 : A6 = A5 + g.toNat * 2 ^ 48 := by rw [hA6]; exact or_shl (by simp only [Nat.reducePow] at *; omega)
  refine WX.bo (v := UW A6) (by kernel_rfl) hS rfl rfl (fun w => by rw [hA6]; exact or64 (by simp only [Nat.reducePow] at *; omega) (by simp only [Nat.reducePow] at *; omega) _ w) rfl ?_
  repeat (first | refine WX.p (by kernel_rfl) (by first | trivial | assumption) rfl ?_ | refine WX.ix (i := 7) (by kernel_rfl) hS rfl rfl rfl (by omega) rfl ?_ | refine WX.ld (by kernel_rfl) hS rfl rfl (fun w' hw => cell w' hw 7 h rfl) rfl ?_ | refine WX.cv (by kernel_rfl) (by first | trivial | assumption) rfl rfl (wrap_u64 (by omega)) rfl ?_)
  refine WX.bo (by kernel_rfl) hS rfl rfl (fun w => shl64 (a := h.toNat) (n := 56) (by omega) (by omega) _ w) rfl ?_
  obtain ⟨A7, hA7⟩ : ∃ A, A = A6 ||| h.toNat * 2 ^ 56 := ⟨_, rfl⟩
  have eA7 : A7 = A6 + h.toNat * 2 ^ 56 := by rw [hA7]; exact or_shl (by simp only [Nat.reducePow] at *; omega)
  refine WX.bo (v := UW A7) (by kernel_rfl) hS rfl rfl (fun w => by rw [hA7]; exact or64 (by simp only [Nat.reducePow] at *; omega) (by simp only [Nat.reducePow] at *; omega) _ w) rfl ?_
  repeat (refine WX.p (by kernel_rfl) (by first | trivial | assumption) rfl ?_)
  refine WX.nil ?_
  repeat (first | refine X.sn ?_ | refine WC.ret ?_)
  refine X.ret_ rfl rfl ⟨?_, (Sm.refl _).drew⟩
  have : A7 = le8 a b c d e f g h := by
    unfold le8 n8
    simp only [Nat.reducePow] at *
    omega
  rw [this]; rfl
end Go.Proofs.YtaccphdkapmdhaaGreat

