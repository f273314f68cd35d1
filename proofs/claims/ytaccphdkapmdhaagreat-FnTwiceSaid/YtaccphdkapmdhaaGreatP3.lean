/- The steps of the walks: lists of operations, code, loops, calls, memory. More steps: slices, structs, new rows, regions whose order is open. No condition. -/
import Derived.Test.YtaccphdkapmdhaaGreatP2
import Derived.Laws.NewBlocks
namespace Go.Proofs.YtaccphdkapmdhaaGreat

/-! ### Memory -/
def tag : Obj → Nat
  | .cells _ t _ => t
  | .map _ _ => 1000
  | .stringIter _ _ => 1001
  | _ => 1002

/-- Below block B nothing has turned; nor has any block whose tag is not in T. -/
structure Fm (B : Nat) (T : List Nat) (w w' : World) : Prop where
  os : w'.os = w.os
  tape : w'.tape = w.tape
  output : w'.output = w.output
  size : w.heap.size ≤ w'.heap.size
  old : ∀ (k : Nat), k < B → w'.heap[k]? = w.heap[k]?
  keep : ∀ (k : Nat) (o : Obj), w.heap[k]? = some o → tag o ∉ T → w'.heap[k]? = some o
  tags : ∀ (k : Nat) (o : Obj), w.heap[k]? = some o → ∃ o' : Obj, w'.heap[k]? = some o' ∧ tag o' = tag o

theorem Fm.refl (B : Nat) (T : List Nat) (w : World) : Fm B T w w := ⟨rfl, rfl, rfl, Nat.le_refl _, fun _ _ => rfl, fun _ _ h _ => h, fun _ o h => ⟨o, h, rfl⟩⟩

theorem Fm.trans {B T w1 w2 w3} (h : Fm B T w1 w2) (g : Fm B T w2 w3) : Fm B T w1 w3 :=
  ⟨g.os.trans h.os, g.tape.trans h.tape, g.output.trans h.output, Nat.le_trans h.size g.size, fun k hk => (g.old k hk).trans (h.old k hk),
    fun k o ho ht => g.keep k o (h.keep k o ho ht) ht,
    fun k o ho => let ⟨o', h1, h2⟩ := h.tags k o ho; let ⟨o'', h3, h4⟩ := g.tags k o' h1; ⟨o'', h3, h4.trans h2⟩⟩

theorem Fm.mono {B B' T T' w w'} (h : Fm B T w w') (hB : B' ≤ B) (hT : ∀ t, t ∈ T → t ∈ T') : Fm B' T' w w' :=
  ⟨h.os, h.tape, h.output, h.size, fun k hk => h.old k (by omega), fun k o ho ht => h.keep k o ho (fun h' => ht (hT _ h')), h.tags⟩

theorem Fm.drew {B T w w'} (h : Fm B T w w') : Fm B T w w'.drew := ⟨h.os, h.tape, h.output, h.size, h.old, h.keep, h.tags⟩
theorem Fm.of_drew {B T w w'} (h : Fm B T w.drew w') : Fm B T w w' := ⟨h.os, h.tape, h.output, h.size, h.old, h.keep, h.tags⟩

/-- Block b holds o now; all else is as it was. -/
structure St (w : World) (b : Nat) (o : Obj) (w' : World) : Prop where
  os : w'.os = w.os
  tape : w'.tape = w.tape
  output : w'.output = w.output
  size : w'.heap.size = w.heap.size
  at_ : w'.heap[b]? = some o
  oth : ∀ (k : Nat), k ≠ b → w'.heap[k]? = w.heap[k]?

/-- A new block. -/
structure Al (w : World) (o : Obj) (w' : World) : Prop where
  os : w'.os = w.os
  tape : w'.tape = w.tape
  output : w'.output = w.output
  size : w'.heap.size = w.heap.size + 1
  at_ : w'.heap[w.heap.size]? = some o
  oth : ∀ (k : Nat), k < w.heap.size → w'.heap[k]? = w.heap[k]?

theorem lt_of_heap {w : World} {k : Nat} {o : Obj} (h : w.heap[k]? = some o) : k < w.heap.size := (Array.getElem?_eq_some_iff.1 h).1

theorem St.fm {B T w b o o0 w'} (h : St w b o w') (h0 : w.heap[b]? = some o0) (hB : B ≤ b) (ht : tag o0 ∈ T) (hto : tag o = tag o0) : Fm B T w w' :=
  ⟨h.os, h.tape, h.output, by rw [h.size]; exact Nat.le_refl _, fun k hk => h.oth k (by omega),
    fun k o' ho hn => by
      by_cases e : k = b
      · subst e; rw [h0] at ho; cases ho; exact absurd ht hn
      · rw [h.oth k e]; exact ho,
    fun k o' ho => by
      by_cases e : k = b
      · subst e; rw [h0] at ho; cases ho; exact ⟨o, h.at_, hto⟩
      · exact ⟨o', by rw [h.oth k e]; exact ho, rfl⟩⟩

theorem Al.fm {B T w o w'} (h : Al w o w') (hB : B ≤ w.heap.size) : Fm B T w w' :=
  ⟨h.os, h.tape, h.output, by rw [h.size]; omega, fun k hk => h.oth k (by omega),
    fun k o' ho _ => by rw [h.oth k (lt_of_heap ho)]; exact ho,
    fun k o' ho => ⟨o', by rw [h.oth k (lt_of_heap ho)]; exact ho, rfl⟩⟩

theorem Al.keep {w o w'} (h : Al w o w') {k : Nat} {o' : Obj} (ho : w.heap[k]? = some o') : w'.heap[k]? = some o' := by
  rw [h.oth k (lt_of_heap ho)]; exact ho
theorem St.keep {w b o w'} (h : St w b o w') {k : Nat} {o' : Obj} (ho : w.heap[k]? = some o') (hne : k ≠ b) : w'.heap[k]? = some o' := by
  rw [h.oth k hne]; exact ho

theorem cell_of {w : World} {b i : Nat} {c : Array Value} {t : TypeId} {fz : Nat × Nat} {v : Value} (hb : w.heap[b]? = some (.cells c t fz)) (hi : c[i]? = some v) :
    w.cell? ⟨b, i, none⟩ = some v := by
  simp [World.cell?, hb, hi]

theorem setCell_st {w : World} {b i : Nat} {c : Array Value} {t : TypeId} {fz : Nat × Nat} (v : Value) (hb : w.heap[b]? = some (.cells c t fz)) :
    St w b (.cells (c.setIfInBounds i v) t fz) (w.setCell ⟨b, i, none⟩ v) := by
  refine ⟨rfl, rfl, rfl, by simp, ?_, ?_⟩
  · simp [World.setCell, Array.getElem?_modify, hb]
  · intro k hk
    simp only [World.setCell, Array.getElem?_modify]
    rw [if_neg (fun e => hk e.symm)]

theorem alloc_al (w : World) (o : Obj) : Al w o (w.alloc o) :=
  ⟨rfl, rfl, rfl, by simp, by show (w.heap.push o)[w.heap.size]? = _; simp, fun k hk => by
    show (w.heap.push o)[k]? = _
    rw [Array.getElem?_push, if_neg (by omega)]⟩

/-! ### The judgements -/
def WL (all : List Oper) (Q : Exit → Act → World → Prop) (N : Nat) (L : Env) (l : List Oper) (w : World) : Prop := ∀ a, Fr N L a → wpList PP all.toArray Q l a w
def WC (Q : Exit → Act → World → Prop) (N : Nat) (L : Env) (c : Code) (w : World) : Prop := ∀ a, Fr N L a → c.wp PP Q a w
def X (e : Exit) (Q : Exit → Act → World → Prop) (N : Nat) (L : Env) (w : World) : Prop := ∀ a, Fr N L a → Q e a w

section steps
variable {all : List Oper} {Q : Exit → Act → World → Prop} {N : Nat} {L L' : Env} {o : Oper} {rest : List Oper} {w : World}

theorem WL.weaken (L' : Env) (ha : Agree L' L) (k : WL all Q N L' rest w) : WL all Q N L rest w := fun a hf => k a (hf.weaken ha)
theorem WC.weaken {c : Code} (L' : Env) (ha : Agree L' L) (k : WC Q N L' c w) : WC Q N L c w := fun a hf => k a (hf.weaken ha)
theorem X.weaken {e : Exit} (L' : Env) (ha : Agree L' L) (k : X e Q N L' w) : X e Q N L w := fun a hf => k a (hf.weaken ha)

theorem WL.of_run {v : Value} {w' : World} (hg : grd all L o = some true) (hr : ∀ a, Fr N L a → (execOp a.eval o).run PP w = .ok (.value v) w')
    (hd : dstE N o v L = some L') (k : WL all Q N L' rest w') : WL all Q N L (o :: rest) w := fun a hf => by
  refine wpList_step fun K hK => ?_
  rw [if_pos (grd_ok hf hg)]
  unfold Oper.wp
  rw [hr a hf]
  exact hK _ _ (k _ (dstE_ok hf hd))

theorem WL.of_skip {w' : World} (hg : grd all L o = some true) (hr : ∀ a, Fr N L a → (execOp a.eval o).run PP w = .ok .skip w')
    (hd : dstE N o undef L = some L') (k : WL all Q N L' rest w') : WL all Q N L (o :: rest) w := fun a hf => by
  refine wpList_step fun K hK => ?_
  rw [if_pos (grd_ok hf hg)]
  unfold Oper.wp
  rw [hr a hf]
  exact hK _ _ (k _ (dstE_ok hf hd))

def stepP (N : Nat) (all : List Oper) (L : Env) (o : Oper) : Option Env :=
  match grd all L o with
  | some true => match pure1 L o.op with
    | some v => dstE N o v L
    | none => none
  | some false => dstE N o undef L
  | none => none

/-- A quiet operation, or one that is passed over. -/
theorem WL.p (h : stepP N all L o = some L') (k : WL all Q N L' rest w) : WL all Q N L (o :: rest) w := by
  unfold stepP at h
  split at h
  · rename_i hg
    split at h
    · rename_i v hv
      exact WL.of_run hg (fun a hf => pure1_run hf hv w) h k
    · cases h
  · rename_i hg
    intro a hf
    refine wpList_step fun K hK => ?_
    rw [if_neg (by rw [grd_ok hf hg]; simp)]
    exact hK _ _ (k _ (dstE_ok hf h))
  · cases h

def plainOp (o : Oper) : Bool :=
  match o.guard with
  | none => match o.op with
    | .pick .. => false
    | _ => true
  | some _ => false

/-- All the quiet operations in a row. -/
def runP (N : Nat) (all : List Oper) : Env → List Oper → Env × List Oper
  | L, [] => (L, [])
  | L, o :: rest => cond (plainOp o) (match stepP N all L o with
    | some L' => runP N all L' rest
    | none => (L, o :: rest)) (L, o :: rest)

def runP1 (N : Nat) (all : List Oper) (L : Env) : List Oper → Option (Env × List Oper)
  | [] => none
  | o :: rest => cond (plainOp o) (match stepP N all L o with
    | some L' => some (runP N all L' rest)
    | none => none) none

theorem WL.of_runP : ∀ (l : List Oper) (L : Env), WL all Q N (runP N all L l).1 (runP N all L l).2 w → WL all Q N L l w
  | [], L, k => k
  | o :: rest, L, k => by
    simp only [runP] at k
    cases hp : plainOp o with
    | false => simpa [hp] using k
    | true =>
      simp only [hp, cond_true] at k
      cases hs : stepP N all L o with
      | none => simpa [hs] using k
      | some L' =>
        simp only [hs] at k
        exact WL.p hs (WL.of_runP rest L' k)

theorem WL.pp {l' : List Oper} (h : runP1 N all L (o :: rest) = some (L', l')) (k : WL all Q N L' l' w) : WL all Q N L (o :: rest) w := by
  simp only [runP1] at h
  cases hp : plainOp o with
  | false => simp [hp] at h
  | true =>
    simp only [hp, cond_true] at h
    cases hs : stepP N all L o with
    | none => simp [hs] at h
    | some L1 =>
      simp only [hs, Option.some.injEq] at h
      refine WL.p hs (WL.of_runP rest L1 ?_)
      rw [h]; exact k

/-- The list is at its end. -/
theorem WL.nil (k : X .normal Q N L w) : WL all Q N L [] w := fun a hf => wpList_nil (k a hf)

/-- Which slot the guard of the operation looks at. -/
def gslot (all : List Oper) (o : Oper) : Option Nat :=
  match o.guard with
  | some (j, _) => match all[j]? with
    | some oj => oj.dst
    | none => none
  | none => none

theorem Fr.known {N L a t b} (h : Fr N L a) (hl : look L t = some (.bool b)) : Fr N ((t, .bool b) :: L) a :=
  ⟨h.size, h.defers, fun u v hu => by
    simp only [look] at hu
    cases hb : Nat.beq t u with
    | true =>
      have : t = u := by simpa using hb
      simp only [hb, cond_true, Option.some.injEq] at hu
      subst this; subst hu; exact h.get _ _ hl
    | false => simp only [hb, cond_false] at hu; exact h.get _ _ hu⟩

theorem WL.gs {d : Nat} {b : Bool} (hs : gslot all o = some d) (hl : look L d = some (.bool b))
    (kt : b = true → WL all Q N ((d, .bool true) :: L) (o :: rest) w) (kf : b = false → WL all Q N ((d, .bool false) :: L) (o :: rest) w) : WL all Q N L (o :: rest) w := by
  cases b with
  | true => exact fun a hf => kt rfl a (hf.known hl)
  | false => exact fun a hf => kf rfl a (hf.known hl)

theorem WL.gD {d : Nat} {p : Prop} [Decidable p] (hs : gslot all o = some d) (hl : look L d = some (.bool (dc p)))
    (kt : p → WL all Q N ((d, .bool true) :: L) (o :: rest) w) (kf : ¬ p → WL all Q N ((d, .bool false) :: L) (o :: rest) w) : WL all Q N L (o :: rest) w :=
  WL.gs hs hl (fun h => kt (dc_true h)) (fun h => kf (dc_false h))
theorem WL.gT {d : Nat} {p : Prop} [Decidable p] (hs : gslot all o = some d) (hl : look L d = some (.bool (dc p))) (hp : p)
    (kt : WL all Q N ((d, .bool true) :: L) (o :: rest) w) : WL all Q N L (o :: rest) w := WL.gD hs hl (fun _ => kt) (fun h => absurd hp h)
theorem WL.gF {d : Nat} {p : Prop} [Decidable p] (hs : gslot all o = some d) (hl : look L d = some (.bool (dc p))) (hp : ¬ p)
    (kf : WL all Q N ((d, .bool false) :: L) (o :: rest) w) : WL all Q N L (o :: rest) w := WL.gD hs hl (fun h => absurd h hp) (fun _ => kf)

/-! Arithmetic whose bounds are known -/
def arA (L : Env) (op : Op) : Option (BinOp × IntKind × Int × Int) :=
  match op with
  | .binOp bop _ x y _ => match ev L x, ev L y with
    | some (.int k a), some (.int k' b) => cond (decide (k = k')) (match bop with
      | .add => some (.add, k, a, b) | .sub => some (.sub, k, a, b) | .mul => some (.mul, k, a, b) | _ => none) none
    | _, _ => none
  | _ => none

def arV : BinOp → Int → Int → Int
  | .add, a, b => a + b
  | .sub, a, b => a - b
  | .mul, a, b => a * b
  | _, _, _ => 0

theorem arA_run {N : Nat} {L : Env} {a : Act} {bop k x y} (hf : Fr N L a) (h : arA L o.op = some (bop, k, x, y)) (w : World) :
    (execOp a.eval o).run PP w = .ok (.value (.int k (k.wrap (arV bop x y)))) w := by
  obtain ⟨dst, op, ty, pos, after, guard⟩ := o
  simp only at h
  unfold arA at h
  split at h
  · rename_i b2 t ox oy t2
    split at h
    · rename_i k1 a1 k2 b1 hx hy
      by_cases hk : k1 = k2
      · subst hk
        simp only [decide_true, cond_true] at h
        simp only [execOp, hf.eval hx, hf.eval hy, Sem.run_bind, eqGuard_int, Result.andThen_ok]
        split at h <;> first
          | (cases h; done)
          | (simp only [Option.some.injEq, Prod.mk.injEq] at h; obtain ⟨rfl, rfl, rfl, rfl⟩ := h; simp [binOp, Op.intArith, arV])
      · simp [hk] at h
    · cases h
  · cases h

theorem wrap_i64 {n : Int} (h : -9223372036854775808 ≤ n ∧ n ≤ 9223372036854775807) : IntKind.i64.wrap n = n := by
  have e : IntKind.i64.wrap n = (if n % 18446744073709551616 ≥ 9223372036854775808 then n % 18446744073709551616 - 18446744073709551616 else n % 18446744073709551616) := by
    simp [IntKind.wrap, IntKind.bits, IntKind.signed]
  rw [e]; split <;> omega
theorem wrap_i32 {n : Int} (h : -2147483648 ≤ n ∧ n ≤ 2147483647) : IntKind.i32.wrap n = n := by
  have e : IntKind.i32.wrap n = (if n % 4294967296 ≥ 2147483648 then n % 4294967296 - 4294967296 else n % 4294967296) := by
    simp [IntKind.wrap, IntKind.bits, IntKind.signed]
  rw [e]; split <;> omega
theorem wrap_u32 {n : Int} (h : 0 ≤ n ∧ n ≤ 4294967295) : IntKind.u32.wrap n = n := by
  have e : IntKind.u32.wrap n = n % 4294967296 := by
    simp [IntKind.wrap, IntKind.bits, IntKind.signed]
  rw [e]; omega
theorem wrap_u8 {n : Int} (h : 0 ≤ n ∧ n ≤ 255) : IntKind.u8.wrap n = n := by
  have e : IntKind.u8.wrap n = n % 256 := by
    simp [IntKind.wrap, IntKind.bits, IntKind.signed]
  rw [e]; omega
theorem wrap_u64 {n : Int} (h : 0 ≤ n ∧ n ≤ 18446744073709551615) : IntKind.u64.wrap n = n := by
  have e : IntKind.u64.wrap n = n % 18446744073709551616 := by
    simp [IntKind.wrap, IntKind.bits, IntKind.signed]
  rw [e]; omega

/-- i64 arithmetic that does not overflow. -/
theorem WL.a {bop x y} (hg : grd all L o = some true) (h : arA L o.op = some (bop, .i64, x, y)) (hb : -9223372036854775808 ≤ arV bop x y ∧ arV bop x y ≤ 9223372036854775807)
    (hd : dstE N o (.int .i64 (arV bop x y)) L = some L') (k : WL all Q N L' rest w) : WL all Q N L (o :: rest) w :=
  WL.of_run hg (fun a hf => by rw [arA_run hf h w, wrap_i64 hb]) hd k
theorem WL.a32 {bop x y} (hg : grd all L o = some true) (h : arA L o.op = some (bop, .i32, x, y)) (hb : -2147483648 ≤ arV bop x y ∧ arV bop x y ≤ 2147483647)
    (hd : dstE N o (.int .i32 (arV bop x y)) L = some L') (k : WL all Q N L' rest w) : WL all Q N L (o :: rest) w :=
  WL.of_run hg (fun a hf => by rw [arA_run hf h w, wrap_i32 hb]) hd k
theorem WL.ad {x y : Int} (hg : grd all L o = some true) (h : arA L o.op = some (.add, .i64, x, y)) (hb : -9223372036854775808 ≤ x + y ∧ x + y ≤ 9223372036854775807)
    (hd : dstE N o (.int .i64 (x + y)) L = some L') (k : WL all Q N L' rest w) : WL all Q N L (o :: rest) w := WL.a hg h hb hd k
theorem WL.ad32 {x y : Int} (hg : grd all L o = some true) (h : arA L o.op = some (.add, .i32, x, y)) (hb : -2147483648 ≤ x + y ∧ x + y ≤ 2147483647)
    (hd : dstE N o (.int .i32 (x + y)) L = some L') (k : WL all Q N L' rest w) : WL all Q N L (o :: rest) w := WL.a32 hg h hb hd k
theorem WL.su {x y : Int} (hg : grd all L o = some true) (h : arA L o.op = some (.sub, .i64, x, y)) (hb : -9223372036854775808 ≤ x - y ∧ x - y ≤ 9223372036854775807)
    (hd : dstE N o (.int .i64 (x - y)) L = some L') (k : WL all Q N L' rest w) : WL all Q N L (o :: rest) w := WL.a hg h hb hd k
theorem WL.su32 {x y : Int} (hg : grd all L o = some true) (h : arA L o.op = some (.sub, .i32, x, y)) (hb : -2147483648 ≤ x - y ∧ x - y ≤ 2147483647)
    (hd : dstE N o (.int .i32 (x - y)) L = some L') (k : WL all Q N L' rest w) : WL all Q N L (o :: rest) w := WL.a32 hg h hb hd k
theorem WL.mu {x y : Int} (hg : grd all L o = some true) (h : arA L o.op = some (.mul, .i64, x, y)) (hb : -9223372036854775808 ≤ x * y ∧ x * y ≤ 9223372036854775807)
    (hd : dstE N o (.int .i64 (x * y)) L = some L') (k : WL all Q N L' rest w) : WL all Q N L (o :: rest) w := WL.a hg h hb hd k
theorem WL.mu32 {x y : Int} (hg : grd all L o = some true) (h : arA L o.op = some (.mul, .i32, x, y)) (hb : -2147483648 ≤ x * y ∧ x * y ≤ 2147483647)
    (hd : dstE N o (.int .i32 (x * y)) L = some L') (k : WL all Q N L' rest w) : WL all Q N L (o :: rest) w := WL.a32 hg h hb hd k
/-- Arithmetic of whatever kind, with its wrap. -/
theorem WL.aw {bop kd x y} (hg : grd all L o = some true) (h : arA L o.op = some (bop, kd, x, y))
    (hd : dstE N o (.int kd (kd.wrap (arV bop x y))) L = some L') (k : WL all Q N L' rest w) : WL all Q N L (o :: rest) w :=
  WL.of_run hg (fun a hf => arA_run hf h w) hd k

/-! Conversions between kinds of whole numbers -/
def cvA (L : Env) (op : Op) : Option (IntKind × Int) :=
  match op with
  | .convert src dst x => match kindOf src, kindOf dst, ev L x with
    | some _, some k, some (.int _ n) => some (k, n)
    | _, _, _ => none
  | _ => none

theorem cvA_run {N : Nat} {L : Env} {a : Act} {k n} (hf : Fr N L a) (h : cvA L o.op = some (k, n)) (w : World) : (execOp a.eval o).run PP w = .ok (.value (.int k (k.wrap n))) w := by
  obtain ⟨dst, op, ty, pos, after, guard⟩ := o
  simp only at h
  unfold cvA at h
  split at h
  · rename_i src dst' x
    split at h
    · rename_i ks kd k' n' hks hkd hx
      simp only [Option.some.injEq, Prod.mk.injEq] at h
      obtain ⟨rfl, rfl⟩ := h
      simp [execOp, convert, hf.eval hx, run_underlying (kind_underlying hks), run_underlying (kind_underlying hkd), Conv.intToInt]
    · cases h
  · cases h

theorem WL.cv {kd : IntKind} {n : Int} (hg : grd all L o = some true) (h : cvA L o.op = some (kd, n)) (hw : kd.wrap n = n)
    (hd : dstE N o (.int kd n) L = some L') (k : WL all Q N L' rest w) : WL all Q N L (o :: rest) w :=
  WL.of_run hg (fun a hf => by rw [cvA_run hf h w, hw]) hd k
theorem WL.cw {kd : IntKind} {n : Int} (hg : grd all L o = some true) (h : cvA L o.op = some (kd, n))
    (hd : dstE N o (.int kd (kd.wrap n)) L = some L') (k : WL all Q N L' rest w) : WL all Q N L (o :: rest) w :=
  WL.of_run hg (fun a hf => cvA_run hf h w) hd k

/-! Loads -/
def ldA (L : Env) (op : Op) : Option Addr :=
  match op with
  | .load t x => cond (oneT t) (match ev L x with
    | some (.pointer (some a)) => some a
    | _ => none) none
  | _ => none

theorem ldA_run {N : Nat} {L : Env} {a : Act} {ad : Addr} {v : Value} (hf : Fr N L a) (h : ldA L o.op = some ad) (hc : w.cell? ad = some v) :
    (execOp a.eval o).run PP w = .ok (.value v) w := by
  obtain ⟨dst, op, ty, pos, after, guard⟩ := o
  simp only at h
  unfold ldA at h
  split at h
  · rename_i t x
    cases ht : oneT t with
    | false => simp [ht] at h
    | true =>
      simp only [ht, cond_true] at h
      split at h
      · rename_i a' hx
        simp only [Option.some.injEq] at h; subst h
        simp [execOp, hf.eval hx, Instr.loadAt, Instr.sureAddr, loadVar, isAgg_one ht, hc]
      · cases h
  · cases h

theorem WL.ld {ad : Addr} {v : Value} (hg : grd all L o = some true) (h : ldA L o.op = some ad) (hc : w.cell? ad = some v)
    (hd : dstE N o v L = some L') (k : WL all Q N L' rest w) : WL all Q N L (o :: rest) w :=
  WL.of_run hg (fun a hf => ldA_run hf h hc) hd k

/-- A load out of a block that is known. -/
theorem WL.ldB {b i : Nat} {c : Array Value} {t : TypeId} {fz : Nat × Nat} {v : Value} (hg : grd all L o = some true) (h : ldA L o.op = some ⟨b, i, none⟩) (hb : w.heap[b]? = some (.cells c t fz)) (hi : c[i]? = some v)
    (hd : dstE N o v L = some L') (k : WL all Q N L' rest w) : WL all Q N L (o :: rest) w := WL.ld hg h (cell_of hb hi) hd k

/-! The address of an element -/
def ixA (L : Env) (op : Op) : Option (Nat × Nat × Nat × Nat × Int) :=
  match op with
  | .indexAddr t x i => match elemSize t, ev L x, ev L i with
    | some n, some (.slice (some ⟨b, o, none⟩) len _), some (.int _ j) => some (n, b, o, len, j)
    | _, _, _ => none
  | _ => none

theorem ixA_run {N : Nat} {L : Env} {a : Act} {n b ofs len : Nat} {j : Int} (hf : Fr N L a) (h : ixA L o.op = some (n, b, ofs, len, j)) (h0 : 0 ≤ j) (h1 : j < (len : Int)) (w : World) :
    (execOp a.eval o).run PP w = .ok (.value (.pointer (some ⟨b, ofs + j.toNat * n, none⟩))) w := by
  obtain ⟨dst, op, ty, pos, after, guard⟩ := o
  simp only at h
  unfold ixA at h
  split at h
  · rename_i t x i
    split at h
    · rename_i n' b' o' len' cap' kk j' hn hx hi
      simp only [Option.some.injEq, Prod.mk.injEq] at h
      obtain ⟨rfl, rfl, rfl, rfl, rfl⟩ := h
      simp [execOp, hf.eval hx, hf.eval hi, indexAt_run hn b' o' len' cap' kk j' h0 h1 w]
    · cases h
  · cases h

theorem WL.ix {n b ofs len : Nat} {j : Int} {i : Nat} (hg : grd all L o = some true) (h : ixA L o.op = some (n, b, ofs, len, j)) (hj : j = (i : Int)) (hi : i < len)
    (hd : dstE N o (.pointer (some ⟨b, ofs + i * n, none⟩)) L = some L') (k : WL all Q N L' rest w) : WL all Q N L (o :: rest) w := by
  subst hj
  exact WL.of_run hg (fun a hf => by have := ixA_run hf h (by omega) (by omega) w; simpa using this) hd k

/-! Stores of one cell -/
def stA (L : Env) (op : Op) : Option (Addr × Value) :=
  match op with
  | .store t x y => cond (oneT t) (match ev L x, ev L y with
    | some (.pointer (some a)), some v => some (a, v)
    | _, _ => none) none
  | _ => none

def oneV : Value → Bool
  | .agg _ | .tuple _ => false
  | _ => true

theorem stA_run {N : Nat} {L : Env} {a : Act} {b i : Nat} {v u : Value} {c : Array Value} {t : TypeId} (hf : Fr N L a) (h : stA L o.op = some (⟨b, i, none⟩, v))
    (hv : oneV v = true) (hb : w.heap[b]? = some (.cells c t (0, 0))) (hi : c[i]? = some u) :
    (execOp a.eval o).run PP w = .ok .skip (w.setCell ⟨b, i, none⟩ v) := by
  obtain ⟨dst, op, ty, pos, after, guard⟩ := o
  simp only at h
  unfold stA at h
  split at h
  · rename_i t' x y
    cases ht : oneT t' with
    | false => simp [ht] at h
    | true =>
      simp only [ht, cond_true] at h
      split at h
      · rename_i a' v' hx hy
        simp only [Option.some.injEq, Prod.mk.injEq] at h
        obtain ⟨rfl, rfl⟩ := h
        have hcell := cell_of hb hi
        have hfr : w.frozen? ⟨b, i, none⟩ = false := by simp [World.frozen?, hb]
        have hcs : v'.cells = #[v'] := by cases v' <;> first | rfl | (simp [oneV] at hv)
        have h1 : v'.oneCell' = true := by cases v' <;> first | rfl | (simp [oneV] at hv)
        have hst := run_store PP w ⟨b, i, none⟩ v' .plain h1
        rw [hcell] at hst
        simp only [hfr] at hst
        have ha : (⟨b, i, none⟩ : Addr).add 0 = ⟨b, i, none⟩ := rfl
        simp [execOp, hf.eval hx, hf.eval hy, Instr.storeAt, Instr.sureAddr, storeVar, hcs, sizeOf_one ht, storeCells, ha, hst]
      · cases h
  · cases h

theorem WL.stB {b i : Nat} {v u : Value} {c : Array Value} {t : TypeId} (hg : grd all L o = some true) (h : stA L o.op = some (⟨b, i, none⟩, v)) (hv : oneV v = true)
    (hb : w.heap[b]? = some (.cells c t (0, 0))) (hi : c[i]? = some u) (hd : dstE N o undef L = some L')
    (k : ∀ w', St w b (.cells (c.setIfInBounds i v) t (0, 0)) w' → WL all Q N L' rest w') : WL all Q N L (o :: rest) w :=
  WL.of_skip hg (fun a hf => stA_run hf h hv hb hi) hd (k _ (setCell_st v hb))

/-! New blocks -/
def zeroE : Nat → Option (List Value)
  | 21 => some [.int .i32 0]
  | 3 => some [.int .i64 0]
  | 9 => some [.string ⟨#[]⟩]
  | 23 => some [.slice none 0 0]
  | 34 => some [.slice none 0 0]
  | 37 => some [.int .i64 0, .string ⟨#[]⟩, .slice none 0 0, .slice none 0 0]
  | 40 => some [.int .i64 0, .slice none 0 0, .int .i64 0, .string ⟨#[]⟩, .slice none 0 0, .slice none 0 0]
  | 52 => some [.bool false, .slice none 0 0, .slice none 0 0, .slice none 0 0, .nilIface, .int .i64 0]
  | 59 => some [.slice none 0 0, .int .i32 0, .slice none 0 0, .slice none 0 0]
  | 101 => some [.int .u32 0, .int .u32 0]
  | 129 => some [.int .i64 0, .string ⟨#[]⟩, .slice none 0 0, .slice none 0 0]
  | 132 => some [.int .i64 0, .slice none 0 0, .int .i64 0, .string ⟨#[]⟩, .slice none 0 0, .slice none 0 0]
  | 145 => some [.int .i32 0, .int .u8 0, .bool false, .slice none 0 0]
  | 147 => some [.bool false, .pointer none]
  | _ => none

noncomputable def zeroRun (t : Nat) : Option (List Value) := match PP.info? t with
  | some i => i.zero.map fun v => v.cells.toList
  | none => none

theorem zeroE_all : ∀ t l, zeroE t = some l → zeroRun t = some l := by
  intro t l h
  unfold zeroE at h
  split at h <;> first
    | (cases h; done)
    | (simp only [Option.some.injEq] at h; subst h; kernel_rfl)

theorem zero_run {t : Nat} {l : List Value} (h : zeroE t = some l) (w : World) : ∃ z, (zeroValue t).run PP w = .ok z w ∧ z.cells = l.toArray := by
  have := zeroE_all t l h
  unfold zeroRun at this
  split at this
  · rename_i i hi
    cases hz : i.zero with
    | none => simp [hz] at this
    | some z =>
      simp only [hz, Option.map_some, Option.some.injEq] at this
      refine ⟨z, by simp [zeroValue, typeInfo, hi, hz], ?_⟩
      rw [← this]
  · cases this

def alA (op : Op) : Option (Nat × List Value) :=
  match op with
  | .alloc t => match zeroE t with
    | some l => some (t, l)
    | none => none
  | _ => none

theorem WL.al {t : Nat} {l : List Value} (hg : grd all L o = some true) (h : alA o.op = some (t, l)) (hd : dstE N o (.pointer (some ⟨w.heap.size, 0, none⟩)) L = some L')
    (k : ∀ w', Al w (.cells l.toArray t (0, 0)) w' → WL all Q N L' rest w') : WL all Q N L (o :: rest) w := by
  obtain ⟨dst, op, ty, pos, after, guard⟩ := o
  simp only at h
  unfold alA at h
  split at h
  · rename_i t'
    split at h
    · rename_i l' hl
      simp only [Option.some.injEq, Prod.mk.injEq] at h
      obtain ⟨rfl, rfl⟩ := h
      obtain ⟨z, hz, hc⟩ := zero_run hl w
      refine WL.of_run (w' := w.alloc (.cells l'.toArray t' (0, 0))) hg (fun a hf => ?_) hd (k _ (alloc_al w _))
      simp [execOp, Instr.alloc, hz, newVar, newRow, hc]
    · cases h
  · cases h

def bxA (L : Env) (op : Op) : Option (Nat × Value) :=
  match op with
  | .box t x => match ev L x with
    | some v => some (t, v)
    | none => none
  | _ => none

theorem WL.bx {t : Nat} {v : Value} (hg : grd all L o = some true) (h : bxA L o.op = some (t, v)) (hd : dstE N o (.pointer (some ⟨w.heap.size, 0, none⟩)) L = some L')
    (k : ∀ w', Al w (.cells v.cells t (0, 0)) w' → WL all Q N L' rest w') : WL all Q N L (o :: rest) w := by
  obtain ⟨dst, op, ty, pos, after, guard⟩ := o
  simp only at h
  unfold bxA at h
  split at h
  · rename_i t' x
    split at h
    · rename_i v' hx
      simp only [Option.some.injEq, Prod.mk.injEq] at h
      obtain ⟨rfl, rfl⟩ := h
      refine WL.of_run (w' := w.alloc (.cells v'.cells t' (0, 0))) hg (fun a hf => ?_) hd (k _ (alloc_al w _))
      simp [execOp, Instr.box, hf.eval hx, newVar, newRow]
    · cases h
  · cases h

/-! Calls of functions -/
noncomputable def callOk (f : Nat) : Bool := match PP.funcs[f]? with
  | some fn => fn.body.isSome && !(fn.name == "runtime.NumGoroutine")
  | none => false

theorem callOk_all : ((List.range 150).all fun f => Nat.ble f 2 || callOk f) = true := by kernel_rfl

theorem callOk_at {f : Nat} (h : (Nat.ble 3 f && Nat.blt f 150) = true) : callOk f = true := by
  have h' : 3 ≤ f ∧ f < 150 := by simpa [Nat.ble_eq, Nat.blt_eq] using h
  have := List.all_eq_true.1 callOk_all f (List.mem_range.2 h'.2)
  have h3 : Nat.ble f 2 = false := by
    cases hb : Nat.ble f 2 with
    | false => rfl
    | true => have := Nat.le_of_ble_eq_true hb; omega
  simpa [h3] using this

def callA (L : Env) (op : Op) : Option (Nat × List Value) :=
  match op with
  | .call ⟨.value x, ⟨xs⟩, _⟩ => match x with
    | .func f => match evs L xs with
      | some vs => some (f, vs)
      | none => none
    | x => match ev L x with
      | some (.func (.func f) ⟨first⟩ ⟨caps⟩) => match evs L xs with
        | some vs => some (f, first ++ vs ++ caps)
        | none => none
      | _ => none
  | _ => none

theorem callFunc_run {f : Nat} (h : callOk f = true) (args : Array Value) (w : World) : (callFunc f args).run PP w = .ok (.enter f args) w := by
  unfold callOk at h
  unfold callFunc
  cases hf : PP.funcs[f]? with
  | none => simp [hf] at h
  | some fn =>
    simp only [hf, Bool.and_eq_true, Bool.not_eq_true'] at h
    obtain ⟨h1, h2⟩ := h
    have h3 : fn.body.isNone = false := by cases hb : fn.body <;> simp [hb] at h1 ⊢
    simp only [Sem.run_bind, run_program, Result.andThen_ok, hf, h2, h3, Bool.false_eq_true, if_false, Sem.run_pure]

theorem callA_run {N : Nat} {L : Env} {a : Act} {f : Nat} {vs : List Value} (hf : Fr N L a) (h : callA L o.op = some (f, vs)) (hr : callOk f = true) (w : World) :
    (execOp a.eval o).run PP w = .ok (.enter f vs.toArray) w := by
  obtain ⟨dst, op, ty, pos, after, guard⟩ := o
  simp only at h
  unfold callA at h
  split at h
  · rename_i x xs ts
    split at h
    · rename_i g
      split at h
      · rename_i vs' hvs
        simp only [Option.some.injEq, Prod.mk.injEq] at h
        obtain ⟨rfl, rfl⟩ := h
        have := hf.evals hvs
        simp [execOp, resolve, Deferred.ofValue, Act.eval, invoke, this, callFunc_run hr]
      · cases h
    · rename_i x' hx'
      split at h
      · rename_i g first caps hx
        split at h
        · rename_i vs' hvs
          simp only [Option.some.injEq, Prod.mk.injEq] at h
          obtain ⟨rfl, rfl⟩ := h
          have := hf.evals hvs
          simp [execOp, resolve, hf.eval hx, Deferred.ofValue, invoke, this, callFunc_run hr]
        · cases h
      · cases h
  · cases h

theorem WL.call {f : Nat} {vs : List Value} {R : Ending → World → Prop} (hg : grd all L o = some true) (hc : callA L o.op = some (f, vs)) (hr : (Nat.ble 3 f && Nat.blt f 150) = true)
    (h : Calls PP f vs.toArray w R) (k : ∀ e w', R e w' → ∃ v L', e = .returned v ∧ dstE N o v L = some L' ∧ WL all Q N L' rest w') : WL all Q N L (o :: rest) w := fun a hf => by
  refine wpList_step fun K hK => ?_
  rw [if_pos (grd_ok hf hg)]
  unfold Oper.wp
  rw [callA_run hf hc (callOk_at hr) w]
  refine h.mono fun e w' hR => ?_
  obtain ⟨v, L', rfl, hd, hk⟩ := k e w' hR
  exact hK _ _ (hk _ (dstE_ok hf hd))

/-! ### Code -/
theorem WC.seq {x y : Code} (k : WC (Exit.then (y.wp PP Q) Q) N L x w) : WC Q N L (.seq x y) w := fun a hf => wp_seq (k a hf)
theorem WC.block {i : Nat} {c : Code} (k : WC (Exit.inBlock i Q) N L c w) : WC Q N L (.block i c) w := fun a hf => wp_block (k a hf)
theorem WC.skip (k : X .normal Q N L w) : WC Q N L .skip w := fun a hf => wp_skip (k a hf)
theorem WC.exit {i : Nat} (k : X (.exit i) Q N L w) : WC Q N L (.exit i) w := fun a hf => wp_exit (k a hf)
theorem WC.ret (k : X .ret Q N L w) : WC Q N L .ret w := fun a hf => wp_ret (k a hf)
theorem WC.reg {id : Nat} {l : List Oper} (k : WL l Q N L l w) : WC Q N L (.region id ⟨l⟩ false) w := fun a hf => wp_region_lit (k a hf)

theorem WC.cT {c : Operand} {x y : Code} (hc : ev L c = some (.bool true)) (k : WC Q N L x w) : WC Q N L (.cond c x y) w := fun a hf => wp_cond_true (hf.eval hc) (k a hf)
theorem WC.cF {c : Operand} {x y : Code} (hc : ev L c = some (.bool false)) (k : WC Q N L y w) : WC Q N L (.cond c x y) w := fun a hf => wp_cond_false (hf.eval hc) (k a hf)
theorem WC.bT {c : Operand} {x y : Code} {b : Bool} (hc : ev L c = some (.bool b)) (hb : b = true) (k : WC Q N L x w) : WC Q N L (.cond c x y) w := by subst hb; exact WC.cT hc k
theorem WC.bF {c : Operand} {x y : Code} {b : Bool} (hc : ev L c = some (.bool b)) (hb : b = false) (k : WC Q N L y w) : WC Q N L (.cond c x y) w := by subst hb; exact WC.cF hc k
theorem WC.cS {c : Operand} {x y : Code} {b : Bool} (hc : ev L c = some (.bool b)) (kt : b = true → WC Q N L x w) (kf : b = false → WC Q N L y w) : WC Q N L (.cond c x y) w :=
  fun a hf => wp_cond_split (hf.eval hc) (fun h => kt h a hf) (fun h => kf h a hf)
theorem WC.cD {c : Operand} {x y : Code} {p : Prop} [Decidable p] (hc : ev L c = some (.bool (dc p))) (kt : p → WC Q N L x w) (kf : ¬ p → WC Q N L y w) : WC Q N L (.cond c x y) w :=
  WC.cS hc (fun h => kt (dc_true h)) (fun h => kf (dc_false h))
theorem WC.dT {c : Operand} {x y : Code} {p : Prop} [Decidable p] (hc : ev L c = some (.bool (dc p))) (hp : p) (kt : WC Q N L x w) : WC Q N L (.cond c x y) w :=
  WC.cD hc (fun _ => kt) (fun h => absurd hp h)
theorem WC.dF {c : Operand} {x y : Code} {p : Prop} [Decidable p] (hc : ev L c = some (.bool (dc p))) (hp : ¬ p) (kf : WC Q N L y w) : WC Q N L (.cond c x y) w :=
  WC.cD hc (fun h => absurd h hp) (fun _ => kf)

theorem WC.nT {c : Operand} {x y : Code} {p : Prop} [Decidable p] (hc : ev L c = some (.bool (!(dc p)))) (hp : ¬ p) (kt : WC Q N L x w) : WC Q N L (.cond c x y) w :=
  WC.bT hc (by rw [dc_not hp]; rfl) kt
theorem WC.nF {c : Operand} {x y : Code} {p : Prop} [Decidable p] (hc : ev L c = some (.bool (!(dc p)))) (hp : p) (kf : WC Q N L y w) : WC Q N L (.cond c x y) w :=
  WC.bF hc (by rw [dc_of hp]; rfl) kf

theorem X.sn {y : Code} (k : WC Q N L y w) : X .normal (Exit.then (y.wp PP Q) Q) N L w := k
theorem WL.ns {all : List Oper} {y : Code} (k : WC Q N L y w) : WL all (Exit.then (y.wp PP Q) Q) N L [] w := WL.nil (X.sn k)
theorem WC.sr {id : Nat} {l : List Oper} {y : Code} (k : WL l (Exit.then (y.wp PP Q) Q) N L l w) : WC Q N L (.seq (.region id ⟨l⟩ false) y) w := WC.seq (WC.reg k)
theorem X.sx {K : Act → World → Prop} {i : Nat} (k : X (.exit i) Q N L w) : X (.exit i) (Exit.then K Q) N L w := k
theorem X.sr {K : Act → World → Prop} (k : X .ret Q N L w) : X .ret (Exit.then K Q) N L w := k
theorem X.bn {i : Nat} (k : X .normal Q N L w) : X .normal (Exit.inBlock i Q) N L w := k
theorem X.br {i : Nat} (k : X .ret Q N L w) : X .ret (Exit.inBlock i Q) N L w := k
theorem X.bx {i : Nat} (k : X .normal Q N L w) : X (.exit i) (Exit.inBlock i Q) N L w := fun a hf => by
  simp only [Exit.inBlock, if_true]; exact k a hf
theorem X.bo {i j : Nat} (h : Nat.beq j i = false) (k : X (.exit j) Q N L w) : X (.exit j) (Exit.inBlock i Q) N L w := fun a hf => by
  have hne : j ≠ i := by intro e; subst e; simp at h
  simp only [Exit.inBlock, hne, if_false]; exact k a hf

/-! ### Results -/
def resE (L : Env) : List ResultVar → Option (List Value)
  | [] => some []
  | .tmp t :: r => match look L t with
    | some v => match resE L r with
      | some vs => some (v :: vs)
      | none => none
    | none => none
  | _ => none

def resV : List Value → Value
  | [v] => v
  | vs => .tuple vs.toArray

def resF (a : Act) : ResultVar → Sem Value
  | .tmp t => pure (a.tmps.getD t undef)
  | .cell x t => do loadVar t (← asAddr (a.tmps.getD x undef))

theorem resE_run {N : Nat} {L : Env} {a : Act} (hf : Fr N L a) (w : World) : ∀ {rs : List ResultVar} {vs : List Value}, resE L rs = some vs →
    (rs.mapM (resF a)).run PP w = .ok vs w
  | [], vs, h => by simp [resE] at h; subst h; simp
  | .tmp t :: r, vs, h => by
    simp only [resE] at h
    cases h1 : look L t with
    | none => simp [h1] at h
    | some v =>
      cases h2 : resE L r with
      | none => simp [h1, h2] at h
      | some us =>
        simp only [h1, h2, Option.some.injEq] at h
        subst h
        have ih := resE_run hf w h2
        simp only [List.mapM_cons, Sem.run_bind, Sem.run_pure, Result.andThen_ok, ih, resF, hf.getD h1]
  | .cell x t :: r, vs, h => by simp [resE] at h

theorem results_eq (fn : Func) (a : Act) : results fn a.tmps = (do let vs ← fn.results.mapM (resF a); pure (if h : vs.size = 1 then vs[0] else .tuple vs)) := by
  unfold results
  congr 1

theorem X.ret_ {fn : Func} {R : Ending → World → Prop} {rs : List ResultVar} {vs : List Value} (hr : fn.results = ⟨rs⟩) (h : resE L rs = some vs) (hR : R (.returned (resV vs)) w) :
    X .ret (bodyPost PP fn R) N L w := fun a hf => by
  refine bodyPost_ret ?_ hf.defers hR
  rw [results_eq, hr]
  have := resE_run hf w h
  simp only [List.mapM_toArray, Sem.run_bind, Sem.run_map, this, Result.andThen_ok, Sem.run_pure]
  cases vs with
  | nil => rfl
  | cons v vs => cases vs <;> rfl

theorem X.end_ {fn : Func} {R : Ending → World → Prop} {rs : List ResultVar} {vs : List Value} (hr : fn.results = ⟨rs⟩) (h : resE L rs = some vs) (hR : R (.returned (resV vs)) w) :
    X .normal (bodyPost PP fn R) N L w := fun a hf => X.ret_ hr h hR a hf

/-! ### Into a function -/
def envOf : Nat → List Value → Env
  | _, [] => []
  | i, v :: l => (i, v) :: envOf (i + 1) l

theorem envOf_look : ∀ (l : List Value) (i t : Nat) (v : Value), look (envOf i l) t = some v → i ≤ t ∧ l[t - i]? = some v
  | [], i, t, v, h => by simp [envOf, look] at h
  | u :: l, i, t, v, h => by
    simp only [envOf, look] at h
    cases hb : Nat.beq i t with
    | true =>
      have : i = t := by simpa using hb
      subst this
      simp only [hb, cond_true, Option.some.injEq] at h
      subst h
      simp
    | false =>
      have hne : i ≠ t := by intro e; subst e; simp at hb
      simp only [hb, cond_false] at h
      obtain ⟨h1, h2⟩ := envOf_look l (i + 1) t v h
      refine ⟨by omega, ?_⟩
      have : t - i = (t - (i + 1)) + 1 := by omega
      rw [this, List.getElem?_cons_succ]
      exact h2

theorem enter {f : Nat} {fn : Func} {c : Code} {N : Nat} {args : List Value} {L : Env} {R : Ending → World → Prop} {w : World}
    (hf : PP.funcs[f]? = some fn) (hb : fn.body = some c) (hN : fn.ntmps = N) (hs : Nat.ble args.length N = true) (hL : Agree L (envOf 0 args)) (k : WC (bodyPost PP fn R) N L c w) :
    Calls PP f args.toArray w R := by
  have hs' : args.length ≤ N := Nat.le_of_ble_eq_true hs
  refine calls_of_wp hf hb (k _ ⟨?_, rfl, fun t v hv => ?_⟩)
  · simp [hN]; omega
  · obtain ⟨_, h2⟩ := envOf_look args 0 t v (hL.look t v hv)
    have h3 : args[t]? = some v := by simpa using h2
    have hlt : t < args.length := (List.getElem?_eq_some_iff.1 h3).1
    rw [Array.getElem?_append_left (by simpa using hlt)]
    simpa using h3

/-! ### Loops -/
def Again {σ : Type} (I : σ → World → Prop) (m : σ → Nat) (Lf : σ → Env) (N : Nat) (s : σ) : Act → World → Prop := fun a w => ∃ s', I s' w ∧ m s' < m s ∧ Fr N (Lf s') a

theorem exists_least {P : Nat → Prop} (h : ∃ n, P n) : ∃ n, P n ∧ ∀ k, P k → n ≤ k := by
  obtain ⟨n, hn⟩ := h
  induction n using Nat.strongRecOn with
  | _ n ih =>
    by_cases hc : ∃ k, k < n ∧ P k
    · obtain ⟨k, hk, hp⟩ := hc; exact ih k hk hp
    · refine ⟨n, hn, fun k hk => ?_⟩
      apply Classical.byContradiction
      intro h
      exact hc ⟨k, by omega, hk⟩

theorem WC.loop {σ : Type} {c : Code} (I : σ → World → Prop) (m : σ → Nat) (Lf : σ → Env) (s0 : σ) (h0 : I s0 w) (hL : Agree (Lf s0) L)
    (round : ∀ s w, I s w → WC (Exit.then (Again I m Lf N s) Q) N (Lf s) c w) : WC Q N L (.loop c) w := by
  intro a hf
  let J : Act → World → Prop := fun a w => ∃ s, I s w ∧ Fr N (Lf s) a
  have hex : ∀ a w, ∃ n, (J a w → ∃ s, I s w ∧ Fr N (Lf s) a ∧ m s = n) ∧ (∀ s, I s w → Fr N (Lf s) a → n ≤ m s) := by
    intro a w
    by_cases hj : J a w
    · obtain ⟨s, h1, h2⟩ := hj
      obtain ⟨n, ⟨s', h3, h4, h5⟩, hmin⟩ := exists_least (P := fun n => ∃ s, I s w ∧ Fr N (Lf s) a ∧ m s = n) ⟨m s, s, h1, h2, rfl⟩
      exact ⟨n, fun _ => ⟨s', h3, h4, h5⟩, fun s h1 h2 => hmin _ ⟨s, h1, h2, rfl⟩⟩
    · exact ⟨0, fun h => absurd h hj, fun _ _ _ => Nat.zero_le _⟩
  let μ : Act → World → Nat := fun a w => Classical.choose (hex a w)
  have hμ : ∀ a w, (J a w → ∃ s, I s w ∧ Fr N (Lf s) a ∧ m s = μ a w) ∧ (∀ s, I s w → Fr N (Lf s) a → μ a w ≤ m s) := fun a w => Classical.choose_spec (hex a w)
  refine wp_loop J μ ⟨s0, h0, hf.weaken hL⟩ fun a w hJ => ?_
  obtain ⟨s, h1, h2, h3⟩ := (hμ a w).1 hJ
  refine Code.wp_mono ?_ (round s w h1 a h2)
  intro e a' w' hq
  cases e with
  | normal =>
    obtain ⟨s', h4, h5, h6⟩ := hq
    refine ⟨⟨s', h4, h6⟩, ?_⟩
    have := (hμ a' w').2 s' h4 h6
    omega
  | exit i => exact hq
  | goto i => exact hq
  | ret => exact hq
  | panic c => exact hq
  | outgrown => exact hq

theorem X.again {σ : Type} {I : σ → World → Prop} {m : σ → Nat} {Lf : σ → Env} {s : σ} (s' : σ) (h : I s' w) (hm : m s' < m s) (ha : Agree (Lf s') L) :
    X .normal (Exit.then (Again I m Lf N s) Q) N L w := fun a hf => ⟨s', h, hm, hf.weaken ha⟩

/-! ### Where ways meet again -/
def Cut {σ : Type} (I : σ → World → Prop) (Lf : σ → Env) (N : Nat) : Act → World → Prop := fun a w => ∃ s, I s w ∧ Fr N (Lf s) a

theorem WC.cut {σ : Type} {x y : Code} (I : σ → World → Prop) (Lf : σ → Env) (k1 : WC (Exit.then (Cut I Lf N) Q) N L x w) (k2 : ∀ s w, I s w → WC Q N (Lf s) y w) : WC Q N L (.seq x y) w :=
  fun a hf => wp_seq (Code.wp_mono (fun e a' w' hq => by
    cases e with
    | normal => obtain ⟨s, h1, h2⟩ := hq; exact k2 s w' h1 a' h2
    | exit i => exact hq
    | goto i => exact hq
    | ret => exact hq
    | panic c => exact hq
    | outgrown => exact hq) (k1 a hf))

theorem X.cut {σ : Type} {I : σ → World → Prop} {Lf : σ → Env} (s : σ) (h : I s w) (ha : Agree (Lf s) L) : X .normal (Exit.then (Cut I Lf N) Q) N L w := fun a hf => ⟨s, h, hf.weaken ha⟩

end steps
attribute [irreducible] WL WC X
end Go.Proofs.YtaccphdkapmdhaaGreat

namespace Go.Proofs.YtaccphdkapmdhaaGreat
attribute [local semireducible] WL WC X

/-- A slice value that begins at cell o of block bd and has c cells to its end (its address counts where there is a cell left). -/
def Sf (bd o c : Nat) (ad : Option Addr) : Prop := ∃ a, ad = some a ∧ (0 < c → a = ⟨bd, o, none⟩)

theorem Sf.mk (bd o c : Nat) : Sf bd o c (some ⟨bd, o, none⟩) := ⟨_, rfl, fun _ => rfl⟩
theorem Sf.addr {bd o c : Nat} {ad : Option Addr} (h : Sf bd o c ad) (hc : 0 < c) : ad = some ⟨bd, o, none⟩ := by
  obtain ⟨a, rfl, h2⟩ := h; rw [h2 hc]

theorem Sf.sl {bd ofs c : Nat} {ad : Option Addr} (hs : Sf bd ofs c ad) (l : Nat) : Sf bd (ofs + l) (c - l) (if c = l then ad else ad.map (·.add (l * 1))) := by
  obtain ⟨a, rfl, ha⟩ := hs
  split
  · rename_i e; exact ⟨a, rfl, fun h => by omega⟩
  · rename_i e
    refine ⟨a.add (l * 1), rfl, fun h => ?_⟩
    rw [ha (by omega), addr_lit, Nat.mul_one]

section steps
variable {all : List Oper} {Q : Exit → Act → World → Prop} {N : Nat} {L L' : Env} {o : Oper} {rest : List Oper} {w : World}

/-! ### Slicing -/
def optI (L : Env) : Option Operand → Option (Option Int)
  | none => some none
  | some x => match ev L x with
    | some (.int _ n) => some (some n)
    | _ => none

def slA (L : Env) (op : Op) : Option (Nat × Option Addr × Nat × Nat × Option Int × Option Int) :=
  match op with
  | .slice t x lo hi none => match elemSize t, ev L x, optI L lo, optI L hi with
    | some n, some (.slice a len cap), some l, some h => some (n, a, len, cap, l, h)
    | _, _, _, _ => none
  | _ => none

theorem optI_run {N : Nat} {L : Env} {a : Act} (hf : Fr N L a) {x : Option Operand} {r : Option Int} (h : optI L x = some r) :
    (x.map a.eval = none ∧ r = none) ∨ ∃ k n, x.map a.eval = some (.int k n) ∧ r = some n := by
  cases x with
  | none => simp [optI] at h; exact .inl ⟨rfl, h.symm⟩
  | some y =>
    simp only [optI] at h
    split at h
    · rename_i k n hy
      simp only [Option.some.injEq] at h
      exact .inr ⟨k, n, by simp [hf.eval hy], h.symm⟩
    · cases h

theorem sliceBound_ok {k : IntKind} {n : Int} {y : Nat} {code : BoundsCode} {i : Nat} (hn : n = (i : Int)) (h : i ≤ y) (w : World) : (Instr.sliceBound (.int k n) y code).run PP w = .ok i w := by
  subst hn
  simp [Instr.sliceBound, asIntOf, h]

theorem slA_run {N : Nat} {L : Env} {a : Act} {sz len cap : Nat} {ad : Option Addr} {lo hi : Option Int} {l h' : Nat} (hf : Fr N L a) (h : slA L o.op = some (sz, ad, len, cap, lo, hi))
    (hlo : lo.getD 0 = (l : Int)) (hhi : hi.getD len = (h' : Int)) (h1 : l ≤ h') (h2 : h' ≤ cap) (w : World) :
    (execOp a.eval o).run PP w = .ok (.value (.slice (if cap = l then ad else ad.map (·.add (l * sz))) (h' - l) (cap - l))) w := by
  obtain ⟨dst, op, ty, pos, after, guard⟩ := o
  simp only at h
  unfold slA at h
  split at h
  · rename_i t x olo ohi
    split at h
    · rename_i n a' len' cap' l' hh hn hx hl hh'
      simp only [Option.some.injEq, Prod.mk.injEq] at h
      obtain ⟨rfl, rfl, rfl, rfl, rfl, rfl⟩ := h
      have hfit := elemFits_all t n hn
      unfold elemFits at hfit
      split at hfit
      · rename_i e hu
        split at hfit
        · rename_i inf hinf
          simp only [beq_iff_eq] at hfit
          have hsz : ∀ w, (sizeOf e).run PP w = .ok n w := fun w => by simp [sizeOf, typeInfo, hinf, hfit]
          have core : ∀ w, (Instr.sliceBounds true len' cap' (olo.map a.eval) (ohi.map a.eval) none).run PP w = .ok (l, h', cap') w := by
            intro w
            rcases optI_run hf hl with ⟨e1, rfl⟩ | ⟨k1, n1, e1, rfl⟩ <;> rcases optI_run hf hh' with ⟨e2, rfl⟩ | ⟨k2, n2, e2, rfl⟩
            · have hl0 : l = 0 := by simp at hlo; omega
              have hh0 : h' = len' := by simp at hhi; omega
              subst hl0; subst hh0
              simp [Instr.sliceBounds, e1, e2]
            · have hl0 : l = 0 := by simp at hlo; omega
              subst hl0
              simp [Instr.sliceBounds, e1, e2, sliceBound_ok (show n2 = (h' : Int) by simpa using hhi) h2]
            · have hh0 : h' = len' := by simp at hhi; omega
              subst hh0
              simp [Instr.sliceBounds, e1, e2, sliceBound_ok (show n1 = (l : Int) by simpa using hlo) h1]
            · simp [Instr.sliceBounds, e1, e2, sliceBound_ok (show n2 = (h' : Int) by simpa using hhi) h2, sliceBound_ok (show n1 = (l : Int) by simpa using hlo) h1]
          simp only [execOp, hf.eval hx, Instr.sliceAt, Instr.slice, Sem.run_bind, run_underlying hu, Result.andThen_ok, Option.map_none, core, hsz, Sem.run_pure]
        · simp at hfit
      · simp at hfit
    · cases h
  · cases h

/-- Slicing of a value whose place is known. -/
theorem WL.sS {bd ofs c len : Nat} {ad : Option Addr} {lo hi : Option Int} {L' : Option Addr → Env} (n' l : Nat) (hg : grd all L o = some true) (h : slA L o.op = some (1, ad, len, c, lo, hi)) (hs : Sf bd ofs c ad)
    (hlo : lo.getD 0 = (l : Int)) (hhi : hi.getD len = ((l + n' : Nat) : Int)) (hc : l + n' ≤ c)
    (hd : ∀ ad', dstE N o (.slice ad' n' (c - l)) L = some (L' ad')) (k : ∀ ad', Sf bd (ofs + l) (c - l) ad' → WL all Q N (L' ad') rest w) : WL all Q N L (o :: rest) w := by
  have hs' : Sf bd (ofs + l) (c - l) (if c = l then ad else ad.map (·.add (l * 1))) := by
    exact hs.sl l
  refine WL.of_run hg (fun a hf => ?_) (hd _) (k _ hs')
  have := slA_run hf h hlo hhi (by omega) hc w
  rw [this]
  congr 3
  omega

/-- 'x[:n]'. -/
theorem WL.s0 {sz len cap : Nat} {ad : Option Addr} {hi : Option Int} (n' : Nat) (hg : grd all L o = some true) (h : slA L o.op = some (sz, ad, len, cap, none, hi)) (hhi : hi.getD len = (n' : Int)) (hc : n' ≤ cap)
    (hd : dstE N o (.slice ad n' cap) L = some L') (k : WL all Q N L' rest w) : WL all Q N L (o :: rest) w := by
  refine WL.of_run hg (fun a hf => ?_) hd k
  have := slA_run hf h (l := 0) rfl hhi (by omega) hc w
  rw [this]
  have hz : ∀ a : Addr, a.add 0 = a := fun a => rfl
  cases ad <;> simp [hz]

/-! ### Structs in memory -/
def aggSize : Nat → Option Nat
  | 37 => some 4 | 40 => some 6 | 104 => some 7 | 101 => some 2 | 129 => some 4 | 132 => some 6 | 145 => some 4 | 120 => some 3 | 108 => some 3 | 147 => some 2
  | _ => none

noncomputable def aggFits (t n : Nat) : Bool :=
  (match PP.underlying t with | some (.struct _) => true | _ => false) && (match PP.info? t with | some i => i.size == n | none => false)

theorem aggFits_all : ∀ t n, aggSize t = some n → aggFits t n = true := by
  intro t n h
  unfold aggSize at h
  split at h <;> first
    | (cases h; done)
    | (simp only [Option.some.injEq] at h; subst h; kernel_rfl)

theorem agg_run {t n : Nat} (h : aggSize t = some n) (w : World) : (isAgg t).run PP w = .ok true w ∧ (sizeOf t).run PP w = .ok n w := by
  have := aggFits_all t n h
  unfold aggFits at this
  simp only [Bool.and_eq_true] at this
  obtain ⟨h1, h2⟩ := this
  constructor
  · unfold isAgg
    split at h1
    · rename_i fs hu; simp only [Sem.run_bind, run_underlying hu, Result.andThen_ok, Sem.run_pure]
    · simp at h1
  · split at h2
    · rename_i i hi
      simp only [beq_iff_eq] at h2
      simp [sizeOf, typeInfo, hi, h2]
    · simp at h2

theorem loadCellsFrom_run {w : World} {b ofs : Nat} : ∀ (cs : List Value) (i : Nat) (acc : Array Value), (∀ j v, cs[j]? = some v → w.cell? ⟨b, ofs + (i + j), none⟩ = some v) →
    (loadCellsFrom ⟨b, ofs, none⟩ i cs.length acc).run PP w = .ok (acc ++ cs.toArray) w
  | [], i, acc, _ => by simp [loadCellsFrom]
  | v :: cs, i, acc, h => by
    have h0 := h 0 v rfl
    simp only [Nat.add_zero] at h0
    have ih := loadCellsFrom_run cs (i + 1) (acc.push v) (fun j u hu => by
      have := h (j + 1) u (by simpa using hu)
      rw [show ofs + (i + 1 + j) = ofs + (i + (j + 1)) by omega]; exact this)
    simp only [List.length_cons, loadCellsFrom, Sem.run_bind, addr_lit, run_load, h0, Result.andThen_ok, ih]
    simp

theorem loadCells_run {w : World} {b ofs : Nat} (cs : List Value) (h : ∀ j v, cs[j]? = some v → w.cell? ⟨b, ofs + j, none⟩ = some v) :
    (loadCells ⟨b, ofs, none⟩ cs.length).run PP w = .ok cs.toArray w := by
  have := loadCellsFrom_run cs 0 #[] (by simpa using h)
  simpa [loadCells] using this

def lgA (L : Env) (op : Op) : Option (Nat × Addr) :=
  match op with
  | .load t x => match aggSize t, ev L x with
    | some n, some (.pointer (some a)) => some (n, a)
    | _, _ => none
  | _ => none

theorem lgA_run {N : Nat} {L : Env} {a : Act} {n b ofs : Nat} {cs : List Value} (hf : Fr N L a) (h : lgA L o.op = some (n, ⟨b, ofs, none⟩)) (hn : cs.length = n)
    (hc : ∀ j v, cs[j]? = some v → w.cell? ⟨b, ofs + j, none⟩ = some v) : (execOp a.eval o).run PP w = .ok (.value (.agg cs.toArray)) w := by
  obtain ⟨dst, op, ty, pos, after, guard⟩ := o
  simp only at h
  unfold lgA at h
  split at h
  · rename_i t x
    split at h
    · rename_i n' a' hn' hx
      simp only [Option.some.injEq, Prod.mk.injEq] at h
      obtain ⟨rfl, rfl⟩ := h
      obtain ⟨h1, h2⟩ := agg_run hn' w
      subst hn
      simp [execOp, hf.eval hx, Instr.loadAt, Instr.sureAddr, loadVar, h1, h2, loadCells_run cs hc]
    · cases h
  · cases h

theorem cells_block {w : World} {b ofs : Nat} {c : Array Value} {t : TypeId} {fz : Nat × Nat} {cs : List Value} (hb : w.heap[b]? = some (.cells c t fz)) (hx : (c.toList.drop ofs).take cs.length = cs) :
    ∀ j v, cs[j]? = some v → w.cell? ⟨b, ofs + j, none⟩ = some v := by
  intro j v hv
  refine cell_of hb ?_
  rw [← hx, List.getElem?_take] at hv
  split at hv
  · rw [List.getElem?_drop] at hv
    simpa using hv
  · cases hv

/-- A struct read whole. -/
theorem WL.lg {n b ofs : Nat} {cs : List Value} (hg : grd all L o = some true) (h : lgA L o.op = some (n, ⟨b, ofs, none⟩)) (hn : cs.length = n)
    (hc : ∀ j v, cs[j]? = some v → w.cell? ⟨b, ofs + j, none⟩ = some v) (hd : dstE N o (.agg cs.toArray) L = some L') (k : WL all Q N L' rest w) : WL all Q N L (o :: rest) w :=
  WL.of_run hg (fun a hf => lgA_run hf h hn hc) hd k

/-- A struct that fills its block, read whole. -/
theorem WL.lgB {n b : Nat} {cs : List Value} {t : TypeId} {fz : Nat × Nat} (hg : grd all L o = some true) (h : lgA L o.op = some (n, ⟨b, 0, none⟩)) (hb : w.heap[b]? = some (.cells ⟨cs⟩ t fz)) (hn : cs.length = n)
    (hd : dstE N o (.agg ⟨cs⟩) L = some L') (k : WL all Q N L' rest w) : WL all Q N L (o :: rest) w :=
  WL.lg hg h hn (cells_block hb (by simp)) hd k

def sgA (L : Env) (op : Op) : Option (Nat × Addr × List Value) :=
  match op with
  | .store t x y => match aggSize t, ev L x, ev L y with
    | some n, some (.pointer (some a)), some (.agg ⟨cs⟩) => some (n, a, cs)
    | _, _, _ => none
  | _ => none

theorem splice_step (c : List Value) (n : Nat) (v : Value) (vs : List Value) (h : n < c.length) :
    (c.set n v).take (n + 1) ++ vs ++ (c.set n v).drop (n + 1 + vs.length) = c.take n ++ v :: vs ++ c.drop (n + 1 + vs.length) := by
  have hc : c = c.take n ++ c[n] :: c.drop (n + 1) := by simp
  have hl : (c.take n).length = n := by simp; omega
  generalize c.take n = l1 at hc hl ⊢
  generalize c.drop (n + 1) = l2 at hc
  generalize c[n] = x at hc
  subst hc
  subst hl
  have e : l1.length + 1 + vs.length - l1.length = vs.length + 1 := by omega
  simp [List.set_append_right, List.take_append, List.drop_append, e, List.take_of_length_le (Nat.le_succ l1.length)]

theorem storeCells_run {b ofs : Nat} {t : TypeId} : ∀ (vs : List Value) (i : Nat) (c : List Value) (w : World), w.heap[b]? = some (.cells ⟨c⟩ t (0, 0)) → ofs + i + vs.length ≤ c.length → (∀ v ∈ vs, oneV v = true) →
    ∃ w', (storeCells ⟨b, ofs, none⟩ vs i).run PP w = .ok () w' ∧ St w b (.cells ⟨c.take (ofs + i) ++ vs ++ c.drop (ofs + i + vs.length)⟩ t (0, 0)) w'
  | [], i, c, w, hb, hl, _ => by
    refine ⟨w, by simp [storeCells], ⟨rfl, rfl, rfl, rfl, ?_, fun _ _ => rfl⟩⟩
    rw [hb]; simp
  | v :: vs, i, c, w, hb, hl, hv => by
    simp only [List.length_cons] at hl
    have hlt : ofs + i < c.length := by omega
    have h1 : v.oneCell' = true := by have := hv v (by simp); cases v <;> first | rfl | (simp [oneV] at this)
    have hcell : w.cell? ⟨b, ofs + i, none⟩ = some c[ofs + i] := cell_of hb (by simp [hlt])
    have hfr : w.frozen? ⟨b, ofs + i, none⟩ = false := by simp [World.frozen?, hb]
    have hst := run_store PP w ⟨b, ofs + i, none⟩ v .plain h1
    rw [hcell] at hst
    simp only [hfr] at hst
    have hs1 := setCell_st (i := ofs + i) v hb
    have hb' : (w.setCell ⟨b, ofs + i, none⟩ v).heap[b]? = some (.cells ⟨c.set (ofs + i) v⟩ t (0, 0)) := by rw [hs1.at_]; simp
    obtain ⟨w', hr, hs2⟩ := storeCells_run (ofs := ofs) vs (i + 1) (c.set (ofs + i) v) (w.setCell ⟨b, ofs + i, none⟩ v) hb' (by rw [List.length_set]; omega) (fun u hu => hv u (by simp [hu]))
    refine ⟨w', ?_, ⟨hs2.os, hs2.tape, hs2.output, by rw [hs2.size, hs1.size], ?_, fun k hk => by rw [hs2.oth k hk, hs1.oth k hk]⟩⟩
    · simp only [storeCells, Sem.run_bind, addr_lit, hst, Bool.false_eq_true, if_false, Result.andThen_ok, hr]
    · rw [hs2.at_]
      have e1 : ofs + (i + 1) = (ofs + i) + 1 := by omega
      have e2 : ofs + i + 1 + vs.length = ofs + i + (v :: vs).length := by simp; omega
      rw [e1, ← e2, splice_step c (ofs + i) v vs hlt]

theorem sgA_run {N : Nat} {L : Env} {n b ofs : Nat} {cs c : List Value} {t : TypeId} (h : sgA L o.op = some (n, ⟨b, ofs, none⟩, cs)) (hn : cs.length = n)
    (hv : ∀ v ∈ cs, oneV v = true) (hb : w.heap[b]? = some (.cells ⟨c⟩ t (0, 0))) (hl : ofs + n ≤ c.length) :
    ∃ w', (∀ a, Fr N L a → (execOp a.eval o).run PP w = .ok .skip w') ∧ St w b (.cells ⟨c.take ofs ++ cs ++ c.drop (ofs + n)⟩ t (0, 0)) w' := by
  obtain ⟨w', hr, hs⟩ := storeCells_run (b := b) (ofs := ofs) cs 0 c w hb (by omega) hv
  refine ⟨w', fun a hf => ?_, by simpa [hn] using hs⟩
  obtain ⟨dst, op, ty, pos, after, guard⟩ := o
  simp only at h
  unfold sgA at h
  split at h
  · rename_i t x y
    split at h
    · rename_i n' a' cs' hn' hx hy
      simp only [Option.some.injEq, Prod.mk.injEq] at h
      obtain ⟨rfl, rfl, rfl⟩ := h
      obtain ⟨h1, h2⟩ := agg_run hn' w
      simp [execOp, hf.eval hx, hf.eval hy, Instr.storeAt, Instr.sureAddr, storeVar, Value.cells, h2, hn, hr]
    · cases h
  · cases h

/-- A struct written whole. -/
theorem WL.sg {n b ofs : Nat} {cs c : List Value} {t : TypeId} (hg : grd all L o = some true) (h : sgA L o.op = some (n, ⟨b, ofs, none⟩, cs)) (hn : cs.length = n)
    (hv : ∀ v ∈ cs, oneV v = true) (hb : w.heap[b]? = some (.cells ⟨c⟩ t (0, 0))) (hl : ofs + n ≤ c.length) (hd : dstE N o undef L = some L')
    (k : ∀ w', St w b (.cells ⟨c.take ofs ++ cs ++ c.drop (ofs + n)⟩ t (0, 0)) w' → WL all Q N L' rest w') : WL all Q N L (o :: rest) w := by
  obtain ⟨w', hr, hs⟩ := sgA_run (N := N) h hn hv hb hl
  exact WL.of_skip hg hr hd (k w' hs)

/-! ### Literals of structs and slices -/
def partsE (L : Env) : List (Nat × Operand) → Option (List (Nat × Value))
  | [] => some []
  | (i, x) :: r => match ev L x with
    | some v => match partsE L r with
      | some vs => some ((i, v) :: vs)
      | none => none
    | none => none

theorem partsE_eq {N : Nat} {L : Env} {a : Act} (hf : Fr N L a) : ∀ {ps : List (Nat × Operand)} {vs : List (Nat × Value)}, partsE L ps = some vs → ps.map (fun (i, x) => (i, a.eval x)) = vs
  | [], vs, h => by simp [partsE] at h; simp [h]
  | (i, x) :: r, vs, h => by
    simp only [partsE] at h
    cases h1 : ev L x with
    | none => simp [h1] at h
    | some v =>
      cases h2 : partsE L r with
      | none => simp [h1, h2] at h
      | some us =>
        simp only [h1, h2, Option.some.injEq] at h
        subst h
        have := partsE_eq hf h2
        simp only [List.map_cons, hf.eval h1]
        rw [← this]

def bdA (L : Env) (op : Op) : Option (Nat × List (Nat × Value)) :=
  match op with
  | .build t ⟨ps⟩ => match partsE L ps with
    | some vs => some (t, vs)
    | none => none
  | _ => none

theorem bdA_run {N : Nat} {L : Env} {a : Act} {t : Nat} {vs : List (Nat × Value)} (hf : Fr N L a) (h : bdA L o.op = some (t, vs)) : execOp a.eval o = (do pure (.value (← Instr.build t ⟨vs⟩))) := by
  obtain ⟨dst, op, ty, pos, after, guard⟩ := o
  simp only at h
  unfold bdA at h
  split at h
  · rename_i t' ps
    split at h
    · rename_i vs' hvs
      simp only [Option.some.injEq, Prod.mk.injEq] at h
      obtain ⟨rfl, rfl⟩ := h
      have := partsE_eq hf hvs
      simp only [execOp, List.map_toArray, this]
    · cases h
  · cases h

/-- A literal of a struct: what it comes to is a closed fact. -/
theorem WL.bd {t : Nat} {vs : List (Nat × Value)} {v : Value} (hg : grd all L o = some true) (h : bdA L o.op = some (t, vs)) (hr : ∀ w, (Instr.build t ⟨vs⟩).run PP w = .ok v w)
    (hd : dstE N o v L = some L') (k : WL all Q N L' rest w) : WL all Q N L (o :: rest) w :=
  WL.of_run hg (fun a hf => by rw [bdA_run hf h]; simp [hr]) hd k

def bsA (L : Env) (op : Op) : Option (Nat × Nat × List (Nat × Value)) :=
  match op with
  | .buildSlice t n ⟨ps⟩ => match partsE L ps with
    | some vs => some (t, n, vs)
    | none => none
  | _ => none

theorem bsA_run {N : Nat} {L : Env} {a : Act} {t n : Nat} {vs : List (Nat × Value)} (hf : Fr N L a) (h : bsA L o.op = some (t, n, vs)) : execOp a.eval o = (do pure (.value (← Instr.buildSlice t n ⟨vs⟩))) := by
  obtain ⟨dst, op, ty, pos, after, guard⟩ := o
  simp only at h
  unfold bsA at h
  split at h
  · rename_i t' n' ps
    split at h
    · rename_i vs' hvs
      simp only [Option.some.injEq, Prod.mk.injEq] at h
      obtain ⟨rfl, rfl, rfl⟩ := h
      have := partsE_eq hf hvs
      simp only [execOp, List.map_toArray, this]
    · cases h
  · cases h

/-- A literal of a slice: a new row; what it holds is a closed fact. -/
theorem WL.bs {t n e : Nat} {vs : List (Nat × Value)} {c : Array Value} (hg : grd all L o = some true) (h : bsA L o.op = some (t, n, vs))
    (hr : ∀ w, (Instr.buildSlice t n ⟨vs⟩).run PP w = .ok (.slice (some ⟨w.heap.size, 0, none⟩) n n) (w.alloc (.cells c e (0, 0))))
    (hd : dstE N o (.slice (some ⟨w.heap.size, 0, none⟩) n n) L = some L') (k : ∀ w', Al w (.cells c e (0, 0)) w' → WL all Q N L' rest w') : WL all Q N L (o :: rest) w :=
  WL.of_run hg (fun a hf => by rw [bsA_run hf h]; simp [hr]) hd (k _ (alloc_al w _))

/-! ### Any other operation of two operands, by its run -/
def boA (L : Env) (op : Op) : Option (BinOp × Nat × Value × Value) :=
  match op with
  | .binOp bop t x y _ => match ev L x, ev L y with
    | some (.int k a), some (.int k' b) => some (bop, t, .int k a, .int k' b)
    | some (.string a), some (.string b) => some (bop, t, .string a, .string b)
    | _, _ => none
  | _ => none

theorem WL.bo {bop : BinOp} {t : Nat} {x y v : Value} (hg : grd all L o = some true) (h : boA L o.op = some (bop, t, x, y)) (hr : (binOp bop t x y).run PP w = .ok v w)
    (hd : dstE N o v L = some L') (k : WL all Q N L' rest w) : WL all Q N L (o :: rest) w := by
  refine WL.of_run hg (fun a hf => ?_) hd k
  obtain ⟨dst, op, ty, pos, after, guard⟩ := o
  simp only at h
  unfold boA at h
  split at h
  · rename_i b2 t' ox oy t2
    split at h
    · rename_i k1 a1 k2 b1 hx hy
      simp only [Option.some.injEq, Prod.mk.injEq] at h
      obtain ⟨rfl, rfl, rfl, rfl⟩ := h
      simp only [execOp, hf.eval hx, hf.eval hy, Sem.run_bind, eqGuard_int, Result.andThen_ok, hr, Sem.run_pure]
    · rename_i a1 b1 hx hy
      simp only [Option.some.injEq, Prod.mk.injEq] at h
      obtain ⟨rfl, rfl, rfl, rfl⟩ := h
      simp only [execOp, hf.eval hx, hf.eval hy, Sem.run_bind, eqGuard_str, Result.andThen_ok, hr, Sem.run_pure]
    · cases h
  · cases h

/-! ### Regions whose order is open -/
def WD (all : List Oper) (Q : Exit → Act → World → Prop) (N : Nat) (S : World → Prop) (fuel : Nat) (listed : Array Bool) (L : Env) (w : World) : Prop :=
  ∀ a, Fr N L a → wpAnyH PP .any all.toArray Q S fuel listed a w

theorem mixed : PP.follows .mixedOrders = true := by kernel_rfl

theorem WC.draw {id : Nat} {l : List Oper} (S : World → Prop) (k : WD l Q N S l.length (Array.replicate l.length false) L w.drew) : WC Q N L (.region id ⟨l⟩ true) w := fun a hf =>
  wp_region_held (S := S) mixed (by have := k a hf; simpa using this)

def sideOk (all : List Oper) (listed : Array Bool) (i : Nat) : Bool :=
  Region.noSelect all.toArray && Region.free .any all.toArray listed i && (Region.ready .any all.toArray listed).contains i

def PanicOk (Q : Exit → Act → World → Prop) : Prop := ∀ c a d v w, Q (.panic c) (Act.put a d v) w → Q (.panic c) a w

variable {S : World → Prop} {fuel : Nat} {listed : Array Bool}

theorem WD.of_yields {v : Value} (i : Nat) (hi : all[i]? = some o) (hs : sideOk all listed i = true) (hQ : PanicOk Q) (hy : ∀ a, Fr N L a → YieldsIf PP all.toArray S o v a) (hS : S w)
    (hd : dstE N o v L = some L') (k : WD all Q N S fuel (listed.setIfInBounds i true) L' w) : WD all Q N S (fuel + 1) listed L w := fun a hf => by
  simp only [sideOk, Bool.and_eq_true] at hs
  exact wpAnyH_take (by simpa using hi) hs.1.1 hs.1.2 hs.2 (fun c a w h => hQ c a _ _ w h) (hy a hf) hS (k _ (dstE_ok hf hd))

/-- Operation i, quiet, is taken now. -/
theorem WD.tp (i : Nat) (hi : all[i]? = some o) (hs : sideOk all listed i = true) (hQ : PanicOk Q) (hS : S w) (h : stepP N all L o = some L')
    (k : WD all Q N S fuel (listed.setIfInBounds i true) L' w) : WD all Q N S (fuel + 1) listed L w := by
  unfold stepP at h
  split at h
  · rename_i hg
    split at h
    · rename_i v hv
      exact WD.of_yields i hi hs hQ (fun a hf => .inl ⟨grd_ok hf hg, fun w _ => pure1_run hf hv w⟩) hS h k
    · cases h
  · rename_i hg
    exact WD.of_yields i hi hs hQ (fun a hf => .inr ⟨grd_ok hf hg, rfl⟩) hS h k
  · cases h

/-- Operation i, which runs alike in every world that meets S, is taken now. -/
theorem WD.tr {v : Value} (i : Nat) (hi : all[i]? = some o) (hs : sideOk all listed i = true) (hQ : PanicOk Q) (hS : S w) (hg : grd all L o = some true)
    (hr : ∀ w', S w' → ∀ a, Fr N L a → (execOp a.eval o).run PP w' = .ok (.value v) w') (hd : dstE N o v L = some L')
    (k : WD all Q N S fuel (listed.setIfInBounds i true) L' w) : WD all Q N S (fuel + 1) listed L w :=
  WD.of_yields i hi hs hQ (fun a hf => .inl ⟨grd_ok hf hg, fun w' hw' => hr w' hw' a hf⟩) hS hd k

theorem WD.tl {ad : Addr} {v : Value} (i : Nat) (hi : all[i]? = some o) (hs : sideOk all listed i = true) (hQ : PanicOk Q) (hS : S w) (hg : grd all L o = some true) (h : ldA L o.op = some ad)
    (hc : ∀ w', S w' → w'.cell? ad = some v) (hd : dstE N o v L = some L')
    (k : WD all Q N S fuel (listed.setIfInBounds i true) L' w) : WD all Q N S (fuel + 1) listed L w :=
  WD.tr i hi hs hQ hS hg (fun w' hw' a hf => ldA_run hf h (hc w' hw')) hd k

theorem WD.ti {n b ofs len : Nat} {j : Int} (i m : Nat) (hi : all[i]? = some o) (hs : sideOk all listed i = true) (hQ : PanicOk Q) (hS : S w) (hg : grd all L o = some true)
    (h : ixA L o.op = some (n, b, ofs, len, j)) (hj : j = (m : Int)) (hm : m < len) (hd : dstE N o (.pointer (some ⟨b, ofs + m * n, none⟩)) L = some L')
    (k : WD all Q N S fuel (listed.setIfInBounds i true) L' w) : WD all Q N S (fuel + 1) listed L w := by
  subst hj
  exact WD.tr i hi hs hQ hS hg (fun w' _ a hf => by have := ixA_run hf h (by omega) (by omega) w'; simpa using this) hd k

theorem WD.ta {bop x y} (i : Nat) (hi : all[i]? = some o) (hs : sideOk all listed i = true) (hQ : PanicOk Q) (hS : S w) (hg : grd all L o = some true)
    (h : arA L o.op = some (bop, .i64, x, y)) (hb : -9223372036854775808 ≤ arV bop x y ∧ arV bop x y ≤ 9223372036854775807) (hd : dstE N o (.int .i64 (arV bop x y)) L = some L')
    (k : WD all Q N S fuel (listed.setIfInBounds i true) L' w) : WD all Q N S (fuel + 1) listed L w :=
  WD.tr i hi hs hQ hS hg (fun w' _ a hf => by rw [arA_run hf h w', wrap_i64 hb]) hd k

theorem WD.ta32 {bop x y} (i : Nat) (hi : all[i]? = some o) (hs : sideOk all listed i = true) (hQ : PanicOk Q) (hS : S w) (hg : grd all L o = some true)
    (h : arA L o.op = some (bop, .i32, x, y)) (hb : -2147483648 ≤ arV bop x y ∧ arV bop x y ≤ 2147483647) (hd : dstE N o (.int .i32 (arV bop x y)) L = some L')
    (k : WD all Q N S fuel (listed.setIfInBounds i true) L' w) : WD all Q N S (fuel + 1) listed L w :=
  WD.tr i hi hs hQ hS hg (fun w' _ a hf => by rw [arA_run hf h w', wrap_i32 hb]) hd k

theorem WD.ts {bd ofs c len : Nat} {ad : Option Addr} {lo hi : Option Int} {L' : Option Addr → Env} (i n' l : Nat) (hi' : all[i]? = some o) (hsd : sideOk all listed i = true) (hQ : PanicOk Q) (hS : S w) (hg : grd all L o = some true)
    (h : slA L o.op = some (1, ad, len, c, lo, hi)) (hs : Sf bd ofs c ad) (hlo : lo.getD 0 = (l : Int)) (hhi : hi.getD len = ((l + n' : Nat) : Int)) (hc : l + n' ≤ c)
    (hd : ∀ ad', dstE N o (.slice ad' n' (c - l)) L = some (L' ad'))
    (k : ∀ ad', Sf bd (ofs + l) (c - l) ad' → WD all Q N S fuel (listed.setIfInBounds i true) (L' ad') w) : WD all Q N S (fuel + 1) listed L w := by
  have hs' : Sf bd (ofs + l) (c - l) (if c = l then ad else ad.map (·.add (l * 1))) := by
    exact hs.sl l
  refine WD.tr i hi' hsd hQ hS hg (fun w' _ a hf => ?_) (hd _) (k _ hs')
  have := slA_run hf h hlo hhi (by omega) hc w'
  rw [this]
  congr 3
  omega

/-- All have come up. -/
theorem WD.nil (hr : Region.ready .any all.toArray listed = []) (k : X .normal Q N L w) : WD all Q N S fuel listed L w := fun a hf => wpAnyH_done hr (k a hf) fuel

theorem WD.one {i : Nat} (hr : Region.ready .any all.toArray listed = [i]) (hi : all[i]? = some o) (hg : grd all L o = some true)
    (k : ∀ a, Fr N L a → o.wp PP a w (fun a' w' => S w' ∧ wpAnyH PP .any all.toArray Q S fuel (listed.setIfInBounds i true) a' w') Q) : WD all Q N S (fuel + 1) listed L w := fun a hf => by
  refine wpAnyH_all hr (by simp) fun j hj => ?_
  have : j = i := by simpa using hj
  subst this
  unfold wpOp
  have hi' : (all.toArray)[j]? = some o := by simpa using hi
  simp only [hi', grd_ok hf hg, if_true]
  exact .inl (k a hf)

/-- The one operation that may come up now, by its run. -/
theorem WD.rv {v : Value} {w' : World} (i : Nat) (hr : Region.ready .any all.toArray listed = [i]) (hi : all[i]? = some o) (hg : grd all L o = some true)
    (hrun : ∀ a, Fr N L a → (execOp a.eval o).run PP w = .ok (.value v) w') (hS : S w') (hd : dstE N o v L = some L')
    (k : WD all Q N S fuel (listed.setIfInBounds i true) L' w') : WD all Q N S (fuel + 1) listed L w :=
  WD.one hr hi hg fun a hf => by
    unfold Oper.wp
    rw [hrun a hf]
    exact ⟨hS, k _ (dstE_ok hf hd)⟩

theorem WD.rk {w' : World} (i : Nat) (hr : Region.ready .any all.toArray listed = [i]) (hi : all[i]? = some o) (hg : grd all L o = some true)
    (hrun : ∀ a, Fr N L a → (execOp a.eval o).run PP w = .ok .skip w') (hS : S w') (hd : dstE N o undef L = some L')
    (k : WD all Q N S fuel (listed.setIfInBounds i true) L' w') : WD all Q N S (fuel + 1) listed L w :=
  WD.one hr hi hg fun a hf => by
    unfold Oper.wp
    rw [hrun a hf]
    exact ⟨hS, k _ (dstE_ok hf hd)⟩

theorem WD.rc {f : Nat} {vs : List Value} {R : Ending → World → Prop} (i : Nat) (hr : Region.ready .any all.toArray listed = [i]) (hi : all[i]? = some o) (hg : grd all L o = some true)
    (hc : callA L o.op = some (f, vs)) (hf3 : (Nat.ble 3 f && Nat.blt f 150) = true) (h : Calls PP f vs.toArray w R)
    (k : ∀ e w', R e w' → ∃ v L', e = .returned v ∧ dstE N o v L = some L' ∧ S w' ∧ WD all Q N S fuel (listed.setIfInBounds i true) L' w') : WD all Q N S (fuel + 1) listed L w :=
  WD.one hr hi hg fun a hf => by
    unfold Oper.wp
    rw [callA_run hf hc (callOk_at hf3) w]
    refine h.mono fun e w' hR => ?_
    obtain ⟨v, L', rfl, hd, hS, hk⟩ := k e w' hR
    exact ⟨hS, hk _ (dstE_ok hf hd)⟩

end steps
attribute [irreducible] WD
end Go.Proofs.YtaccphdkapmdhaaGreat

