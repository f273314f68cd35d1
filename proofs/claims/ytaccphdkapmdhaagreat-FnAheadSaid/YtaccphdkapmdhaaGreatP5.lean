/- More steps: slices, structs, new rows, regions whose order is open. Regions whose order is open, walked in the order of the text; words of 64 bits; texts out of slices of bytes. No condition. -/
import Derived.Test.YtaccphdkapmdhaaGreatP4
namespace Go.Proofs.YtaccphdkapmdhaaGreat
attribute [local semireducible] WL WC X

/-- A slice value that begins at cell o of block bd and has c cells to its end (its address counts where there is a cell left). -/
def Sf (bd o c : Nat) (ad : Option Addr) : Prop := ∃ a, ad = some a ∧ (0 < c → a = ⟨bd, o, none⟩)

theorem Sf.mk (bd o c : Nat) : Sf bd o c (some ⟨bd, o, none⟩) := ⟨_, rfl, fun _ => rfl⟩
theorem Sf.addr {bd o c : Nat} {ad : Option Addr} (h : Sf bd o c ad) (hc : 0 < c) : ad = some ⟨bd, o, none⟩ := by
  obtain ⟨a, rfl, h2⟩ := h; rw [h2 hc]

theorem Sf.sl {bd ofs c : Nat} {ad : Option Addr} (hs : Sf bd ofs c ad) (l : Nat) : Sf bd (ofs + l) (c - l) (if c = l then ad else ad.map (·.add (l * 1))) := by
  obtain ⟨a, rfl, ha⟩ := hs
  split
  · rename_i e; exact ⟨a, rfl, fun h => by omega⟩
  · rename_i e
    refine ⟨a.add (l * 1), rfl, fun h => ?_⟩
    rw [ha (by omega), addr_lit, Nat.mul_one]

section steps
variable {all : List Oper} {Q : Exit → Act → World → Prop} {N : Nat} {L L' : Env} {o : Oper} {rest : List Oper} {w : World}

/-! ### Slicing -/
def optI (L : Env) : Option Operand → Option (Option Int)
  | none => some none
  | some x => match ev L x with
    | some (.int _ n) => some (some n)
    | _ => none

def slA (L : Env) (op : Op) : Option (Nat × Option Addr × Nat × Nat × Option Int × Option Int) :=
  match op with
  | .slice t x lo hi none => match elemSize t, ev L x, optI L lo, optI L hi with
    | some n, some (.slice a len cap), some l, some h => some (n, a, len, cap, l, h)
    | _, _, _, _ => none
  | _ => none

theorem optI_run {N : Nat} {L : Env} {a : Act} (hf : Fr N L a) {x : Option Operand} {r : Option Int} (h : optI L x = some r) :
    (x.map a.eval = none ∧ r = none) ∨ ∃ k n, x.map a.eval = some (.int k n) ∧ r = some n := by
  cases x with
  | none => simp [optI] at h; exact .inl ⟨rfl, h.symm⟩
  | some y =>
    simp only [optI] at h
    split at h
    · rename_i k n hy
      simp only [Option.some.injEq] at h
      exact .inr ⟨k, n, by simp [hf.eval hy], h.symm⟩
    · cases h

theorem sliceBound_ok {k : IntKind} {n : Int} {y : Nat} {code : BoundsCode} {i : Nat} (hn : n = (i : Int)) (h : i ≤ y) (w : World) : (Instr.sliceBound (.int k n) y code).run PP w = .ok i w := by
  subst hn
  simp [Instr.sliceBound, asIntOf, h]

theorem slA_run {N : Nat} {L : Env} {a : Act} {sz len cap : Nat} {ad : Option Addr} {lo hi : Option Int} {l h' : Nat} (hf : Fr N L a) (h : slA L o.op = some (sz, ad, len, cap, lo, hi))
    (hlo : lo.getD 0 = (l : Int)) (hhi : hi.getD len = (h' : Int)) (h1 : l ≤ h') (h2 : h' ≤ cap) (w : World) :
    (execOp a.eval o).run PP w = .ok (.value (.slice (if cap = l then ad else ad.map (·.add (l * sz))) (h' - l) (cap - l))) w := by
  obtain ⟨dst, op, ty, pos, after, guard⟩ := o
  simp only at h
  unfold slA at h
  split at h
  · rename_i t x olo ohi
    split at h
    · rename_i n a' len' cap' l' hh hn hx hl hh'
      simp only [Option.some.injEq, Prod.mk.injEq] at h
      obtain ⟨rfl, rfl, rfl, rfl, rfl, rfl⟩ := h
      have hfit := elemFits_all t n hn
      unfold elemFits at hfit
      split at hfit
      · rename_i e hu
        split at hfit
        · rename_i inf hinf
          simp only [beq_iff_eq] at hfit
          have hsz : ∀ w, (sizeOf e).run PP w = .ok n w := fun w => by simp [sizeOf, typeInfo, hinf, hfit]
          have core : ∀ w, (Instr.sliceBounds true len' cap' (olo.map a.eval) (ohi.map a.eval) none).run PP w = .ok (l, h', cap') w := by
            intro w
            rcases optI_run hf hl with ⟨e1, rfl⟩ | ⟨k1, n1, e1, rfl⟩ <;> rcases optI_run hf hh' with ⟨e2, rfl⟩ | ⟨k2, n2, e2, rfl⟩
            · have hl0 : l = 0 := by simp at hlo; omega
              have hh0 : h' = len' := by simp at hhi; omega
              subst hl0; subst hh0
              simp [Instr.sliceBounds, e1, e2]
            · have hl0 : l = 0 := by simp at hlo; omega
              subst hl0
              simp [Instr.sliceBounds, e1, e2, sliceBound_ok (show n2 = (h' : Int) by simpa using hhi) h2]
            · have hh0 : h' = len' := by simp at hhi; omega
              subst hh0
              simp [Instr.sliceBounds, e1, e2, sliceBound_ok (show n1 = (l : Int) by simpa using hlo) h1]
            · simp [Instr.sliceBounds, e1, e2, sliceBound_ok (show n2 = (h' : Int) by simpa using hhi) h2, sliceBound_ok (show n1 = (l : Int) by simpa using hlo) h1]
          simp only [execOp, hf.eval hx, Instr.sliceAt, Instr.slice, Sem.run_bind, run_underlying hu, Result.andThen_ok, Option.map_none, core, hsz, Sem.run_pure]
        · simp at hfit
      · simp at hfit
    · cases h
  · cases h

/-- Slicing of a value whose place is known. -/
theorem WL.sS {bd ofs c len : Nat} {ad : Option Addr} {lo hi : Option Int} {L' : Option Addr → Env} (n' l : Nat) (hg : grd all L o = some true) (h : slA L o.op = some (1, ad, len, c, lo, hi)) (hs : Sf bd ofs c ad)
    (hlo : lo.getD 0 = (l : Int)) (hhi : hi.getD len = ((l + n' : Nat) : Int)) (hc : l + n' ≤ c)
    (hd : ∀ ad', dstE N o (.slice ad' n' (c - l)) L = some (L' ad')) (k : ∀ ad', Sf bd (ofs + l) (c - l) ad' → WL all Q N (L' ad') rest w) : WL all Q N L (o :: rest) w := by
  have hs' : Sf bd (ofs + l) (c - l) (if c = l then ad else ad.map (·.add (l * 1))) := by
    exact hs.sl l
  refine WL.of_run hg (fun a hf => ?_) (hd _) (k _ hs')
  have := slA_run hf h hlo hhi (by omega) hc w
  rw [this]
  congr 3
  omega

/-- 'x[:n]'. -/
theorem WL.s0 {sz len cap : Nat} {ad : Option Addr} {hi : Option Int} (n' : Nat) (hg : grd all L o = some true) (h : slA L o.op = some (sz, ad, len, cap, none, hi)) (hhi : hi.getD len = (n' : Int)) (hc : n' ≤ cap)
    (hd : dstE N o (.slice ad n' cap) L = some L') (k : WL all Q N L' rest w) : WL all Q N L (o :: rest) w := by
  refine WL.of_run hg (fun a hf => ?_) hd k
  have := slA_run hf h (l := 0) rfl hhi (by omega) hc w
  rw [this]
  have hz : ∀ a : Addr, a.add 0 = a := fun a => rfl
  cases ad <;> simp [hz]

/-! ### Structs in memory -/
def aggSize : Nat → Option Nat
  | 37 => some 4 | 40 => some 6 | 104 => some 7 | 101 => some 2 | 129 => some 4 | 132 => some 6 | 145 => some 4 | 120 => some 3 | 108 => some 3 | 147 => some 2
  | _ => none

noncomputable def aggFits (t n : Nat) : Bool :=
  (match PP.underlying t with | some (.struct _) => true | _ => false) && (match PP.info? t with | some i => i.size == n | none => false)

theorem aggFits_all : ∀ t n, aggSize t = some n → aggFits t n = true := by
  intro t n h
  unfold aggSize at h
  split at h <;> first
    | (cases h; done)
    | (simp only [Option.some.injEq] at h; subst h; kernel_rfl)

theorem agg_run {t n : Nat} (h : aggSize t = some n) (w : World) : (isAgg t).run PP w = .ok true w ∧ (sizeOf t).run PP w = .ok n w := by
  have := aggFits_all t n h
  unfold aggFits at this
  simp only [Bool.and_eq_true] at this
  obtain ⟨h1, h2⟩ := this
  constructor
  · unfold isAgg
    split at h1
    · rename_i fs hu; simp only [Sem.run_bind, run_underlying hu, Result.andThen_ok, Sem.run_pure]
    · simp at h1
  · split at h2
    · rename_i i hi
      simp only [beq_iff_eq] at h2
      simp [sizeOf, typeInfo, hi, h2]
    · simp at h2

theorem loadCellsFrom_run {w : World} {b ofs : Nat} : ∀ (cs : List Value) (i : Nat) (acc : Array Value), (∀ j v, cs[j]? = some v → w.cell? ⟨b, ofs + (i + j), none⟩ = some v) →
    (loadCellsFrom ⟨b, ofs, none⟩ i cs.length acc).run PP w = .ok (acc ++ cs.toArray) w
  | [], i, acc, _ => by simp [loadCellsFrom]
  | v :: cs, i, acc, h => by
    have h0 := h 0 v rfl
    simp only [Nat.add_zero] at h0
    have ih := loadCellsFrom_run cs (i + 1) (acc.push v) (fun j u hu => by
      have := h (j + 1) u (by simpa using hu)
      rw [show ofs + (i + 1 + j) = ofs + (i + (j + 1)) by omega]; exact this)
    simp only [List.length_cons, loadCellsFrom, Sem.run_bind, addr_lit, run_load, h0, Result.andThen_ok, ih]
    simp

theorem loadCells_run {w : World} {b ofs : Nat} (cs : List Value) (h : ∀ j v, cs[j]? = some v → w.cell? ⟨b, ofs + j, none⟩ = some v) :
    (loadCells ⟨b, ofs, none⟩ cs.length).run PP w = .ok cs.toArray w := by
  have := loadCellsFrom_run cs 0 #[] (by simpa using h)
  simpa [loadCells] using this

def lgA (L : Env) (op : Op) : Option (Nat × Addr) :=
  match op with
  | .load t x => match aggSize t, ev L x with
    | some n, some (.pointer (some a)) => some (n, a)
    | _, _ => none
  | _ => none

theorem lgA_run {N : Nat} {L : Env} {a : Act} {n b ofs : Nat} {cs : List Value} (hf : Fr N L a) (h : lgA L o.op = some (n, ⟨b, ofs, none⟩)) (hn : cs.length = n)
    (hc : ∀ j v, cs[j]? = some v → w.cell? ⟨b, ofs + j, none⟩ = some v) : (execOp a.eval o).run PP w = .ok (.value (.agg cs.toArray)) w := by
  obtain ⟨dst, op, ty, pos, after, guard⟩ := o
  simp only at h
  unfold lgA at h
  split at h
  · rename_i t x
    split at h
    · rename_i n' a' hn' hx
      simp only [Option.some.injEq, Prod.mk.injEq] at h
      obtain ⟨rfl, rfl⟩ := h
      obtain ⟨h1, h2⟩ := agg_run hn' w
      subst hn
      simp [execOp, hf.eval hx, Instr.loadAt, Instr.sureAddr, loadVar, h1, h2, loadCells_run cs hc]
    · cases h
  · cases h

theorem cells_block {w : World} {b ofs : Nat} {c : Array Value} {t : TypeId} {fz : Nat × Nat} {cs : List Value} (hb : w.heap[b]? = some (.cells c t fz)) (hx : (c.toList.drop ofs).take cs.length = cs) :
    ∀ j v, cs[j]? = some v → w.cell? ⟨b, ofs + j, none⟩ = some v := by
  intro j v hv
  refine cell_of hb ?_
  rw [← hx, List.getElem?_take] at hv
  split at hv
  · rw [List.getElem?_drop] at hv
    simpa using hv
  · cases hv

/-- A struct read whole. -/
theorem WL.lg {n b ofs : Nat} {cs : List Value} (hg : grd all L o = some true) (h : lgA L o.op = some (n, ⟨b, ofs, none⟩)) (hn : cs.length = n)
    (hc : ∀ j v, cs[j]? = some v → w.cell? ⟨b, ofs + j, none⟩ = some v) (hd : dstE N o (.agg cs.toArray) L = some L') (k : WL all Q N L' rest w) : WL all Q N L (o :: rest) w :=
  WL.of_run hg (fun a hf => lgA_run hf h hn hc) hd k

/-- A struct that fills its block, read whole. -/
theorem WL.lgB {n b : Nat} {cs : List Value} {t : TypeId} {fz : Nat × Nat} (hg : grd all L o = some true) (h : lgA L o.op = some (n, ⟨b, 0, none⟩)) (hb : w.heap[b]? = some (.cells ⟨cs⟩ t fz)) (hn : cs.length = n)
    (hd : dstE N o (.agg ⟨cs⟩) L = some L') (k : WL all Q N L' rest w) : WL all Q N L (o :: rest) w :=
  WL.lg hg h hn (cells_block hb (by simp)) hd k

def sgA (L : Env) (op : Op) : Option (Nat × Addr × List Value) :=
  match op with
  | .store t x y => match aggSize t, ev L x, ev L y with
    | some n, some (.pointer (some a)), some (.agg ⟨cs⟩) => some (n, a, cs)
    | _, _, _ => none
  | _ => none

theorem splice_step (c : List Value) (n : Nat) (v : Value) (vs : List Value) (h : n < c.length) :
    (c.set n v).take (n + 1) ++ vs ++ (c.set n v).drop (n + 1 + vs.length) = c.take n ++ v :: vs ++ c.drop (n + 1 + vs.length) := by
  have hc : c = c.take n ++ c[n] :: c.drop (n + 1) := by simp
  have hl : (c.take n).length = n := by simp; omega
  generalize c.take n = l1 at hc hl ⊢
  generalize c.drop (n + 1) = l2 at hc
  generalize c[n] = x at hc
  subst hc
  subst hl
  have e : l1.length + 1 + vs.length - l1.length = vs.length + 1 := by omega
  simp [List.set_append_right, List.take_append, List.drop_append, e, List.take_of_length_le (Nat.le_succ l1.length)]

theorem storeCells_run {b ofs : Nat} {t : TypeId} : ∀ (vs : List Value) (i : Nat) (c : List Value) (w : World), w.heap[b]? = some (.cells ⟨c⟩ t (0, 0)) → ofs + i + vs.length ≤ c.length → (∀ v ∈ vs, oneV v = true) →
    ∃ w', (storeCells ⟨b, ofs, none⟩ vs i).run PP w = .ok () w' ∧ St w b (.cells ⟨c.take (ofs + i) ++ vs ++ c.drop (ofs + i + vs.length)⟩ t (0, 0)) w'
  | [], i, c, w, hb, hl, _ => by
    refine ⟨w, by simp [storeCells], ⟨rfl, rfl, rfl, rfl, ?_, fun _ _ => rfl⟩⟩
    rw [hb]; simp
  | v :: vs, i, c, w, hb, hl, hv => by
    simp only [List.length_cons] at hl
    have hlt : ofs + i < c.length := by omega
    have h1 : v.oneCell' = true := by have := hv v (by simp); cases v <;> first | rfl | (simp [oneV] at this)
    have hcell : w.cell? ⟨b, ofs + i, none⟩ = some c[ofs + i] := cell_of hb (by simp [hlt])
    have hfr : w.frozen? ⟨b, ofs + i, none⟩ = false := by simp [World.frozen?, hb]
    have hst := run_store PP w ⟨b, ofs + i, none⟩ v .plain h1
    rw [hcell] at hst
    simp only [hfr] at hst
    have hs1 := setCell_st (i := ofs + i) v hb
    have hb' : (w.setCell ⟨b, ofs + i, none⟩ v).heap[b]? = some (.cells ⟨c.set (ofs + i) v⟩ t (0, 0)) := by rw [hs1.at_]; simp
    obtain ⟨w', hr, hs2⟩ := storeCells_run (ofs := ofs) vs (i + 1) (c.set (ofs + i) v) (w.setCell ⟨b, ofs + i, none⟩ v) hb' (by rw [List.length_set]; omega) (fun u hu => hv u (by simp [hu]))
    refine ⟨w', ?_, ⟨hs2.os, hs2.tape, hs2.output, by rw [hs2.size, hs1.size], ?_, fun k hk => by rw [hs2.oth k hk, hs1.oth k hk]⟩⟩
    · simp only [storeCells, Sem.run_bind, addr_lit, hst, Bool.false_eq_true, if_false, Result.andThen_ok, hr]
    · rw [hs2.at_]
      have e1 : ofs + (i + 1) = (ofs + i) + 1 := by omega
      have e2 : ofs + i + 1 + vs.length = ofs + i + (v :: vs).length := by simp; omega
      rw [e1, ← e2, splice_step c (ofs + i) v vs hlt]

theorem sgA_run {N : Nat} {L : Env} {n b ofs : Nat} {cs c : List Value} {t : TypeId} (h : sgA L o.op = some (n, ⟨b, ofs, none⟩, cs)) (hn : cs.length = n)
    (hv : ∀ v ∈ cs, oneV v = true) (hb : w.heap[b]? = some (.cells ⟨c⟩ t (0, 0))) (hl : ofs + n ≤ c.length) :
    ∃ w', (∀ a, Fr N L a → (execOp a.eval o).run PP w = .ok .skip w') ∧ St w b (.cells ⟨c.take ofs ++ cs ++ c.drop (ofs + n)⟩ t (0, 0)) w' := by
  obtain ⟨w', hr, hs⟩ := storeCells_run (b := b) (ofs := ofs) cs 0 c w hb (by omega) hv
  refine ⟨w', fun a hf => ?_, by simpa [hn] using hs⟩
  obtain ⟨dst, op, ty, pos, after, guard⟩ := o
  simp only at h
  unfold sgA at h
  split at h
  · rename_i t x y
    split at h
    · rename_i n' a' cs' hn' hx hy
      simp only [Option.some.injEq, Prod.mk.injEq] at h
      obtain ⟨rfl, rfl, rfl⟩ := h
      obtain ⟨h1, h2⟩ := agg_run hn' w
      simp [execOp, hf.eval hx, hf.eval hy, Instr.storeAt, Instr.sureAddr, storeVar, Value.cells, h2, hn, hr]
    · cases h
  · cases h

/-- A struct written whole. -/
theorem WL.sg {n b ofs : Nat} {cs c : List Value} {t : TypeId} (hg : grd all L o = some true) (h : sgA L o.op = some (n, ⟨b, ofs, none⟩, cs)) (hn : cs.length = n)
    (hv : ∀ v ∈ cs, oneV v = true) (hb : w.heap[b]? = some (.cells ⟨c⟩ t (0, 0))) (hl : ofs + n ≤ c.length) (hd : dstE N o undef L = some L')
    (k : ∀ w', St w b (.cells ⟨c.take ofs ++ cs ++ c.drop (ofs + n)⟩ t (0, 0)) w' → WL all Q N L' rest w') : WL all Q N L (o :: rest) w := by
  obtain ⟨w', hr, hs⟩ := sgA_run (N := N) h hn hv hb hl
  exact WL.of_skip hg hr hd (k w' hs)

/-! ### Literals of structs and slices -/
def partsE (L : Env) : List (Nat × Operand) → Option (List (Nat × Value))
  | [] => some []
  | (i, x) :: r => match ev L x with
    | some v => match partsE L r with
      | some vs => some ((i, v) :: vs)
      | none => none
    | none => none

theorem partsE_eq {N : Nat} {L : Env} {a : Act} (hf : Fr N L a) : ∀ {ps : List (Nat × Operand)} {vs : List (Nat × Value)}, partsE L ps = some vs → ps.map (fun (i, x) => (i, a.eval x)) = vs
  | [], vs, h => by simp [partsE] at h; simp [h]
  | (i, x) :: r, vs, h => by
    simp only [partsE] at h
    cases h1 : ev L x with
    | none => simp [h1] at h
    | some v =>
      cases h2 : partsE L r with
      | none => simp [h1, h2] at h
      | some us =>
        simp only [h1, h2, Option.some.injEq] at h
        subst h
        have := partsE_eq hf h2
        simp only [List.map_cons, hf.eval h1]
        rw [← this]

def bdA (L : Env) (op : Op) : Option (Nat × List (Nat × Value)) :=
  match op with
  | .build t ⟨ps⟩ => match partsE L ps with
    | some vs => some (t, vs)
    | none => none
  | _ => none

theorem bdA_run {N : Nat} {L : Env} {a : Act} {t : Nat} {vs : List (Nat × Value)} (hf : Fr N L a) (h : bdA L o.op = some (t, vs)) : execOp a.eval o = (do pure (.value (← Instr.build t ⟨vs⟩))) := by
  obtain ⟨dst, op, ty, pos, after, guard⟩ := o
  simp only at h
  unfold bdA at h
  split at h
  · rename_i t' ps
    split at h
    · rename_i vs' hvs
      simp only [Option.some.injEq, Prod.mk.injEq] at h
      obtain ⟨rfl, rfl⟩ := h
      have := partsE_eq hf hvs
      simp only [execOp, List.map_toArray, this]
    · cases h
  · cases h

/-- A literal of a struct: what it comes to is a closed fact. -/
theorem WL.bd {t : Nat} {vs : List (Nat × Value)} {v : Value} (hg : grd all L o = some true) (h : bdA L o.op = some (t, vs)) (hr : ∀ w, (Instr.build t ⟨vs⟩).run PP w = .ok v w)
    (hd : dstE N o v L = some L') (k : WL all Q N L' rest w) : WL all Q N L (o :: rest) w :=
  WL.of_run hg (fun a hf => by rw [bdA_run hf h]; simp [hr]) hd k

def bsA (L : Env) (op : Op) : Option (Nat × Nat × List (Nat × Value)) :=
  match op with
  | .buildSlice t n ⟨ps⟩ => match partsE L ps with
    | some vs => some (t, n, vs)
    | none => none
  | _ => none

theorem bsA_run {N : Nat} {L : Env} {a : Act} {t n : Nat} {vs : List (Nat × Value)} (hf : Fr N L a) (h : bsA L o.op = some (t, n, vs)) : execOp a.eval o = (do pure (.value (← Instr.buildSlice t n ⟨vs⟩))) := by
  obtain ⟨dst, op, ty, pos, after, guard⟩ := o
  simp only at h
  unfold bsA at h
  split at h
  · rename_i t' n' ps
    split at h
    · rename_i vs' hvs
      simp only [Option.some.injEq, Prod.mk.injEq] at h
      obtain ⟨rfl, rfl, rfl⟩ := h
      have := partsE_eq hf hvs
      simp only [execOp, List.map_toArray, this]
    · cases h
  · cases h

/-- A literal of a slice: a new row; what it holds is a closed fact. -/
theorem WL.bs {t n e : Nat} {vs : List (Nat × Value)} {c : Array Value} (hg : grd all L o = some true) (h : bsA L o.op = some (t, n, vs))
    (hr : ∀ w, (Instr.buildSlice t n ⟨vs⟩).run PP w = .ok (.slice (some ⟨w.heap.size, 0, none⟩) n n) (w.alloc (.cells c e (0, 0))))
    (hd : dstE N o (.slice (some ⟨w.heap.size, 0, none⟩) n n) L = some L') (k : ∀ w', Al w (.cells c e (0, 0)) w' → WL all Q N L' rest w') : WL all Q N L (o :: rest) w :=
  WL.of_run hg (fun a hf => by rw [bsA_run hf h]; simp [hr]) hd (k _ (alloc_al w _))

/-! ### Any other operation of two operands, by its run -/
def boA (L : Env) (op : Op) : Option (BinOp × Nat × Value × Value) :=
  match op with
  | .binOp bop t x y _ => match ev L x, ev L y with
    | some (.int k a), some (.int k' b) => some (bop, t, .int k a, .int k' b)
    | some (.string a), some (.string b) => some (bop, t, .string a, .string b)
    | _, _ => none
  | _ => none

theorem WL.bo {bop : BinOp} {t : Nat} {x y v : Value} (hg : grd all L o = some true) (h : boA L o.op = some (bop, t, x, y)) (hr : (binOp bop t x y).run PP w = .ok v w)
    (hd : dstE N o v L = some L') (k : WL all Q N L' rest w) : WL all Q N L (o :: rest) w := by
  refine WL.of_run hg (fun a hf => ?_) hd k
  obtain ⟨dst, op, ty, pos, after, guard⟩ := o
  simp only at h
  unfold boA at h
  split at h
  · rename_i b2 t' ox oy t2
    split at h
    · rename_i k1 a1 k2 b1 hx hy
      simp only [Option.some.injEq, Prod.mk.injEq] at h
      obtain ⟨rfl, rfl, rfl, rfl⟩ := h
      simp only [execOp, hf.eval hx, hf.eval hy, Sem.run_bind, eqGuard_int, Result.andThen_ok, hr, Sem.run_pure]
    · rename_i a1 b1 hx hy
      simp only [Option.some.injEq, Prod.mk.injEq] at h
      obtain ⟨rfl, rfl, rfl, rfl⟩ := h
      simp only [execOp, hf.eval hx, hf.eval hy, Sem.run_bind, eqGuard_str, Result.andThen_ok, hr, Sem.run_pure]
    · cases h
  · cases h

/-! ### Regions whose order is open -/
def WD (all : List Oper) (Q : Exit → Act → World → Prop) (N : Nat) (S : World → Prop) (fuel : Nat) (listed : Array Bool) (L : Env) (w : World) : Prop :=
  ∀ a, Fr N L a → wpAnyH PP .any all.toArray Q S fuel listed a w

theorem mixed : PP.follows .mixedOrders = true := by kernel_rfl

theorem WC.draw {id : Nat} {l : List Oper} (S : World → Prop) (k : WD l Q N S l.length (Array.replicate l.length false) L w.drew) : WC Q N L (.region id ⟨l⟩ true) w := fun a hf =>
  wp_region_held (S := S) mixed (by have := k a hf; simpa using this)

def sideOk (all : List Oper) (listed : Array Bool) (i : Nat) : Bool :=
  Region.noSelect all.toArray && Region.free .any all.toArray listed i && (Region.ready .any all.toArray listed).contains i

def PanicOk (Q : Exit → Act → World → Prop) : Prop := ∀ c a d v w, Q (.panic c) (Act.put a d v) w → Q (.panic c) a w

variable {S : World → Prop} {fuel : Nat} {listed : Array Bool}

theorem WD.of_yields {v : Value} (i : Nat) (hi : all[i]? = some o) (hs : sideOk all listed i = true) (hQ : PanicOk Q) (hy : ∀ a, Fr N L a → YieldsIf PP all.toArray S o v a) (hS : S w)
    (hd : dstE N o v L = some L') (k : WD all Q N S fuel (listed.setIfInBounds i true) L' w) : WD all Q N S (fuel + 1) listed L w := fun a hf => by
  simp only [sideOk, Bool.and_eq_true] at hs
  exact wpAnyH_take (by simpa using hi) hs.1.1 hs.1.2 hs.2 (fun c a w h => hQ c a _ _ w h) (hy a hf) hS (k _ (dstE_ok hf hd))

/-- Operation i, quiet, is taken now. -/
theorem WD.tp (i : Nat) (hi : all[i]? = some o) (hs : sideOk all listed i = true) (hQ : PanicOk Q) (hS : S w) (h : stepP N all L o = some L')
    (k : WD all Q N S fuel (listed.setIfInBounds i true) L' w) : WD all Q N S (fuel + 1) listed L w := by
  unfold stepP at h
  split at h
  · rename_i hg
    split at h
    · rename_i v hv
      exact WD.of_yields i hi hs hQ (fun a hf => .inl ⟨grd_ok hf hg, fun w _ => pure1_run hf hv w⟩) hS h k
    · cases h
  · rename_i hg
    exact WD.of_yields i hi hs hQ (fun a hf => .inr ⟨grd_ok hf hg, rfl⟩) hS h k
  · cases h

/-- Operation i, which runs alike in every world that meets S, is taken now. -/
theorem WD.tr {v : Value} (i : Nat) (hi : all[i]? = some o) (hs : sideOk all listed i = true) (hQ : PanicOk Q) (hS : S w) (hg : grd all L o = some true)
    (hr : ∀ w', S w' → ∀ a, Fr N L a → (execOp a.eval o).run PP w' = .ok (.value v) w') (hd : dstE N o v L = some L')
    (k : WD all Q N S fuel (listed.setIfInBounds i true) L' w) : WD all Q N S (fuel + 1) listed L w :=
  WD.of_yields i hi hs hQ (fun a hf => .inl ⟨grd_ok hf hg, fun w' hw' => hr w' hw' a hf⟩) hS hd k

theorem WD.tl {ad : Addr} {v : Value} (i : Nat) (hi : all[i]? = some o) (hs : sideOk all listed i = true) (hQ : PanicOk Q) (hS : S w) (hg : grd all L o = some true) (h : ldA L o.op = some ad)
    (hc : ∀ w', S w' → w'.cell? ad = some v) (hd : dstE N o v L = some L')
    (k : WD all Q N S fuel (listed.setIfInBounds i true) L' w) : WD all Q N S (fuel + 1) listed L w :=
  WD.tr i hi hs hQ hS hg (fun w' hw' a hf => ldA_run hf h (hc w' hw')) hd k

theorem WD.ti {n b ofs len : Nat} {j : Int} (i m : Nat) (hi : all[i]? = some o) (hs : sideOk all listed i = true) (hQ : PanicOk Q) (hS : S w) (hg : grd all L o = some true)
    (h : ixA L o.op = some (n, b, ofs, len, j)) (hj : j = (m : Int)) (hm : m < len) (hd : dstE N o (.pointer (some ⟨b, ofs + m * n, none⟩)) L = some L')
    (k : WD all Q N S fuel (listed.setIfInBounds i true) L' w) : WD all Q N S (fuel + 1) listed L w := by
  subst hj
  exact WD.tr i hi hs hQ hS hg (fun w' _ a hf => by have := ixA_run hf h (by omega) (by omega) w'; simpa using this) hd k

theorem WD.ta {bop x y} (i : Nat) (hi : all[i]? = some o) (hs : sideOk all listed i = true) (hQ : PanicOk Q) (hS : S w) (hg : grd all L o = some true)
    (h : arA L o.op = some (bop, .i64, x, y)) (hb : -9223372036854775808 ≤ arV bop x y ∧ arV bop x y ≤ 9223372036854775807) (hd : dstE N o (.int .i64 (arV bop x y)) L = some L')
    (k : WD all Q N S fuel (listed.setIfInBounds i true) L' w) : WD all Q N S (fuel + 1) listed L w :=
  WD.tr i hi hs hQ hS hg (fun w' _ a hf => by rw [arA_run hf h w', wrap_i64 hb]) hd k

theorem WD.ta32 {bop x y} (i : Nat) (hi : all[i]? = some o) (hs : sideOk all listed i = true) (hQ : PanicOk Q) (hS : S w) (hg : grd all L o = some true)
    (h : arA L o.op = some (bop, .i32, x, y)) (hb : -2147483648 ≤ arV bop x y ∧ arV bop x y ≤ 2147483647) (hd : dstE N o (.int .i32 (arV bop x y)) L = some L')
    (k : WD all Q N S fuel (listed.setIfInBounds i true) L' w) : WD all Q N S (fuel + 1) listed L w :=
  WD.tr i hi hs hQ hS hg (fun w' _ a hf => by rw [arA_run hf h w', wrap_i32 hb]) hd k

theorem WD.ts {bd ofs c len : Nat} {ad : Option Addr} {lo hi : Option Int} {L' : Option Addr → Env} (i n' l : Nat) (hi' : all[i]? = some o) (hsd : sideOk all listed i = true) (hQ : PanicOk Q) (hS : S w) (hg : grd all L o = some true)
    (h : slA L o.op = some (1, ad, len, c, lo, hi)) (hs : Sf bd ofs c ad) (hlo : lo.getD 0 = (l : Int)) (hhi : hi.getD len = ((l + n' : Nat) : Int)) (hc : l + n' ≤ c)
    (hd : ∀ ad', dstE N o (.slice ad' n' (c - l)) L = some (L' ad'))
    (k : ∀ ad', Sf bd (ofs + l) (c - l) ad' → WD all Q N S fuel (listed.setIfInBounds i true) (L' ad') w) : WD all Q N S (fuel + 1) listed L w := by
  have hs' : Sf bd (ofs + l) (c - l) (if c = l then ad else ad.map (·.add (l * 1))) := by
    exact hs.sl l
  refine WD.tr i hi' hsd hQ hS hg (fun w' _ a hf => ?_) (hd _) (k _ hs')
  have := slA_run hf h hlo hhi (by omega) hc w'
  rw [this]
  congr 3
  omega

/-- All have come up. -/
theorem WD.nil (hr : Region.ready .any all.toArray listed = []) (k : X .normal Q N L w) : WD all Q N S fuel listed L w := fun a hf => wpAnyH_done hr (k a hf) fuel

theorem WD.one {i : Nat} (hr : Region.ready .any all.toArray listed = [i]) (hi : all[i]? = some o) (hg : grd all L o = some true)
    (k : ∀ a, Fr N L a → o.wp PP a w (fun a' w' => S w' ∧ wpAnyH PP .any all.toArray Q S fuel (listed.setIfInBounds i true) a' w') Q) : WD all Q N S (fuel + 1) listed L w := fun a hf => by
  refine wpAnyH_all hr (by simp) fun j hj => ?_
  have : j = i := by simpa using hj
  subst this
  unfold wpOp
  have hi' : (all.toArray)[j]? = some o := by simpa using hi
  simp only [hi', grd_ok hf hg, if_true]
  exact .inl (k a hf)

/-- The one operation that may come up now, by its run. -/
theorem WD.rv {v : Value} {w' : World} (i : Nat) (hr : Region.ready .any all.toArray listed = [i]) (hi : all[i]? = some o) (hg : grd all L o = some true)
    (hrun : ∀ a, Fr N L a → (execOp a.eval o).run PP w = .ok (.value v) w') (hS : S w') (hd : dstE N o v L = some L')
    (k : WD all Q N S fuel (listed.setIfInBounds i true) L' w') : WD all Q N S (fuel + 1) listed L w :=
  WD.one hr hi hg fun a hf => by
    unfold Oper.wp
    rw [hrun a hf]
    exact ⟨hS, k _ (dstE_ok hf hd)⟩

theorem WD.rk {w' : World} (i : Nat) (hr : Region.ready .any all.toArray listed = [i]) (hi : all[i]? = some o) (hg : grd all L o = some true)
    (hrun : ∀ a, Fr N L a → (execOp a.eval o).run PP w = .ok .skip w') (hS : S w') (hd : dstE N o undef L = some L')
    (k : WD all Q N S fuel (listed.setIfInBounds i true) L' w') : WD all Q N S (fuel + 1) listed L w :=
  WD.one hr hi hg fun a hf => by
    unfold Oper.wp
    rw [hrun a hf]
    exact ⟨hS, k _ (dstE_ok hf hd)⟩

theorem WD.rc {f : Nat} {vs : List Value} {R : Ending → World → Prop} (i : Nat) (hr : Region.ready .any all.toArray listed = [i]) (hi : all[i]? = some o) (hg : grd all L o = some true)
    (hc : callA L o.op = some (f, vs)) (hf3 : (Nat.ble 3 f && Nat.blt f 150) = true) (h : Calls PP f vs.toArray w R)
    (k : ∀ e w', R e w' → ∃ v L', e = .returned v ∧ dstE N o v L = some L' ∧ S w' ∧ WD all Q N S fuel (listed.setIfInBounds i true) L' w') : WD all Q N S (fuel + 1) listed L w :=
  WD.one hr hi hg fun a hf => by
    unfold Oper.wp
    rw [callA_run hf hc (callOk_at hf3) w]
    refine h.mono fun e w' hR => ?_
    obtain ⟨v, L', rfl, hd, hS, hk⟩ := k e w' hR
    exact ⟨hS, hk _ (dstE_ok hf hd)⟩

end steps
attribute [irreducible] WD
end Go.Proofs.YtaccphdkapmdhaaGreat

namespace Go.Proofs.YtaccphdkapmdhaaGreat
attribute [local semireducible] WL WC X WD

/-- The same memory. -/
structure Sm (w w' : World) : Prop where
  heap : w'.heap = w.heap
  os : w'.os = w.os
  tape : w'.tape = w.tape
  output : w'.output = w.output

theorem Sm.refl (w : World) : Sm w w := ⟨rfl, rfl, rfl, rfl⟩
theorem Sm.trans {a b c : World} (h : Sm a b) (g : Sm b c) : Sm a c := ⟨g.heap.trans h.heap, g.os.trans h.os, g.tape.trans h.tape, g.output.trans h.output⟩
theorem Sm.drew {a b : World} (h : Sm a b) : Sm a b.drew := ⟨h.heap, h.os, h.tape, h.output⟩
theorem Sm.fm {B T} {w w' : World} (h : Sm w w') : Fm B T w w' :=
  ⟨h.os, h.tape, h.output, by rw [h.heap]; exact Nat.le_refl _, fun k _ => by rw [h.heap], fun k o ho _ => by rw [h.heap]; exact ho, fun k o ho => ⟨o, by rw [h.heap]; exact ho, rfl⟩⟩
theorem Sm.at {w w' : World} (h : Sm w w') {k : Nat} {o : Obj} (ho : w.heap[k]? = some o) : w'.heap[k]? = some o := by rw [h.heap]; exact ho
theorem Sm.cell {w w' : World} (h : Sm w w') {a : Addr} {v : Value} (hc : w.cell? a = some v) : w'.cell? a = some v := by
  unfold World.cell? at *; rw [h.heap]; exact hc

def lst (n k : Nat) : Array Bool := ((List.range n).map fun i => Nat.blt i k).toArray

theorem lst_set {n k : Nat} (h : k < n) : (lst n k).setIfInBounds k true = lst n (k + 1) := by
  unfold lst
  apply Array.ext_getElem?
  intro i
  rw [Array.getElem?_setIfInBounds]
  simp only [List.size_toArray, List.length_map, List.length_range, List.getElem?_toArray, List.getElem?_map]
  by_cases hi : i < n
  · simp only [List.getElem?_range hi, Option.map_some]
    by_cases e : k = i
    · subst e; simp [h, Nat.blt_eq]
    · simp only [e, if_false]
      congr 1
      rw [Bool.eq_iff_iff]
      simp only [Nat.blt_eq]
      omega
  · have : (List.range n)[i]? = none := by simp; omega
    simp only [this, Option.map_none]
    split <;> simp_all

theorem lst_zero (n : Nat) : lst n 0 = Array.replicate n false := by
  unfold lst
  apply Array.ext_getElem?
  intro i
  simp only [List.getElem?_toArray, List.getElem?_map, Array.getElem?_replicate]
  by_cases hi : i < n
  · simp [List.getElem?_range hi, hi]; rfl
  · have : (List.range n)[i]? = none := by simp; omega
    simp [this, hi]

/-- A region whose order is open, in the order of the text: 'rest' is left. -/
def WX (all : List Oper) (Q : Exit → Act → World → Prop) (N : Nat) (S : World → Prop) (L : Env) (rest : List Oper) (w : World) : Prop :=
  ∀ k, all.drop k = rest → k + rest.length = all.length → WD all Q N S rest.length (lst all.length k) L w

class POk (Q : Exit → Act → World → Prop) : Prop where
  ok : PanicOk Q

instance (P : Program) (fn : Func) (R : Ending → World → Prop) : POk (bodyPost P fn R) := ⟨fun _ _ d _ _ h => by cases d <;> exact h⟩
instance (K : Act → World → Prop) (Q : Exit → Act → World → Prop) [h : POk Q] : POk (Exit.then K Q) := ⟨fun c a d v w hh => h.ok c a d v w hh⟩
instance (i : Nat) (Q : Exit → Act → World → Prop) [h : POk Q] : POk (Exit.inBlock i Q) := ⟨fun c a d v w hh => h.ok c a d v w hh⟩

def pos (all rest : List Oper) : Nat := all.length - rest.length

def sideX (all rest : List Oper) : Bool := sideOk all (lst all.length (pos all rest)) (pos all rest)

section
variable {all : List Oper} {Q : Exit → Act → World → Prop} {N : Nat} {L L' : Env} {o : Oper} {rest : List Oper} {w : World} {S : World → Prop}

theorem drop_head {k : Nat} (h : all.drop k = o :: rest) : all[k]? = some o ∧ all.drop (k + 1) = rest := by
  constructor
  · have := congrArg (fun l => l[0]?) h
    simpa using this
  · have := congrArg (fun l => l.drop 1) h
    simpa using this

theorem WC.drx {id : Nat} {l : List Oper} (S : World → Prop) (k : WX l Q N S L l w.drew) : WC Q N L (.region id ⟨l⟩ true) w :=
  WC.draw S (by have := k 0 rfl (by simp); rwa [lst_zero] at this)

theorem WX.weaken (L' : Env) (ha : Agree L' L) (k : WX all Q N S L' rest w) : WX all Q N S L rest w := fun i h1 h2 a hf => k i h1 h2 a (hf.weaken ha)

theorem WX.of_yields [hQ : POk Q] {v : Value} (hs : sideX all (o :: rest) = true) (hy : ∀ a, Fr N L a → YieldsIf PP all.toArray S o v a) (hS : S w)
    (hd : dstE N o v L = some L') (k : WX all Q N S L' rest w) : WX all Q N S L (o :: rest) w := fun i h1 h2 => by
  obtain ⟨h3, h4⟩ := drop_head h1
  have hp : pos all (o :: rest) = i := by unfold pos; omega
  unfold sideX at hs
  rw [hp] at hs
  simp only [List.length_cons] at h2
  have := k (i + 1) h4 (by omega)
  rw [← lst_set (by omega)] at this
  exact WD.of_yields i h3 hs hQ.ok hy hS hd this

theorem WX.p [POk Q] (hs : sideX all (o :: rest) = true) (hS : S w) (h : stepP N all L o = some L') (k : WX all Q N S L' rest w) : WX all Q N S L (o :: rest) w := by
  unfold stepP at h
  split at h
  · rename_i hg
    split at h
    · rename_i v hv
      exact WX.of_yields hs (fun a hf => .inl ⟨grd_ok hf hg, fun w _ => pure1_run hf hv w⟩) hS h k
    · cases h
  · rename_i hg
    exact WX.of_yields hs (fun a hf => .inr ⟨grd_ok hf hg, rfl⟩) hS h k
  · cases h

/-- Whatever runs alike in every world that meets S. -/
theorem WX.r [POk Q] {v : Value} (hs : sideX all (o :: rest) = true) (hS : S w) (hg : grd all L o = some true)
    (hr : ∀ w', S w' → ∀ a, Fr N L a → (execOp a.eval o).run PP w' = .ok (.value v) w') (hd : dstE N o v L = some L') (k : WX all Q N S L' rest w) : WX all Q N S L (o :: rest) w :=
  WX.of_yields hs (fun a hf => .inl ⟨grd_ok hf hg, fun w' hw' => hr w' hw' a hf⟩) hS hd k

theorem WX.ld [POk Q] {ad : Addr} {v : Value} (hs : sideX all (o :: rest) = true) (hS : S w) (hg : grd all L o = some true) (h : ldA L o.op = some ad)
    (hc : ∀ w', S w' → w'.cell? ad = some v) (hd : dstE N o v L = some L') (k : WX all Q N S L' rest w) : WX all Q N S L (o :: rest) w :=
  WX.r hs hS hg (fun w' hw' _ hf => ldA_run hf h (hc w' hw')) hd k

theorem WX.lg [POk Q] {n b ofs : Nat} {cs : List Value} (hs : sideX all (o :: rest) = true) (hS : S w) (hg : grd all L o = some true) (h : lgA L o.op = some (n, ⟨b, ofs, none⟩)) (hn : cs.length = n)
    (hc : ∀ w', S w' → ∀ j v, cs[j]? = some v → w'.cell? ⟨b, ofs + j, none⟩ = some v) (hd : dstE N o (.agg cs.toArray) L = some L') (k : WX all Q N S L' rest w) : WX all Q N S L (o :: rest) w :=
  WX.r hs hS hg (fun w' hw' _ hf => lgA_run hf h hn (hc w' hw')) hd k

theorem WX.ix [POk Q] {n b ofs len : Nat} {j : Int} {i : Nat} (hs : sideX all (o :: rest) = true) (hS : S w) (hg : grd all L o = some true) (h : ixA L o.op = some (n, b, ofs, len, j)) (hj : j = (i : Int)) (hi : i < len)
    (hd : dstE N o (.pointer (some ⟨b, ofs + i * n, none⟩)) L = some L') (k : WX all Q N S L' rest w) : WX all Q N S L (o :: rest) w := by
  subst hj
  exact WX.r hs hS hg (fun w' _ a hf => by have := ixA_run hf h (by omega) (by omega) w'; simpa using this) hd k

theorem WX.a [POk Q] {bop x y} (hs : sideX all (o :: rest) = true) (hS : S w) (hg : grd all L o = some true) (h : arA L o.op = some (bop, .i64, x, y)) (hb : -9223372036854775808 ≤ arV bop x y ∧ arV bop x y ≤ 9223372036854775807)
    (hd : dstE N o (.int .i64 (arV bop x y)) L = some L') (k : WX all Q N S L' rest w) : WX all Q N S L (o :: rest) w :=
  WX.r hs hS hg (fun w' _ a hf => by rw [arA_run hf h w', wrap_i64 hb]) hd k
theorem WX.a32 [POk Q] {bop x y} (hs : sideX all (o :: rest) = true) (hS : S w) (hg : grd all L o = some true) (h : arA L o.op = some (bop, .i32, x, y)) (hb : -2147483648 ≤ arV bop x y ∧ arV bop x y ≤ 2147483647)
    (hd : dstE N o (.int .i32 (arV bop x y)) L = some L') (k : WX all Q N S L' rest w) : WX all Q N S L (o :: rest) w :=
  WX.r hs hS hg (fun w' _ a hf => by rw [arA_run hf h w', wrap_i32 hb]) hd k

theorem WX.ad [POk Q] {x y : Int} (hs : sideX all (o :: rest) = true) (hS : S w) (hg : grd all L o = some true) (h : arA L o.op = some (.add, .i64, x, y)) (hb : -9223372036854775808 ≤ x + y ∧ x + y ≤ 9223372036854775807)
    (hd : dstE N o (.int .i64 (x + y)) L = some L') (k : WX all Q N S L' rest w) : WX all Q N S L (o :: rest) w := WX.a hs hS hg h hb hd k
theorem WX.ad32 [POk Q] {x y : Int} (hs : sideX all (o :: rest) = true) (hS : S w) (hg : grd all L o = some true) (h : arA L o.op = some (.add, .i32, x, y)) (hb : -2147483648 ≤ x + y ∧ x + y ≤ 2147483647)
    (hd : dstE N o (.int .i32 (x + y)) L = some L') (k : WX all Q N S L' rest w) : WX all Q N S L (o :: rest) w := WX.a32 hs hS hg h hb hd k
theorem WX.su [POk Q] {x y : Int} (hs : sideX all (o :: rest) = true) (hS : S w) (hg : grd all L o = some true) (h : arA L o.op = some (.sub, .i64, x, y)) (hb : -9223372036854775808 ≤ x - y ∧ x - y ≤ 9223372036854775807)
    (hd : dstE N o (.int .i64 (x - y)) L = some L') (k : WX all Q N S L' rest w) : WX all Q N S L (o :: rest) w := WX.a hs hS hg h hb hd k
theorem WX.su32 [POk Q] {x y : Int} (hs : sideX all (o :: rest) = true) (hS : S w) (hg : grd all L o = some true) (h : arA L o.op = some (.sub, .i32, x, y)) (hb : -2147483648 ≤ x - y ∧ x - y ≤ 2147483647)
    (hd : dstE N o (.int .i32 (x - y)) L = some L') (k : WX all Q N S L' rest w) : WX all Q N S L (o :: rest) w := WX.a32 hs hS hg h hb hd k
theorem WX.mu [POk Q] {x y : Int} (hs : sideX all (o :: rest) = true) (hS : S w) (hg : grd all L o = some true) (h : arA L o.op = some (.mul, .i64, x, y)) (hb : -9223372036854775808 ≤ x * y ∧ x * y ≤ 9223372036854775807)
    (hd : dstE N o (.int .i64 (x * y)) L = some L') (k : WX all Q N S L' rest w) : WX all Q N S L (o :: rest) w := WX.a hs hS hg h hb hd k
theorem WX.mu32 [POk Q] {x y : Int} (hs : sideX all (o :: rest) = true) (hS : S w) (hg : grd all L o = some true) (h : arA L o.op = some (.mul, .i32, x, y)) (hb : -2147483648 ≤ x * y ∧ x * y ≤ 2147483647)
    (hd : dstE N o (.int .i32 (x * y)) L = some L') (k : WX all Q N S L' rest w) : WX all Q N S L (o :: rest) w := WX.a32 hs hS hg h hb hd k
theorem WX.cv [POk Q] {kd : IntKind} {n : Int} (hs : sideX all (o :: rest) = true) (hS : S w) (hg : grd all L o = some true) (h : cvA L o.op = some (kd, n)) (hw : kd.wrap n = n)
    (hd : dstE N o (.int kd n) L = some L') (k : WX all Q N S L' rest w) : WX all Q N S L (o :: rest) w :=
  WX.r hs hS hg (fun w' _ a hf => by rw [cvA_run hf h w', hw]) hd k

theorem WX.sS [POk Q] {bd ofs c len : Nat} {ad : Option Addr} {lo hi : Option Int} {L' : Option Addr → Env} (n' l : Nat) (hsd : sideX all (o :: rest) = true) (hS : S w) (hg : grd all L o = some true)
    (h : slA L o.op = some (1, ad, len, c, lo, hi)) (hs : Sf bd ofs c ad) (hlo : lo.getD 0 = (l : Int)) (hhi : hi.getD len = ((l + n' : Nat) : Int)) (hc : l + n' ≤ c)
    (hd : ∀ ad', dstE N o (.slice ad' n' (c - l)) L = some (L' ad')) (k : ∀ ad', Sf bd (ofs + l) (c - l) ad' → WX all Q N S (L' ad') rest w) : WX all Q N S L (o :: rest) w := by
  refine WX.r hsd hS hg (fun w' _ a hf => ?_) (hd _) (k _ (hs.sl l))
  have := slA_run hf h hlo hhi (by omega) hc w'
  rw [this]
  congr 3
  omega

theorem boA_run {N : Nat} {L : Env} {a : Act} {bop : BinOp} {t : Nat} {x y : Value} (hf : Fr N L a) (h : boA L o.op = some (bop, t, x, y)) {v : Value} {w : World} (hr : (binOp bop t x y).run PP w = .ok v w) :
    (execOp a.eval o).run PP w = .ok (.value v) w := by
  obtain ⟨dst, op, ty, pos, after, guard⟩ := o
  simp only at h
  unfold boA at h
  split at h
  · rename_i b2 t' ox oy t2
    split at h
    · rename_i k1 a1 k2 b1 hx hy
      simp only [Option.some.injEq, Prod.mk.injEq] at h
      obtain ⟨rfl, rfl, rfl, rfl⟩ := h
      simp only [execOp, hf.eval hx, hf.eval hy, Sem.run_bind, eqGuard_int, Result.andThen_ok, hr, Sem.run_pure]
    · rename_i a1 b1 hx hy
      simp only [Option.some.injEq, Prod.mk.injEq] at h
      obtain ⟨rfl, rfl, rfl, rfl⟩ := h
      simp only [execOp, hf.eval hx, hf.eval hy, Sem.run_bind, eqGuard_str, Result.andThen_ok, hr, Sem.run_pure]
    · cases h
  · cases h

theorem WX.bo [POk Q] {bop : BinOp} {t : Nat} {x y v : Value} (hs : sideX all (o :: rest) = true) (hS : S w) (hg : grd all L o = some true) (h : boA L o.op = some (bop, t, x, y)) (hr : ∀ w, (binOp bop t x y).run PP w = .ok v w)
    (hd : dstE N o v L = some L') (k : WX all Q N S L' rest w) : WX all Q N S L (o :: rest) w :=
  WX.r hs hS hg (fun w' _ a hf => boA_run hf h (hr w')) hd k

theorem WX.bd [POk Q] {t : Nat} {vs : List (Nat × Value)} {v : Value} (hs : sideX all (o :: rest) = true) (hS : S w) (hg : grd all L o = some true) (h : bdA L o.op = some (t, vs)) (hr : ∀ w, (Instr.build t ⟨vs⟩).run PP w = .ok v w)
    (hd : dstE N o v L = some L') (k : WX all Q N S L' rest w) : WX all Q N S L (o :: rest) w :=
  WX.r hs hS hg (fun w' _ a hf => by rw [bdA_run hf h]; simp [hr]) hd k

theorem WX.gs {d : Nat} {b : Bool} (_hs : gslot all o = some d) (hl : look L d = some (.bool b))
    (kt : b = true → WX all Q N S ((d, .bool true) :: L) (o :: rest) w) (kf : b = false → WX all Q N S ((d, .bool false) :: L) (o :: rest) w) : WX all Q N S L (o :: rest) w := by
  cases b with
  | true => exact fun i h1 h2 a hf => kt rfl i h1 h2 a (hf.known hl)
  | false => exact fun i h1 h2 a hf => kf rfl i h1 h2 a (hf.known hl)
theorem WX.gD {d : Nat} {p : Prop} [Decidable p] (hs : gslot all o = some d) (hl : look L d = some (.bool (dc p)))
    (kt : p → WX all Q N S ((d, .bool true) :: L) (o :: rest) w) (kf : ¬ p → WX all Q N S ((d, .bool false) :: L) (o :: rest) w) : WX all Q N S L (o :: rest) w :=
  WX.gs hs hl (fun h => kt (dc_true h)) (fun h => kf (dc_false h))
theorem WX.gT {d : Nat} {p : Prop} [Decidable p] (hs : gslot all o = some d) (hl : look L d = some (.bool (dc p))) (hp : p)
    (kt : WX all Q N S ((d, .bool true) :: L) (o :: rest) w) : WX all Q N S L (o :: rest) w := WX.gD hs hl (fun _ => kt) (fun h => absurd hp h)
theorem WX.gF {d : Nat} {p : Prop} [Decidable p] (hs : gslot all o = some d) (hl : look L d = some (.bool (dc p))) (hp : ¬ p)
    (kf : WX all Q N S ((d, .bool false) :: L) (o :: rest) w) : WX all Q N S L (o :: rest) w := WX.gD hs hl (fun h => absurd h hp) (fun _ => kf)

theorem WX.nil (k : X .normal Q N L w) : WX all Q N S L [] w := fun i h1 h2 a hf => by
  simp only [List.length_nil, Nat.add_zero] at h2
  subst h2
  refine WD.nil (listed := lst all.length all.length) ?_ k a hf
  unfold Region.ready
  rw [List.filter_eq_nil_iff]
  intro j hj
  have hj' : j < all.length := by simpa using hj
  have hb : Nat.blt j all.length = true := by rw [Nat.blt_eq]; exact hj'
  have : (lst all.length all.length)[j]? = some true := by
    unfold lst
    rw [List.getElem?_toArray, List.getElem?_map, List.getElem?_range hj']
    simp [hb]
  simp [Array.getD_eq_getD_getElem?, this]

/-! The operations that write or make memory, one at a time -/
def oneX (all rest : List Oper) : Bool := (Region.ready .any all.toArray (lst all.length (pos all rest))) == [pos all rest]

theorem WX.one {hs : oneX all (o :: rest) = true} (hg : grd all L o = some true)
    (k : ∀ a, Fr N L a → o.wp PP a w (fun a' w' => S w' ∧ (∃ L', Fr N L' a' ∧ WX all Q N S L' rest w')) Q) : WX all Q N S L (o :: rest) w := fun i h1 h2 => by
  obtain ⟨h3, h4⟩ := drop_head h1
  have hp : pos all (o :: rest) = i := by unfold pos; omega
  unfold oneX at hs
  rw [hp] at hs
  have hs' := beq_iff_eq.1 hs
  simp only [List.length_cons] at h2
  refine WD.one hs' h3 hg fun a hf => Oper.wp_mono (fun a' w' hk => ?_) (k a hf)
  obtain ⟨hS, L', hf', hk⟩ := hk
  refine ⟨hS, ?_⟩
  rw [lst_set (by omega)]
  exact hk (i + 1) h4 (by omega) a' hf'

/-- An operation of memory, by its run. -/
theorem WX.rv {v : Value} {w' : World} (hs : oneX all (o :: rest) = true) (hg : grd all L o = some true)
    (hrun : ∀ a, Fr N L a → (execOp a.eval o).run PP w = .ok (.value v) w') (hS : S w') (hd : dstE N o v L = some L') (k : WX all Q N S L' rest w') : WX all Q N S L (o :: rest) w :=
  WX.one (hs := hs) hg fun a hf => by
    unfold Oper.wp
    rw [hrun a hf]
    exact ⟨hS, L', dstE_ok hf hd, k⟩

theorem WX.rk {w' : World} (hs : oneX all (o :: rest) = true) (hg : grd all L o = some true)
    (hrun : ∀ a, Fr N L a → (execOp a.eval o).run PP w = .ok .skip w') (hS : S w') (hd : dstE N o undef L = some L') (k : WX all Q N S L' rest w') : WX all Q N S L (o :: rest) w :=
  WX.one (hs := hs) hg fun a hf => by
    unfold Oper.wp
    rw [hrun a hf]
    exact ⟨hS, L', dstE_ok hf hd, k⟩

theorem WX.call {f : Nat} {vs : List Value} {R : Ending → World → Prop} (hs : oneX all (o :: rest) = true) (hg : grd all L o = some true)
    (hc : callA L o.op = some (f, vs)) (hf3 : (Nat.ble 3 f && Nat.blt f 150) = true) (h : Calls PP f vs.toArray w R)
    (k : ∀ e w', R e w' → ∃ v L', e = .returned v ∧ dstE N o v L = some L' ∧ S w' ∧ WX all Q N S L' rest w') : WX all Q N S L (o :: rest) w :=
  WX.one (hs := hs) hg fun a hf => by
    unfold Oper.wp
    rw [callA_run hf hc (callOk_at hf3) w]
    refine h.mono fun e w' hR => ?_
    obtain ⟨v, L', rfl, hd, hS, hk⟩ := k e w' hR
    exact ⟨hS, L', dstE_ok hf hd, hk⟩

theorem WX.stB {b i : Nat} {v u : Value} {c : Array Value} {t : TypeId} (hs : oneX all (o :: rest) = true) (hg : grd all L o = some true) (h : stA L o.op = some (⟨b, i, none⟩, v)) (hv : oneV v = true)
    (hb : w.heap[b]? = some (.cells c t (0, 0))) (hi : c[i]? = some u) (hd : dstE N o undef L = some L')
    (k : ∀ w', St w b (.cells (c.setIfInBounds i v) t (0, 0)) w' → S w' ∧ WX all Q N S L' rest w') : WX all Q N S L (o :: rest) w :=
  WX.rk hs hg (fun a hf => stA_run hf h hv hb hi) (k _ (setCell_st v hb)).1 hd (k _ (setCell_st v hb)).2

theorem WX.sg {n b ofs : Nat} {cs c : List Value} {t : TypeId} (hs : oneX all (o :: rest) = true) (hg : grd all L o = some true) (h : sgA L o.op = some (n, ⟨b, ofs, none⟩, cs)) (hn : cs.length = n)
    (hv : ∀ v ∈ cs, oneV v = true) (hb : w.heap[b]? = some (.cells ⟨c⟩ t (0, 0))) (hl : ofs + n ≤ c.length) (hd : dstE N o undef L = some L')
    (k : ∀ w', St w b (.cells ⟨c.take ofs ++ cs ++ c.drop (ofs + n)⟩ t (0, 0)) w' → S w' ∧ WX all Q N S L' rest w') : WX all Q N S L (o :: rest) w := by
  obtain ⟨w', hr, hst⟩ := sgA_run (N := N) h hn hv hb hl
  exact WX.rk hs hg hr (k w' hst).1 hd (k w' hst).2

theorem alA_run {N : Nat} {L : Env} {a : Act} {t : Nat} {l : List Value} (_hf : Fr N L a) (h : alA o.op = some (t, l)) (w : World) :
    (execOp a.eval o).run PP w = .ok (.value (.pointer (some ⟨w.heap.size, 0, none⟩))) (w.alloc (.cells l.toArray t (0, 0))) := by
  obtain ⟨dst, op, ty, pos, after, guard⟩ := o
  simp only at h
  unfold alA at h
  split at h
  · rename_i t'
    split at h
    · rename_i l' hl
      simp only [Option.some.injEq, Prod.mk.injEq] at h
      obtain ⟨rfl, rfl⟩ := h
      obtain ⟨z, hz, hc⟩ := zero_run hl w
      simp [execOp, Instr.alloc, hz, newVar, newRow, hc]
    · cases h
  · cases h

theorem WX.al {t : Nat} {l : List Value} (hs : oneX all (o :: rest) = true) (hg : grd all L o = some true) (h : alA o.op = some (t, l)) (hd : dstE N o (.pointer (some ⟨w.heap.size, 0, none⟩)) L = some L')
    (k : ∀ w', Al w (.cells l.toArray t (0, 0)) w' → S w' ∧ WX all Q N S L' rest w') : WX all Q N S L (o :: rest) w :=
  WX.rv hs hg (fun _ hf => alA_run hf h w) (k _ (alloc_al w _)).1 hd (k _ (alloc_al w _)).2

theorem WX.bs {t n e : Nat} {vs : List (Nat × Value)} {c : Array Value} (hs : oneX all (o :: rest) = true) (hg : grd all L o = some true) (h : bsA L o.op = some (t, n, vs))
    (hr : ∀ w, (Instr.buildSlice t n ⟨vs⟩).run PP w = .ok (.slice (some ⟨w.heap.size, 0, none⟩) n n) (w.alloc (.cells c e (0, 0))))
    (hd : dstE N o (.slice (some ⟨w.heap.size, 0, none⟩) n n) L = some L') (k : ∀ w', Al w (.cells c e (0, 0)) w' → S w' ∧ WX all Q N S L' rest w') : WX all Q N S L (o :: rest) w :=
  WX.rv hs hg (fun a hf => by rw [bsA_run hf h]; simp [hr]) (k _ (alloc_al w _)).1 hd (k _ (alloc_al w _)).2

end

/-! ### Words of 64 bits -/
abbrev UW (n : Nat) : Value := .int .u64 (n : Int)

theorem ofInt_nat (n : Nat) : BitVec.ofInt 64 (n : Int) = BitVec.ofNat 64 n := by simp

theorem u64_back {n : Nat} (h : n < 2 ^ 64) : IntKind.u64.wrap (n : Int) = n := wrap_u64 ⟨by omega, by omega⟩

theorem and64 {a b : Nat} (ha : a < 2 ^ 64) (hb : b < 2 ^ 64) (t : Nat) (w : World) : (binOp .and t (UW a) (UW b)).run PP w = .ok (UW (a &&& b)) w := by
  have h : (BitVec.ofInt 64 (a : Int) &&& BitVec.ofInt 64 (b : Int)).toNat = a &&& b := by
    rw [ofInt_nat, ofInt_nat, BitVec.toNat_and, BitVec.toNat_ofNat, BitVec.toNat_ofNat, Nat.mod_eq_of_lt ha, Nat.mod_eq_of_lt hb]
  have hl : a &&& b < 2 ^ 64 := Nat.and_lt_two_pow a hb
  show (Op.intBits .and .u64 (a : Int) (b : Int)).run PP w = _
  unfold Op.intBits
  simp only [Sem.run_pure]
  rw [show (BitVec.ofInt IntKind.u64.bits (a : Int) &&& BitVec.ofInt IntKind.u64.bits (b : Int)).toNat = a &&& b from h, u64_back hl]
theorem or64 {a b : Nat} (ha : a < 2 ^ 64) (hb : b < 2 ^ 64) (t : Nat) (w : World) : (binOp .or t (UW a) (UW b)).run PP w = .ok (UW (a ||| b)) w := by
  have h : (BitVec.ofInt 64 (a : Int) ||| BitVec.ofInt 64 (b : Int)).toNat = a ||| b := by
    rw [ofInt_nat, ofInt_nat, BitVec.toNat_or, BitVec.toNat_ofNat, BitVec.toNat_ofNat, Nat.mod_eq_of_lt ha, Nat.mod_eq_of_lt hb]
  have hl : a ||| b < 2 ^ 64 := Nat.or_lt_two_pow ha hb
  show (Op.intBits .or .u64 (a : Int) (b : Int)).run PP w = _
  unfold Op.intBits
  simp only [Sem.run_pure]
  rw [show (BitVec.ofInt IntKind.u64.bits (a : Int) ||| BitVec.ofInt IntKind.u64.bits (b : Int)).toNat = a ||| b from h, u64_back hl]
theorem xor64 {a b : Nat} (ha : a < 2 ^ 64) (hb : b < 2 ^ 64) (t : Nat) (w : World) : (binOp .xor t (UW a) (UW b)).run PP w = .ok (UW (a ^^^ b)) w := by
  have h : (BitVec.ofInt 64 (a : Int) ^^^ BitVec.ofInt 64 (b : Int)).toNat = a ^^^ b := by
    rw [ofInt_nat, ofInt_nat, BitVec.toNat_xor, BitVec.toNat_ofNat, BitVec.toNat_ofNat, Nat.mod_eq_of_lt ha, Nat.mod_eq_of_lt hb]
  have hl : a ^^^ b < 2 ^ 64 := Nat.xor_lt_two_pow ha hb
  show (Op.intBits .xor .u64 (a : Int) (b : Int)).run PP w = _
  unfold Op.intBits
  simp only [Sem.run_pure]
  rw [show (BitVec.ofInt IntKind.u64.bits (a : Int) ^^^ BitVec.ofInt IntKind.u64.bits (b : Int)).toNat = a ^^^ b from h, u64_back hl]

theorem and8 {a b : Nat} (ha : a < 256) (hb : b < 256) (t : Nat) (w : World) : (binOp .and t (.int .u8 (a : Int)) (.int .u8 (b : Int))).run PP w = .ok (.int .u8 ((a &&& b : Nat) : Int)) w := by
  have h : (BitVec.ofInt 8 (a : Int) &&& BitVec.ofInt 8 (b : Int)).toNat = a &&& b := by
    rw [show BitVec.ofInt 8 (a : Int) = BitVec.ofNat 8 a by simp, show BitVec.ofInt 8 (b : Int) = BitVec.ofNat 8 b by simp, BitVec.toNat_and, BitVec.toNat_ofNat, BitVec.toNat_ofNat, Nat.mod_eq_of_lt ha, Nat.mod_eq_of_lt hb]
  have hl : a &&& b < 2 ^ 8 := Nat.and_lt_two_pow a hb
  show (Op.intBits .and .u8 (a : Int) (b : Int)).run PP w = _
  unfold Op.intBits
  simp only [Sem.run_pure]
  rw [show (BitVec.ofInt IntKind.u8.bits (a : Int) &&& BitVec.ofInt IntKind.u8.bits (b : Int)).toNat = a &&& b from h, wrap_u8 (by omega)]

set_option maxRecDepth 20000 in
theorem and192 {n : Nat} (h : 128 ≤ n) (h2 : n < 192) : n &&& 192 = 128 := by
  have key : ∀ m : Fin 256, 128 ≤ m.val → m.val < 192 → m.val &&& 192 = 128 := by decide
  exact key ⟨n, by omega⟩ h h2

theorem and_cont {n : Nat} (h : 128 ≤ n) (h2 : n < 192) (t : Nat) (w : World) : (binOp .and t (.int .u8 (n : Int)) (.int .u8 192)).run PP w = .ok (.int .u8 128) w := by
  have := and8 (a := n) (b := 192) (by omega) (by omega) t w
  rw [and192 h h2] at this
  exact this

theorem sub64 {a b : Nat} (ha : a < 2 ^ 64) (hb : b < 2 ^ 64) (t : Nat) (w : World) : (binOp .sub t (UW a) (UW b)).run PP w = .ok (UW ((a + 2 ^ 64 - b) % 2 ^ 64)) w := by
  show (Op.intArith .sub .u64 (a : Int) (b : Int)).run PP w = _
  simp only [Op.intArith, Sem.run_pure]
  have e : IntKind.u64.wrap ((a : Int) - b) = ((a : Int) - b) % 18446744073709551616 := by simp [IntKind.wrap, IntKind.bits, IntKind.signed]
  rw [e]
  congr 2
  simp only [Nat.reducePow] at *
  omega
theorem mul64 {a b : Nat} (h : a * b < 2 ^ 64) (t : Nat) (w : World) : (binOp .mul t (UW a) (UW b)).run PP w = .ok (UW (a * b)) w := by
  show (Op.intArith .mul .u64 (a : Int) (b : Int)).run PP w = _
  simp only [Op.intArith, Sem.run_pure]
  rw [← Int.natCast_mul, u64_back h]
theorem shl64 {a n : Nat} (h : a * 2 ^ n < 2 ^ 64) (hn : n < 64) (t : Nat) (w : World) : (binOp .shl t (UW a) (.int .u64 (n : Int))).run PP w = .ok (UW (a * 2 ^ n)) w := by
  show (Op.shift .shl .u64 (a : Int) .u64 (n : Int)).run PP w = _
  unfold Op.shift
  rw [if_neg (by omega)]
  have hm : min (n : Int).toNat IntKind.u64.bits = n := by simp [IntKind.bits]; omega
  simp only [hm, Sem.run_pure]
  have : (a : Int) * 2 ^ n = ((a * 2 ^ n : Nat) : Int) := by simp
  rw [this, u64_back h]

section
variable {all : List Oper} {Q : Exit → Act → World → Prop} {N : Nat} {L L' : Env} {o : Oper} {rest : List Oper} {w : World}

def notA (L : Env) (op : Op) : Option Int :=
  match op with
  | .unOp .xor t x => cond (Nat.beq t 135) (match ev L x with
    | some (.int .u64 n) => some n
    | _ => none) none
  | _ => none

/-- '^x' of 64 bits. -/
theorem WL.not64 {n : Nat} (hn : n < 2 ^ 64) (hg : grd all L o = some true) (h : notA L o.op = some (n : Int)) (hd : dstE N o (UW (2 ^ 64 - 1 - n)) L = some L')
    (k : WL all Q N L' rest w) : WL all Q N L (o :: rest) w := by
  refine WL.of_run hg (fun a hf => ?_) hd k
  obtain ⟨dst, op, ty, pos, after, guard⟩ := o
  simp only at h
  unfold notA at h
  split at h
  · rename_i t x
    cases ht : Nat.beq t 135 with
    | false => simp [ht] at h
    | true =>
      simp only [ht, cond_true] at h
      split at h
      · rename_i m hx
        simp only [Option.some.injEq] at h
        subst h
        have h1 : (BitVec.ofInt 64 (18446744073709551615 : Int) ^^^ BitVec.ofInt 64 (n : Int)).toNat = 2 ^ 64 - 1 - n := by
          have e : BitVec.ofInt 64 (18446744073709551615 : Int) = BitVec.allOnes 64 := by decide
          rw [e, BitVec.allOnes_xor, ofInt_nat, BitVec.toNat_not, BitVec.toNat_ofNat, Nat.mod_eq_of_lt hn]
        have h2 : (Op.unary .xor (.int .u64 (n : Int))).run PP w = .ok (UW (2 ^ 64 - 1 - n)) w := by
          show (Op.intBits .xor .u64 (18446744073709551615 : Int) (n : Int)).run PP w = _
          unfold Op.intBits
          simp only [Sem.run_pure]
          rw [show (BitVec.ofInt IntKind.u64.bits (18446744073709551615 : Int) ^^^ BitVec.ofInt IntKind.u64.bits (n : Int)).toNat = 2 ^ 64 - 1 - n from h1, u64_back (by omega)]
        simp only [execOp, hf.eval hx, Sem.run_bind, h2, Result.andThen_ok, Sem.run_pure]
      · cases h
  · cases h
end
attribute [irreducible] WX
end Go.Proofs.YtaccphdkapmdhaaGreat

