/- What the tracker does, as a function on lists; the first expression that is refused. Plain Lean, no program. Texts as they are written: blanks, ends of lines, keys, values, documents. Plain Lean, no program. No condition. -/
import Derived.Test.YtaccphdkapmdhaaGreatP1
namespace Go.Proofs.YtaccphdkapmdhaaGreat

/-- An entry that was seen. -/
structure Ent where
  parent : Int
  kind : Nat
  expl : Bool
  name : Bs

def Ent.is (e : Ent) (p : Nat) (nm : Bs) : Bool := decide (e.parent = (p : Int) ∧ e.kind ≠ 5 ∧ e.name = nm)

def findFrom (p : Nat) (nm : Bs) : List Ent → Nat → Option Nat
  | [], _ => none
  | e :: l, i => if e.is p nm then some i else findFrom p nm l (i + 1)

/-- The entry of a name below another. -/
def findE (es : List Ent) (p : Nat) (nm : Bs) : Option Nat := findFrom p nm (es.drop (p + 1)) (p + 1)

def kindE (es : List Ent) (i : Nat) : Nat := match es[i]? with
  | some e => e.kind
  | none => 0

/-- A key with points, below an entry: its last part is told to f. -/
def ckK (f : List Ent → Nat → List Ent × Bool) : List Bs → List Ent → Nat → List Ent × Bool
  | [], es, _ => (es, false)
  | [k], es, p => match findE es p k with
    | some _ => (es, false)
    | none => f (es ++ [⟨p, 1, false, k⟩]) es.length
  | k :: k2 :: ks, es, p => match findE es p k with
    | none => ckK f (k2 :: ks) (es ++ [⟨p, 2, false, k⟩]) es.length
    | some i => if kindE es i = 2 then ckK f (k2 :: ks) es i else (es, false)

def Val.isSc : Val → Bool
  | .sc _ _ => true
  | _ => false

mutual
/-- A value, below its entry. -/
def ckV : Val → List Ent → Nat → List Ent × Bool
  | .sc _ _, es, _ => (es, true)
  | .arr vs, es, id => ckIs vs es id
  | .tbl ts, es, id => ckEs ts es id
def ckIs : List Val → List Ent → Nat → List Ent × Bool
  | [], es, _ => (es, true)
  | v :: vs, es, id => if v.isSc then ckIs vs es id else
    match ckV v (es ++ [⟨id, 5, false, []⟩]) es.length with
    | (es', true) => ckIs vs es' id
    | (es', false) => (es', false)
def ckEs : List (List Bs × Val) → List Ent → Nat → List Ent × Bool
  | [], es, _ => (es, true)
  | (ks, v) :: ts, es, id => match ckK (ckV v) ks es id with
    | (es', true) => ckEs ts es' id
    | (es', false) => (es', false)
end

/-- Up to the last part of a head: the entry at which it is looked up. -/
def ckH : List Bs → List Ent → Nat → List Ent × Option (Nat × Bs)
  | [], es, _ => (es, none)
  | [k], es, p => (es, some (p, k))
  | k :: k2 :: ks, es, p => match findE es p k with
    | none => ckH (k2 :: ks) (es ++ [⟨p, 3, false, k⟩]) es.length
    | some i => if kindE es i = 2 ∨ kindE es i = 3 ∨ kindE es i = 4 then ckH (k2 :: ks) es i else (es, none)

/-- All below an entry is taken out: what is left so far, the new places, which were taken out. -/
structure Clr where
  out : List Ent
  remap : List Nat
  gone : List Bool

def clrOne (id : Nat) (c : Clr) (e : Ent) : Clr :=
  if e.parent ≥ 0 ∧ ((e.parent = (id : Int) ∧ e.kind ≠ 0) ∨ c.gone.getD e.parent.toNat false = true) then
    ⟨c.out, c.remap ++ [0], c.gone ++ [true]⟩
  else ⟨c.out ++ [if c.out.length = c.gone.length then e else { e with parent := (c.remap.getD e.parent.toNat 0 : Nat) }], c.remap ++ [c.out.length], c.gone ++ [false]⟩

def clrE (id : Nat) (es : List Ent) : List Ent := (es.foldl (clrOne id) ⟨[], [], []⟩).out

/-- The tracker: its entries, the table that is open. -/
structure Trk where
  ents : List Ent
  cur : Nat

def Trk.begun (t : Trk) : Trk := if t.ents.isEmpty then ⟨[⟨-1, 3, false, []⟩], 0⟩ else t

def ckX (t : Trk) : Ex → Trk × Bool
  | .kv ks v => let r := ckK (ckV v) ks t.ents t.cur; (⟨r.1, t.cur⟩, r.2)
  | .tab ks => match ckH ks t.ents 0 with
    | (es, none) => (⟨es, t.cur⟩, false)
    | (es, some (p, k)) => match findE es p k with
      | none => (⟨es ++ [⟨p, 3, true, k⟩], es.length⟩, true)
      | some i => match es[i]? with
        | some e => if e.kind = 3 ∧ e.expl = false then (⟨es.set i { e with expl := true }, i⟩, true) else (⟨es, t.cur⟩, false)
        | none => (⟨es, t.cur⟩, false)
  | .atab ks => match ckH ks t.ents 0 with
    | (es, none) => (⟨es, t.cur⟩, false)
    | (es, some (p, k)) => match findE es p k with
      | none => (⟨es ++ [⟨p, 4, true, k⟩], es.length⟩, true)
      | some i => if kindE es i = 4 then (⟨clrE i es, i⟩, true) else (⟨es, t.cur⟩, false)

/-- What the check of an expression does. -/
def ckT (t : Trk) (x : Ex) : Trk × Bool := ckX t.begun x

/-- The first one that is refused. -/
def firstBad : Trk → List Ex → Nat → Option Nat
  | _, [], _ => none
  | t, x :: l, n => if (ckT t x).2 then firstBad (ckT t x).1 l (n + 1) else some n

def meant (l : List Ex) : Option Nat := firstBad ⟨[], 0⟩ l 0

theorem firstBad_app : ∀ (l m : List Ex) (t : Trk) (n k : Nat), firstBad t l n = some k → firstBad t (l ++ m) n = some k
  | [], _, _, _, _, h => by simp [firstBad] at h
  | x :: l, m, t, n, k, h => by
    simp only [firstBad, List.cons_append] at h ⊢
    split at h
    · rename_i hb; rw [if_pos hb]; exact firstBad_app l m _ _ _ h
    · rename_i hb; rw [if_neg hb]; exact h

theorem firstBad_take : ∀ (l : List Ex) (t : Trk) (n k : Nat), firstBad t l n = some k → n ≤ k ∧ k < n + l.length ∧ firstBad t (l.take (k - n)) n = none
  | [], _, _, _, h => by simp [firstBad] at h
  | x :: l, t, n, k, h => by
    simp only [firstBad] at h
    split at h
    · rename_i hb
      obtain ⟨h1, h2, h3⟩ := firstBad_take l _ _ _ h
      refine ⟨by omega, by simp only [List.length_cons]; omega, ?_⟩
      rw [show k - n = (k - (n + 1)) + 1 by omega, List.take_succ_cons]
      simp only [firstBad, hb, if_true]
      exact h3
    · simp only [Option.some.injEq] at h
      subst h
      simp [firstBad]

theorem firstBad_none : ∀ (l : List Ex) (t : Trk) (n j : Nat), firstBad t l n = none → firstBad t (l.take j) n = none
  | [], _, _, _, _ => by simp [firstBad]
  | x :: l, t, n, 0, _ => by simp [firstBad]
  | x :: l, t, n, j + 1, h => by
    simp only [firstBad, List.take_succ_cons] at h ⊢
    split at h
    · rename_i hb; rw [if_pos hb]; exact firstBad_none l _ _ _ h
    · cases h

theorem meant_app {l : List Ex} {k : Nat} (m : List Ex) (h : meant l = some k) : meant (l ++ m) = some k := firstBad_app _ _ _ _ _ h
theorem meant_take {l : List Ex} {k : Nat} (h : meant l = some k) : k < l.length ∧ meant (l.take k) = none := by
  obtain ⟨_, h2, h3⟩ := firstBad_take l _ _ _ h
  exact ⟨by omega, h3⟩
theorem meant_none {l : List Ex} (j : Nat) (h : meant l = none) : meant (l.take j) = none := firstBad_none _ _ _ _ h

/-! ### Entries stay in order -/
/-- A parent stands ahead of its children. -/
def Ord (es : List Ent) : Prop := ∀ (i : Nat) (e : Ent), es[i]? = some e → e.parent < (i : Int) ∧ (i = 0 ∨ 0 ≤ e.parent) ∧ e.kind ≤ 5 ∧ e.kind ≠ 0

theorem Ord.snoc {es : List Ent} (h : Ord es) {p k : Nat} {x : Bool} {nm : Bs} (hp : p < es.length) (hk : k ≤ 5) (hk0 : k ≠ 0) : Ord (es ++ [⟨p, k, x, nm⟩]) := by
  intro i e he
  by_cases hi : i < es.length
  · rw [List.getElem?_append_left hi] at he
    exact h i e he
  · have hi' : i = es.length := by
      have := (List.getElem?_eq_some_iff.1 he).1
      simp at this; omega
    subst hi'
    rw [List.getElem?_append_right (Nat.le_refl _), Nat.sub_self] at he
    simp only [List.getElem?_cons_zero, Option.some.injEq] at he
    subst he
    exact ⟨by simp only; omega, .inr (by simp only; omega), hk, hk0⟩

theorem findFrom_some {p : Nat} {nm : Bs} : ∀ (l : List Ent) (i j : Nat), findFrom p nm l i = some j → i ≤ j ∧ ∃ e, l[j - i]? = some e ∧ e.is p nm = true
  | [], _, _, h => by simp [findFrom] at h
  | e :: l, i, j, h => by
    simp only [findFrom] at h
    split at h
    · rename_i he
      simp only [Option.some.injEq] at h
      subst h
      exact ⟨Nat.le_refl _, e, by simp, he⟩
    · obtain ⟨h1, e', h2, h3⟩ := findFrom_some l (i + 1) j h
      refine ⟨by omega, e', ?_, h3⟩
      rw [show j - i = (j - (i + 1)) + 1 by omega, List.getElem?_cons_succ]
      exact h2

theorem findE_some {es : List Ent} {p i : Nat} {nm : Bs} (h : findE es p nm = some i) : p < i ∧ ∃ e, es[i]? = some e ∧ e.is p nm = true := by
  obtain ⟨h1, e, h2, h3⟩ := findFrom_some _ _ _ h
  rw [List.getElem?_drop, show p + 1 + (i - (p + 1)) = i by omega] at h2
  exact ⟨by omega, e, h2, h3⟩

theorem findE_lt {es : List Ent} {p i : Nat} {nm : Bs} (h : findE es p nm = some i) : i < es.length := by
  obtain ⟨_, e, h2, _⟩ := findE_some h
  exact (List.getElem?_eq_some_iff.1 h2).1

/-- What a check may do: entries come behind, in order. -/
def Grow (es es' : List Ent) (n : Nat) : Prop := Ord es' ∧ es.length ≤ es'.length ∧ es'.length ≤ es.length + n

theorem Grow.refl {es : List Ent} (h : Ord es) (n : Nat) : Grow es es n := ⟨h, Nat.le_refl _, by omega⟩
theorem Grow.trans {a b c : List Ent} {n m : Nat} (h : Grow a b n) (g : Grow b c m) : Grow a c (n + m) := ⟨g.1, Nat.le_trans h.2.1 g.2.1, by have := h.2.2; have := g.2.2; omega⟩
theorem Grow.mono {a b : List Ent} {n m : Nat} (h : Grow a b n) (hm : n ≤ m) : Grow a b m := ⟨h.1, h.2.1, by have := h.2.2; omega⟩
theorem Grow.snoc {es : List Ent} (h : Ord es) {p k : Nat} {x : Bool} {nm : Bs} (hp : p < es.length) (hk : k ≤ 5) (hk0 : k ≠ 0) : Grow es (es ++ [⟨p, k, x, nm⟩]) 1 := ⟨h.snoc hp hk hk0, by simp, by simp⟩

theorem ckK_grow {f : List Ent → Nat → List Ent × Bool} {m : Nat} (hf : ∀ es id, Ord es → id < es.length → Grow es (f es id).1 m) :
    ∀ (ks : List Bs) (es : List Ent) (p : Nat), Ord es → p < es.length → Grow es (ckK f ks es p).1 (ks.length + m)
  | [], es, p, h, _ => Grow.refl h _
  | [k], es, p, h, hp => by
    simp only [ckK]
    split
    · exact Grow.refl h _
    · have h1 := Grow.snoc h (k := 1) (x := false) (nm := k) hp (by omega) (by omega)
      have h2 := hf _ es.length h1.1 (by simp)
      exact (h1.trans h2).mono (by simp)
  | k :: k2 :: ks, es, p, h, hp => by
    simp only [ckK]
    split
    · have h1 := Grow.snoc h (k := 2) (x := false) (nm := k) hp (by omega) (by omega)
      have h2 := ckK_grow hf (k2 :: ks) _ es.length h1.1 (by simp)
      exact (h1.trans h2).mono (by simp only [List.length_cons]; omega)
    · rename_i i hi
      split
      · exact (ckK_grow hf (k2 :: ks) es i h (findE_lt hi)).mono (by simp only [List.length_cons]; omega)
      · exact Grow.refl h _

mutual
/-- How many entries come behind at most. -/
def cV : Val → Nat
  | .sc _ _ => 0
  | .arr vs => cIs vs
  | .tbl ts => cEs ts
def cIs : List Val → Nat
  | [] => 0
  | v :: vs => 1 + cV v + cIs vs
def cEs : List (List Bs × Val) → Nat
  | [] => 0
  | (ks, v) :: ts => ks.length + cV v + cEs ts
end

def cX : Ex → Nat
  | .kv ks v => ks.length + cV v
  | .tab ks => ks.length
  | .atab ks => ks.length

mutual
theorem cV_le : ∀ (v : Val) (k : Nat), cV v + 1 ≤ (encV v k).length
  | .sc _ _, _ => by simp [cV, encV]
  | .arr vs, k => by
    have := cIs_le vs (k + 1)
    simp only [cV, encV, List.length_cons]; omega
  | .tbl ts, k => by
    have := cEs_le ts (k + 1)
    simp only [cV, encV, List.length_cons]; omega
theorem cIs_le : ∀ (vs : List Val) (k : Nat), cIs vs ≤ (forest k (encIs vs)).length
  | [], _ => by simp [cIs]
  | v :: vs, k => by
    have h1 := cV_le v k
    have h2 := cIs_le vs (k + (encV v k).length)
    have e1 := forest_cons k (encV v) (encIs vs)
    simp only [cIs, encIs]; omega
theorem cEs_le : ∀ (ts : List (List Bs × Val)) (k : Nat), cEs ts ≤ (forest k (encEs ts)).length
  | [], _ => by simp [cEs]
  | (ks, v) :: ts, k => by
    have h1 := cV_le v (k + 1 + ks.length)
    have h2 := cEs_le ts (k + (encE ks (encV v) k).length)
    have e1 := forest_cons k (encE ks (encV v)) (encEs ts)
    have e2 := encE_length ks (encV v) k
    simp only [cEs, encEs]; omega
end

mutual
theorem ckV_grow : ∀ (v : Val) (es : List Ent) (id : Nat), Ord es → id < es.length → Grow es (ckV v es id).1 (cV v)
  | .sc _ _, es, _, h, _ => by simp only [ckV]; exact Grow.refl h _
  | .arr vs, es, id, h, hi => by
    simp only [ckV, cV]
    exact ckIs_grow vs es id h hi
  | .tbl ts, es, id, h, hi => by
    simp only [ckV, cV]
    exact ckEs_grow ts es id h hi
theorem ckIs_grow : ∀ (vs : List Val) (es : List Ent) (id : Nat), Ord es → id < es.length → Grow es (ckIs vs es id).1 (cIs vs)
  | [], es, _, h, _ => by simp only [ckIs]; exact Grow.refl h _
  | v :: vs, es, id, h, hi => by
    simp only [ckIs, cIs]
    split
    · exact (ckIs_grow vs es id h hi).mono (by omega)
    · have h1 := Grow.snoc h (k := 5) (x := false) (nm := []) hi (by omega) (by omega)
      have h2 := ckV_grow v _ es.length h1.1 (by simp)
      have h3 := h1.trans h2
      split
      · rename_i es' heq
        rw [heq] at h3
        have h4 := ckIs_grow vs es' id h3.1 (by have := h3.2.1; simp only at this; omega)
        exact h3.trans h4
      · rename_i es' heq
        rw [heq] at h3
        exact h3.mono (by omega)
theorem ckEs_grow : ∀ (ts : List (List Bs × Val)) (es : List Ent) (id : Nat), Ord es → id < es.length → Grow es (ckEs ts es id).1 (cEs ts)
  | [], es, _, h, _ => by simp only [ckEs]; exact Grow.refl h _
  | (ks, v) :: ts, es, id, h, hi => by
    simp only [ckEs, cEs]
    have h2 := ckK_grow (f := ckV v) (m := cV v) (fun es id h hi => ckV_grow v es id h hi) ks es id h hi
    split
    · rename_i es' heq
      rw [heq] at h2
      have h4 := ckEs_grow ts es' id h2.1 (by have := h2.2.1; simp only at this; omega)
      exact h2.trans h4
    · rename_i es' heq
      rw [heq] at h2
      exact h2.mono (by omega)
end

theorem ckH_grow : ∀ (ks : List Bs) (es : List Ent) (p : Nat), Ord es → p < es.length →
    Grow es (ckH ks es p).1 (ks.length - 1) ∧ ∀ q k, (ckH ks es p).2 = some (q, k) → q < (ckH ks es p).1.length
  | [], es, p, h, _ => ⟨Grow.refl h _, fun q k hq => by simp [ckH] at hq⟩
  | [k], es, p, h, hp => ⟨Grow.refl h _, fun q k hq => by
      simp only [ckH, Option.some.injEq, Prod.mk.injEq] at hq
      obtain ⟨rfl, rfl⟩ := hq
      exact hp⟩
  | k :: k2 :: ks, es, p, h, hp => by
    simp only [ckH]
    split
    · have h1 := Grow.snoc h (k := 3) (x := false) (nm := k) hp (by omega) (by omega)
      obtain ⟨h2, h3⟩ := ckH_grow (k2 :: ks) _ es.length h1.1 (by simp)
      exact ⟨(h1.trans h2).mono (by simp only [List.length_cons]; omega), h3⟩
    · rename_i i hi
      split
      · obtain ⟨h2, h3⟩ := ckH_grow (k2 :: ks) es i h (findE_lt hi)
        exact ⟨h2.mono (by simp only [List.length_cons]; omega), h3⟩
      · exact ⟨Grow.refl h _, fun q k hq => by simp at hq⟩

theorem Ord.set {es : List Ent} (h : Ord es) {i : Nat} {e e' : Ent} (he : es[i]? = some e) (hp : e'.parent = e.parent) (hk : e'.kind = e.kind) : Ord (es.set i e') := by
  intro j a ha
  by_cases hij : i = j
  · subst hij
    rw [List.getElem?_set_self (List.getElem?_eq_some_iff.1 he).1] at ha
    simp only [Option.some.injEq] at ha
    subst ha
    rw [hp, hk]
    exact h i e he
  · rw [List.getElem?_set_ne hij] at ha
    exact h j a ha

/-- What holds while entries are taken out. -/
structure ClrOk (id : Nat) (es : List Ent) (i : Nat) (c : Clr) : Prop where
  gone : c.gone.length = i
  remap : c.remap.length = i
  out : c.out.length ≤ i
  ord : Ord c.out
  keep : ∀ (j : Nat), c.gone[j]? = some false → ∃ m, c.remap[j]? = some m ∧ m < c.out.length
  low : ∀ (j : Nat), j < i → j ≤ id → c.gone[j]? = some false ∧ c.remap[j]? = some j ∧ c.out[j]? = es[j]?
  same : c.out.length = i → c.out = es.take i

theorem ClrOk.step {id : Nat} {es : List Ent} {i : Nat} {c : Clr} {e : Ent} (h : ClrOk id es i c) (hO : Ord es) (he : es[i]? = some e) : ClrOk id es (i + 1) (clrOne id c e) := by
  obtain ⟨o1, o2, o3, o4⟩ := hO i e he
  have hlt := (List.getElem?_eq_some_iff.1 he).1
  have hg := h.gone
  have hr := h.remap
  have ho := h.out
  unfold clrOne
  split
  · rename_i hc
    obtain ⟨hc0, hc1⟩ := hc
    refine ⟨by simp [hg], by simp [hr], by simp only; omega, h.ord, fun j hj => ?_, fun j hj hji => ?_, fun hs => by simp only at hs; omega⟩
    · by_cases hjl : j < c.gone.length
      · rw [List.getElem?_append_left hjl] at hj
        obtain ⟨m, h1, h2⟩ := h.keep j hj
        exact ⟨m, by rw [List.getElem?_append_left (by omega)]; exact h1, h2⟩
      · rw [List.getElem?_append_right (by omega)] at hj
        cases hx : j - c.gone.length with
        | zero => rw [hx] at hj; simp at hj
        | succ n => rw [hx] at hj; simp at hj
    · by_cases hjl : j < i
      · obtain ⟨h1, h2, h3⟩ := h.low j hjl hji
        exact ⟨by rw [List.getElem?_append_left (by omega)]; exact h1, by rw [List.getElem?_append_left (by omega)]; exact h2, h3⟩
      · exfalso
        have hji' : j = i := by omega
        subst hji'
        rcases hc1 with ⟨hc1, _⟩ | hc1
        · omega
        · have hp : e.parent.toNat < j := by omega
          have := (h.low e.parent.toNat hp (by omega)).1
          simp [List.getD_eq_getElem?_getD, this] at hc1
  · rename_i hc
    have hpar : e.parent ≥ 0 → c.gone[e.parent.toNat]? = some false := fun h0 => by
      have hp : e.parent.toNat < c.gone.length := by omega
      cases hx : c.gone[e.parent.toNat]? with
      | none => rw [List.getElem?_eq_none_iff] at hx; omega
      | some b =>
        cases b with
        | false => rfl
        | true => exact absurd ⟨h0, .inr (by simp [List.getD_eq_getElem?_getD, hx])⟩ hc
    refine ⟨by simp [hg], by simp [hr], by simp; omega, ?_, fun j hj => ?_, fun j hj hji => ?_, fun hs => ?_⟩
    · intro j a ha
      by_cases hjl : j < c.out.length
      · rw [List.getElem?_append_left hjl] at ha
        exact h.ord j a ha
      · have hjl' : j = c.out.length := by
          have := (List.getElem?_eq_some_iff.1 ha).1
          simp at this; omega
        subst hjl'
        rw [List.getElem?_append_right (Nat.le_refl _), Nat.sub_self] at ha
        simp only [List.getElem?_cons_zero, Option.some.injEq] at ha
        subst ha
        split
        · rename_i hs
          exact ⟨by omega, by omega, o3, o4⟩
        · rename_i hs
          have h0 : e.parent ≥ 0 := by
            rcases o2 with o2 | o2
            · omega
            · exact o2
          obtain ⟨m, h1, h2⟩ := h.keep _ (hpar h0)
          simp only [List.getD_eq_getElem?_getD, h1, Option.getD_some]
          exact ⟨by omega, .inr (by omega), o3, o4⟩
    · by_cases hjl : j < c.gone.length
      · rw [List.getElem?_append_left hjl] at hj
        obtain ⟨m, h1, h2⟩ := h.keep j hj
        exact ⟨m, by rw [List.getElem?_append_left (by omega)]; exact h1, by simp; omega⟩
      · have hjl' : j = i := by
          have := (List.getElem?_eq_some_iff.1 hj).1
          simp at this; omega
        subst hjl'
        refine ⟨c.out.length, ?_, by simp⟩
        rw [List.getElem?_append_right (by omega), hr, Nat.sub_self]
        rfl
    · have hlo : ∀ j, j < i → j ≤ id → c.out[j]? = es[j]? := fun j a b => (h.low j a b).2.2
      by_cases hjl : j < i
      · obtain ⟨h1, h2, h3⟩ := h.low j hjl hji
        refine ⟨by rw [List.getElem?_append_left (by omega)]; exact h1, by rw [List.getElem?_append_left (by omega)]; exact h2, ?_⟩
        have : j < c.out.length := by
          have h5 : es[j]? = some es[j] := List.getElem?_eq_getElem (by omega)
          rw [h5] at h3
          exact (List.getElem?_eq_some_iff.1 h3).1
        rw [List.getElem?_append_left this]; exact h3
      · have hjl' : j = i := by omega
        subst hjl'
        have hol : c.out.length = j := by
          rcases Nat.lt_or_ge c.out.length j with h5 | h5
          · exfalso
            have h6 := hlo c.out.length h5 (by omega)
            rw [List.getElem?_eq_none (Nat.le_refl _), List.getElem?_eq_getElem (by omega)] at h6
            cases h6
          · omega
        refine ⟨by rw [List.getElem?_append_right (by omega), hg, Nat.sub_self]; rfl, ?_, ?_⟩
        · rw [List.getElem?_append_right (by omega), hr, Nat.sub_self, hol]; rfl
        · rw [List.getElem?_append_right (by omega), hol, Nat.sub_self, hg, if_pos rfl, he]; rfl
    · simp only [List.length_append, List.length_singleton] at hs
      have hs' : c.out.length = i := by omega
      rw [if_pos (by omega), h.same hs', List.take_add_one, he]
      rfl

theorem clr_ok (id : Nat) (es : List Ent) (hO : Ord es) : ∀ (l : List Ent) (i : Nat) (c : Clr), es.drop i = l → i ≤ es.length → ClrOk id es i c → ClrOk id es es.length (l.foldl (clrOne id) c)
  | [], i, c, hl, hi, h => by
    have : i = es.length := by
      have := List.drop_eq_nil_iff.1 hl
      omega
    subst this
    exact h
  | e :: l, i, c, hl, hi, h => by
    have he : es[i]? = some e := by
      have := congrArg (fun l => l[0]?) hl
      simpa using this
    have hl' : es.drop (i + 1) = l := by
      have := congrArg (fun l => l.drop 1) hl
      simpa using this
    exact clr_ok id es hO l (i + 1) _ hl' (by have := (List.getElem?_eq_some_iff.1 he).1; omega) (h.step hO he)

theorem clr_zero (id : Nat) (es : List Ent) : ClrOk id es 0 ⟨[], [], []⟩ :=
  ⟨rfl, rfl, Nat.le_refl _, fun i e h => by simp at h, fun j h => by simp at h, fun j h => by omega, fun _ => by simp⟩

theorem clrE_ok (id : Nat) (es : List Ent) (hO : Ord es) (hid : id < es.length) : Ord (clrE id es) ∧ (clrE id es).length ≤ es.length ∧ id < (clrE id es).length := by
  have h := clr_ok id es hO es 0 ⟨[], [], []⟩ rfl (Nat.zero_le _) (clr_zero id es)
  refine ⟨h.ord, h.out, ?_⟩
  have h1 := (h.low id hid (Nat.le_refl _)).2.2
  rw [List.getElem?_eq_getElem hid] at h1
  exact (List.getElem?_eq_some_iff.1 h1).1

/-- The tracker is in order. -/
def TOk (t : Trk) : Prop := Ord t.ents ∧ t.cur < t.ents.length

theorem ckX_ok {t : Trk} (h : TOk t) (x : Ex) : TOk (ckX t x).1 ∧ (ckX t x).1.ents.length ≤ t.ents.length + cX x := by
  obtain ⟨hO, hc⟩ := h
  have h0 : 0 < t.ents.length := by omega
  cases x with
  | kv ks v =>
    have h2 := ckK_grow (f := ckV v) (m := cV v) (fun es id h hi => ckV_grow v es id h hi) ks t.ents t.cur hO hc
    simp only [ckX, cX]
    exact ⟨⟨h2.1, by have := h2.2.1; simp only; omega⟩, h2.2.2⟩
  | tab ks =>
    obtain ⟨h1, h2⟩ := ckH_grow ks t.ents 0 hO h0
    simp only [ckX, cX]
    split
    · rename_i es heq
      rw [heq] at h1
      exact ⟨⟨h1.1, by have := h1.2.1; simp only at this ⊢; omega⟩, by have := h1.2.2; simp only at this ⊢; omega⟩
    · rename_i es p k heq
      have hk1 : 1 ≤ ks.length := by
        cases ks with
        | nil => simp [ckH] at heq
        | cons => simp
      have hp := h2 p k (by rw [heq])
      rw [heq] at h1 hp
      have hl1 := h1.2.1
      have hl2 := h1.2.2
      simp only at hp hl1 hl2
      split
      · have h3 := Grow.snoc h1.1 (k := 3) (x := true) (nm := k) hp (by omega) (by omega)
        exact ⟨⟨h3.1, by simp⟩, by simp; omega⟩
      · rename_i i hi
        have hil := findE_lt hi
        split
        · rename_i e he
          split
          · exact ⟨⟨Ord.set h1.1 he rfl rfl, by simp; omega⟩, by simp; omega⟩
          · exact ⟨⟨h1.1, by simp only; omega⟩, by simp only; omega⟩
        · exact ⟨⟨h1.1, by simp only; omega⟩, by simp only; omega⟩
  | atab ks =>
    obtain ⟨h1, h2⟩ := ckH_grow ks t.ents 0 hO h0
    simp only [ckX, cX]
    split
    · rename_i es heq
      rw [heq] at h1
      exact ⟨⟨h1.1, by have := h1.2.1; simp only at this ⊢; omega⟩, by have := h1.2.2; simp only at this ⊢; omega⟩
    · rename_i es p k heq
      have hk1 : 1 ≤ ks.length := by
        cases ks with
        | nil => simp [ckH] at heq
        | cons => simp
      have hp := h2 p k (by rw [heq])
      rw [heq] at h1 hp
      have hl1 := h1.2.1
      have hl2 := h1.2.2
      simp only at hp hl1 hl2
      split
      · have h3 := Grow.snoc h1.1 (k := 4) (x := true) (nm := k) hp (by omega) (by omega)
        exact ⟨⟨h3.1, by simp⟩, by simp; omega⟩
      · rename_i i hi
        have hil := findE_lt hi
        split
        · obtain ⟨h3, h4, h5⟩ := clrE_ok i es h1.1 hil
          exact ⟨⟨h3, h5⟩, by simp only; omega⟩
        · exact ⟨⟨h1.1, by simp only; omega⟩, by simp only; omega⟩

def TPre (t : Trk) : Prop := t = ⟨[], 0⟩ ∨ TOk t

theorem begun_ok {t : Trk} (h : TPre t) : TOk t.begun ∧ t.begun.ents.length ≤ t.ents.length + 1 := by
  rcases h with rfl | h
  · refine ⟨⟨fun i e he => ?_, by simp [Trk.begun]⟩, by simp [Trk.begun]⟩
    simp only [Trk.begun, List.isEmpty_nil, if_true] at he
    cases i with
    | zero =>
      simp only [List.getElem?_cons_zero, Option.some.injEq] at he
      subst he
      exact ⟨by simp only; omega, .inl rfl, by simp, by simp⟩
    | succ i => simp at he
  · have : t.ents.isEmpty = false := by
      cases hx : t.ents with
      | nil => have := h.2; rw [hx] at this; simp at this
      | cons => rfl
    simp only [Trk.begun, this, Bool.false_eq_true, if_false]
    exact ⟨h, by omega⟩

theorem begun_of {t : Trk} (h : TOk t) : t.begun = t := by
  have : t.ents.isEmpty = false := by
    cases hx : t.ents with
    | nil => have := h.2; rw [hx] at this; simp at this
    | cons => rfl
  simp [Trk.begun, this]
end Go.Proofs.YtaccphdkapmdhaaGreat

namespace Go.Proofs.YtaccphdkapmdhaaGreat

/-- Blanks alone. -/
def BL (s : Bs) : Prop := ∀ c ∈ s, isWs c = true

theorem BL.nil : BL [] := fun c h => by simp at h
theorem skipWs_bl : ∀ (s t : Bs), BL s → skipWs (s ++ t) = skipWs t
  | [], _, _ => rfl
  | c :: s, t, h => by
    have hc := h c (by simp)
    simp only [List.cons_append, skipWs, hc, if_true]
    exact skipWs_bl s t (fun c hc => h c (by simp [hc]))

theorem skipWs_stop {c : UInt8} {t : Bs} (h : isWs c = false) : skipWs (c :: t) = c :: t := by simp [skipWs, h]

def NlS (s : Bs) : Prop := s = [10] ∨ s = [13, 10]
def CmS (s : Bs) : Prop := s = [] ∨ ∃ t, s = 35 :: t ∧ ∀ c ∈ t, plainB c = true
/-- The end of a line. -/
def EndS (s : Bs) : Prop := ∃ a c n, s = a ++ (c ++ n) ∧ BL a ∧ CmS c ∧ NlS n

theorem Cm.plainS {n : Bs} (hn : NlS n) (r : Bs) : ∀ (t : Bs), (∀ c ∈ t, plainB c = true) → Cm (t ++ (n ++ r)) (n ++ r)
  | [], _ => by
    rcases hn with rfl | rfl
    · exact Cm.lf r
    · exact Cm.crlf r
  | c :: t, h => by
    refine Cm.sign 1 ?_ (by omega) ?_
    · simp [signLen, h c (by simp)]
    · simpa using Cm.plainS hn r t (fun c hc => h c (by simp [hc]))

theorem NlS.nl {n : Bs} (hn : NlS n) (r : Bs) : Nl (n ++ r) r := by
  rcases hn with rfl | rfl
  · exact Nl.lf r
  · exact Nl.crlf r

theorem NlS.head {n : Bs} (hn : NlS n) : ∃ c t, n = c :: t ∧ (c = 10 ∨ c = 13) := by
  rcases hn with rfl | rfl
  · exact ⟨_, _, rfl, .inl rfl⟩
  · exact ⟨_, _, rfl, .inr rfl⟩

/-- What is left of the end of a line behind its blanks. -/
theorem EndS.cut {s : Bs} (h : EndS s) (r : Bs) : ∃ c n, skipWs (s ++ r) = c ++ (n ++ r) ∧ CmS c ∧ NlS n := by
  obtain ⟨a, c, n, rfl, ha, hc, hn⟩ := h
  refine ⟨c, n, ?_, hc, hn⟩
  rw [List.append_assoc, skipWs_bl _ _ ha, List.append_assoc]
  rcases hc with rfl | ⟨t, rfl, _⟩
  · obtain ⟨x, y, rfl, hx⟩ := hn.head
    simp only [List.nil_append, List.cons_append]
    exact skipWs_stop (by rcases hx with rfl | rfl <;> decide)
  · simp only [List.cons_append]
    exact skipWs_stop (by decide)

theorem EndS.eol {s : Bs} (h : EndS s) (r : Bs) : Eol (skipWs (s ++ r)) r ∧ skipWs (s ++ r) ≠ [] := by
  obtain ⟨c, n, h1, hc, hn⟩ := h.cut r
  rw [h1]
  rcases hc with rfl | ⟨t, rfl, ht⟩
  · refine ⟨Eol.nl (hn.nl r), ?_⟩
    obtain ⟨x, y, rfl, hx⟩ := hn.head
    simp
  · refine ⟨?_, by simp⟩
    have h2 := Cm.plainS hn r (35 :: t) (fun c hc => by
      rcases List.mem_cons.1 hc with rfl | hc
      · decide
      · exact ht c hc)
    exact Eol.cm (by simpa using h2) (hn.nl r)

theorem Fol.of_cons {c : UInt8} {t : Bs} (h : c.toNat = 9 ∨ c.toNat = 10 ∨ c.toNat = 13 ∨ c.toNat = 32 ∨ c.toNat = 35 ∨ c.toNat = 44 ∨ c.toNat = 93 ∨ c.toNat = 125) : Fol (c :: t) := .inr ⟨c, t, rfl, h⟩

theorem Fol.of_skip {b : Bs} (h : Fol (skipWs b)) : Fol b := by
  cases b with
  | nil => exact .inl rfl
  | cons c t =>
    by_cases hc : isWs c = true
    · have : c.toNat = 32 ∨ c.toNat = 9 := by simpa [isWs] using hc
      exact Fol.of_cons (by omega)
    · rw [skipWs_stop (by simpa using hc)] at h
      exact h

theorem EndS.fol {s : Bs} (h : EndS s) (r : Bs) : Fol (s ++ r) := by
  refine Fol.of_skip ?_
  obtain ⟨c, n, h1, hc, hn⟩ := h.cut r
  rw [h1]
  rcases hc with rfl | ⟨t, rfl, ht⟩
  · obtain ⟨x, y, rfl, hx⟩ := hn.head
    exact Fol.of_cons (by rcases hx with rfl | rfl <;> decide)
  · exact Fol.of_cons (by decide)

/-- Between the parts of a list. -/
def GapS (s : Bs) : Prop := BL s ∨ ∃ e b, s = e ++ b ∧ EndS e ∧ BL b

theorem VA.ws {f : Bool} {d : Nat} {a : Bool} {b r : Bs} {vs : List Val} (s : Bs) (hs : BL s) (h : VA f d a b vs r) : VA f d a (s ++ b) vs r := by
  have e := skipWs_bl s b hs
  cases h with
  | close h => exact .close (by rw [e]; exact h)
  | lf h h2 => exact .lf (by rw [e]; exact h) h2
  | crlf h h2 => exact .crlf (by rw [e]; exact h) h2
  | cm h h2 h3 => exact .cm (by rw [e]; exact h) h2 h3
  | comma h h2 => exact .comma (by rw [e]; exact h) h2
  | val h h2 h3 h4 => exact .val (by rw [e]; exact h) h2 h3 h4

theorem Ks.ws {b r : Bs} {ks : List Bs} (s : Bs) (hs : BL s) (h : Ks b ks r) : Ks (s ++ b) ks r := by
  have e := skipWs_bl s b hs
  cases h with
  | one h1 h2 => exact Ks.one (by rw [e]; exact h1) h2
  | dot h1 h2 h3 => exact Ks.dot (by rw [e]; exact h1) h2 h3

theorem VT.ws {f : Bool} {d : Nat} {a : Bool} {b r : Bs} {vs : List (List Bs × Val)} (s : Bs) (hs : BL s) (h : VT f d a b vs r) : VT f d a (s ++ b) vs r := by
  have e := skipWs_bl s b hs
  cases h with
  | close h => exact .close (by rw [e]; exact h)
  | comma h h2 => exact .comma (by rw [e]; exact h) h2
  | ent h h2 h3 =>
    exact .ent (h.ws s hs) h2 h3

theorem VA.nl {f : Bool} {d : Nat} {a : Bool} {b r : Bs} {vs : List Val} {n : Bs} (hn : NlS n) (h : VA f d a b vs r) : VA f d a (n ++ b) vs r := by
  rcases hn with rfl | rfl
  · exact .lf (skipWs_stop (by decide)) h
  · exact .crlf (skipWs_stop (by decide)) h

theorem VA.gap {f : Bool} {d : Nat} {a : Bool} {b r : Bs} {vs : List Val} (s : Bs) (hs : GapS s) (h : VA f d a b vs r) : VA f d a (s ++ b) vs r := by
  rcases hs with hs | ⟨e, bl, rfl, he, hb⟩
  · exact h.ws s hs
  · have h1 := h.ws bl hb
    rw [List.append_assoc]
    generalize bl ++ b = t at h1
    obtain ⟨c, n, h2, hc, hn⟩ := he.cut t
    rcases hc with rfl | ⟨u, rfl, hu⟩
    · rcases hn with rfl | rfl
      · exact .lf h2 h1
      · exact .crlf h2 h1
    · have h3 := Cm.plainS hn t (35 :: u) (fun c hc => by
        rcases List.mem_cons.1 hc with rfl | hc
        · decide
        · exact hu c hc)
      exact .cm (by rw [h2]; rfl) (by simpa using h3) (h1.nl hn)

theorem VA.fol {f : Bool} {d : Nat} {b r : Bs} {vs : List Val} (h : VA f d true b vs r) : Fol b := by
  refine Fol.of_skip ?_
  cases h with
  | close h => rw [h]; exact Fol.of_cons (by decide)
  | lf h h2 => rw [h]; exact Fol.of_cons (by decide)
  | crlf h h2 => rw [h]; exact Fol.of_cons (by decide)
  | cm h h2 h3 => rw [h]; exact Fol.of_cons (by decide)
  | comma h h2 => rw [h]; exact Fol.of_cons (by decide)

theorem VT.fol {f : Bool} {d : Nat} {b r : Bs} {vs : List (List Bs × Val)} (h : VT f d true b vs r) : Fol b := by
  refine Fol.of_skip ?_
  cases h with
  | close h => rw [h]; exact Fol.of_cons (by decide)
  | comma h h2 => rw [h]; exact Fol.of_cons (by decide)

mutual
/-- How deep a value goes. -/
def dep : Val → Nat
  | .sc _ _ => 0
  | .arr vs => deps vs + 1
  | .tbl es => depE es + 1
def deps : List Val → Nat
  | [] => 0
  | v :: vs => max (dep v) (deps vs)
def depE : List (List Bs × Val) → Nat
  | [] => 0
  | (_, v) :: es => max (dep v) (depE es)
end

/-- The text of a key. -/
def KeyS (ks : List Bs) (s : Bs) : Prop := (∃ c t, s = c :: t ∧ isWs c = false ∧ c.toNat ≠ 91) ∧ ∀ (b : Bs) (c : UInt8) (r : Bs), BL b → c = 61 ∨ c = 93 → Ks (s ++ (b ++ c :: r)) ks (c :: r)

/-- The text of a value. -/
def VS (v : Val) (s : Bs) : Prop := (∃ c t, s = c :: t ∧ (c = 55 ∨ c = 91 ∨ c = 123)) ∧ ∀ (d : Nat) (r : Bs), d + dep v ≤ 60 → Fol r → VV false d (s ++ r) v r

theorem VS.skip {v : Val} {s : Bs} (h : VS v s) (r : Bs) : skipWs (s ++ r) = s ++ r := by
  obtain ⟨⟨c, t, rfl, hc⟩, _⟩ := h
  exact skipWs_stop (by rcases hc with rfl | rfl | rfl <;> decide)

theorem VS.seven : VS (.sc 1 [55]) [55] := ⟨⟨55, [], rfl, .inl rfl⟩, fun d r hd hr => .seven (by simp [dep] at hd; omega) hr⟩

/-- A list, so far (behind its opening). -/
def AccA (vs : List Val) (out : Bs) : Prop := ∀ (d : Nat) (t r : Bs) (us : List Val), d + deps vs ≤ 60 → VA false d (!vs.isEmpty) t us r → VA false d false (out ++ t) (vs ++ us) r

theorem AccA.nil : AccA [] [] := fun _ _ _ _ _ h => h

theorem deps_app : ∀ (a b : List Val), deps (a ++ b) = max (deps a) (deps b)
  | [], b => by simp [deps]
  | v :: a, b => by simp only [List.cons_append, deps, deps_app a b]; omega
theorem depE_app : ∀ (a b : List (List Bs × Val)), depE (a ++ b) = max (depE a) (depE b)
  | [], b => by simp [depE]
  | (k, v) :: a, b => by simp only [List.cons_append, depE, depE_app a b]; omega

theorem VA.value {d : Nat} {r t : Bs} {v : Val} {us : List Val} {g1 s g2 : Bs} (hg1 : GapS g1) (hs : VS v s) (hg2 : GapS g2) (hd : d + dep v ≤ 60) (h : VA false d true t us r) : VA false d false (g1 ++ (s ++ (g2 ++ t))) (v :: us) r := by
  have h1 := h.gap g2 hg2
  refine VA.gap g1 hg1 ?_
  have h2 := hs.2 d _ hd h1.fol
  have h3 := hs.skip (g2 ++ t)
  obtain ⟨⟨c, u, rfl, hc⟩, _⟩ := hs
  exact .val h3 (by rcases hc with rfl | rfl | rfl <;> decide) h2 h1

theorem AccA.first {v : Val} {g1 s g2 : Bs} (hg1 : GapS g1) (hs : VS v s) (hg2 : GapS g2) : AccA [v] (g1 ++ s ++ g2) := fun d t r us hd h => by
  have := VA.value hg1 hs hg2 (by simp [deps] at hd; omega) h
  simpa using this

theorem AccA.more {vs : List Val} {out : Bs} (ha : AccA vs out) (hne : vs ≠ []) {v : Val} {g1 s g2 : Bs} (hg1 : GapS g1) (hs : VS v s) (hg2 : GapS g2) : AccA (vs ++ [v]) (out ++ [44] ++ (g1 ++ s ++ g2)) := fun d t r us hd h => by
  rw [deps_app] at hd
  have e1 : (!(vs ++ [v]).isEmpty) = true := by simp
  rw [e1] at h
  have h1 := VA.value hg1 hs hg2 (by simp [deps] at hd; omega) h
  have h2 : VA false d true (44 :: (g1 ++ (s ++ (g2 ++ t)))) (v :: us) r := .comma (skipWs_stop (by decide)) h1
  have e2 : (!vs.isEmpty) = true := by cases vs <;> simp_all
  have h3 := ha d _ r (v :: us) (by omega) (by rw [e2]; exact h2)
  simpa using h3

theorem AccA.close {vs : List Val} {out g c : Bs} (ha : AccA vs out) (hc : c = [] ∨ (c = [44] ∧ vs ≠ [])) (hg : GapS g) : VS (.arr vs) (91 :: (out ++ c ++ (g ++ [93]))) := by
  refine ⟨⟨91, _, rfl, .inr (.inl rfl)⟩, fun d r hd hr => ?_⟩
  simp only [dep] at hd
  have h0 : ∀ a, VA false (d + 1) a (g ++ 93 :: r) [] r := fun a => VA.gap g hg (.close (skipWs_stop (by decide)))
  have h1 : VA false (d + 1) (!vs.isEmpty) (c ++ (g ++ 93 :: r)) [] r := by
    rcases hc with rfl | ⟨rfl, hne⟩
    · exact h0 _
    · have e2 : (!vs.isEmpty) = true := by cases vs <;> simp_all
      rw [e2]
      exact .comma (skipWs_stop (by decide)) (h0 _)
  have h2 := ha (d + 1) _ r [] (by omega) h1
  refine .arr (by omega) ?_
  simpa using h2

/-- A table between braces, so far (behind its opening). -/
def AccT (es : List (List Bs × Val)) (out : Bs) : Prop := ∀ (d : Nat) (t r : Bs) (us : List (List Bs × Val)), d + depE es ≤ 60 → VT false d (!es.isEmpty) t us r → VT false d false (out ++ t) (es ++ us) r

theorem AccT.nil {b : Bs} (hb : BL b) : AccT [] b := fun _ _ _ _ _ h => h.ws b hb

/-- A key and a value. -/
theorem VT.entry {d : Nat} {r t k b1 b2 s b3 : Bs} {ks : List Bs} {v : Val} {us : List (List Bs × Val)} (hk : KeyS ks k) (hb1 : BL b1) (hb2 : BL b2) (hs : VS v s) (hb3 : BL b3) (hd : d + dep v ≤ 60) (h : VT false d true t us r) :
    VT false d false (k ++ (b1 ++ 61 :: (b2 ++ (s ++ (b3 ++ t))))) ((ks, v) :: us) r := by
  have h1 := h.ws b3 hb3
  refine .ent (hk.2 b1 61 _ hb1 (.inl rfl)) ?_ h1
  rw [skipWs_bl _ _ hb2, hs.skip]
  exact hs.2 d _ hd h1.fol

theorem AccT.first {b0 k b1 b2 s b3 : Bs} {ks : List Bs} {v : Val} (hb0 : BL b0) (hk : KeyS ks k) (hb1 : BL b1) (hb2 : BL b2) (hs : VS v s) (hb3 : BL b3) : AccT [(ks, v)] (b0 ++ (k ++ b1 ++ [61] ++ b2 ++ s ++ b3)) := fun d t r us hd h => by
  have := (VT.entry hk hb1 hb2 hs hb3 (by simp [depE] at hd; omega) h).ws b0 hb0
  simpa using this

theorem AccT.more {es : List (List Bs × Val)} {out : Bs} (ha : AccT es out) (hne : es ≠ []) {b0 k b1 b2 s b3 : Bs} {ks : List Bs} {v : Val} (hb0 : BL b0) (hk : KeyS ks k) (hb1 : BL b1) (hb2 : BL b2) (hs : VS v s) (hb3 : BL b3) :
    AccT (es ++ [(ks, v)]) (out ++ ([44] ++ b0) ++ (k ++ b1 ++ [61] ++ b2 ++ s ++ b3)) := fun d t r us hd h => by
  rw [depE_app] at hd
  have e1 : (!(es ++ [(ks, v)]).isEmpty) = true := by simp
  rw [e1] at h
  have h1 := (VT.entry hk hb1 hb2 hs hb3 (by simp [depE] at hd; omega) h).ws b0 hb0
  have h2 := VT.comma (f := false) (skipWs_stop (by decide) : skipWs (44 :: _) = _) h1
  have e2 : (!es.isEmpty) = true := by cases es <;> simp_all
  have h3 := ha d _ r ((ks, v) :: us) (by omega) (by rw [e2]; exact h2)
  simpa using h3

theorem AccT.close {es : List (List Bs × Val)} {out : Bs} (ha : AccT es out) : VS (.tbl es) (123 :: (out ++ [125])) := by
  refine ⟨⟨123, _, rfl, .inr (.inr rfl)⟩, fun d r hd hr => ?_⟩
  simp only [dep] at hd
  have h2 := ha (d + 1) (125 :: r) r [] (by omega) (.close (skipWs_stop (by decide)))
  refine .tbl (by omega) ?_
  simpa using h2

/-- A document, so far. -/
def AccD (es : List Ex) (out : Bs) : Prop := ∀ (t : Bs) (us : List Ex), DOC false t us → DOC false (out ++ t) (es ++ us)

theorem AccD.nil : AccD [] [] := fun _ _ h => h
theorem AccD.done {es : List Ex} {out : Bs} (h : AccD es out) : DOC false out es := by simpa using h [] [] (.done rfl)

theorem AccD.blank {es : List Ex} {out s : Bs} (h : AccD es out) (hs : EndS s) : AccD es (out ++ s) := fun t us ht => by
  obtain ⟨h1, h2⟩ := hs.eol t
  have := h _ _ (.blank h2 h1 ht)
  simpa using this

theorem AccD.expr {es : List Ex} {out b0 s e : Bs} {x : Ex} (h : AccD es out) (hb : BL b0) (hc : ∃ c t, s = c :: t ∧ isWs c = false) (hx : ∀ r, Fol r → EX false (s ++ r) x r) (he : EndS e) : AccD (es ++ [x]) (out ++ (b0 ++ s ++ e)) := fun t us ht => by
  obtain ⟨h1, h2⟩ := he.eol t
  have h3 := hx (e ++ t) (he.fol t)
  obtain ⟨c, u, rfl, hc⟩ := hc
  have h4 : skipWs (b0 ++ (c :: u ++ (e ++ t))) = c :: (u ++ (e ++ t)) := by
    rw [skipWs_bl _ _ hb]; exact skipWs_stop hc
  have := h _ _ (.expr h4 h3 h1 ht)
  simpa using this

/-- The text of an expression. -/
def XS (x : Ex) (s : Bs) : Prop := (∃ c t, s = c :: t ∧ isWs c = false) ∧ ∀ r, Fol r → EX false (s ++ r) x r

theorem XS.tab {b1 k b2 : Bs} {ks : List Bs} (h1 : BL b1) (hk : KeyS ks k) (h2 : BL b2) : XS (.tab ks) (91 :: (b1 ++ k ++ b2 ++ [93])) := by
  refine ⟨⟨91, _, rfl, by decide⟩, fun r _ => ?_⟩
  have h := Ks.ws b1 h1 (hk.2 b2 93 r h2 (.inr rfl))
  have : EX false (91 :: (b1 ++ (k ++ (b2 ++ 93 :: r)))) (.tab ks) r := by
    refine .tab ?_ h
    cases b1 with
    | nil =>
      obtain ⟨⟨c, t, rfl, _, hc⟩, _⟩ := hk
      intro hh
      simp only [List.nil_append, List.cons_append, List.head?_cons, Option.some.injEq] at hh
      subst hh
      exact hc rfl
    | cons c t =>
      have := h1 c (by simp)
      intro hh
      simp only [List.cons_append, List.head?_cons, Option.some.injEq] at hh
      subst hh
      exact absurd this (by decide)
  simpa using this

theorem XS.atab {b1 k b2 : Bs} {ks : List Bs} (h1 : BL b1) (hk : KeyS ks k) (h2 : BL b2) : XS (.atab ks) (91 :: 91 :: (b1 ++ k ++ b2 ++ [93, 93])) := by
  refine ⟨⟨91, _, rfl, by decide⟩, fun r _ => ?_⟩
  have h := Ks.ws b1 h1 (hk.2 b2 93 (93 :: r) h2 (.inr rfl))
  have : EX false (91 :: 91 :: (b1 ++ (k ++ (b2 ++ 93 :: 93 :: r)))) (.atab ks) r := .atab h
  simpa using this

theorem XS.kv {k b1 b2 s : Bs} {ks : List Bs} {v : Val} (hk : KeyS ks k) (h1 : BL b1) (h2 : BL b2) (hs : VS v s) (hd : dep v ≤ 60) : XS (.kv ks v) (k ++ b1 ++ [61] ++ b2 ++ s) := by
  obtain ⟨⟨c, t, rfl, hc, hc2⟩, hk2⟩ := hk
  refine ⟨⟨c, _, rfl, hc⟩, fun r hr => ?_⟩
  have h := hk2 b1 61 (b2 ++ (s ++ r)) h1 (.inl rfl)
  have : EX false (c :: (t ++ (b1 ++ 61 :: (b2 ++ (s ++ r))))) (.kv ks v) r := by
    refine .kv h ?_
    rw [skipWs_bl _ _ h2, hs.skip]
    exact hs.2 0 r (by omega) hr
  simpa using this

/-! ### Keys -/
/-- The text of a part of a key. -/
def PartS (k s : Bs) : Prop := (∃ c t, s = c :: t ∧ isWs c = false ∧ c.toNat ≠ 91) ∧ ∀ (r : Bs), (∀ c, r.head? = some c → isBare c = false) → KP (s ++ r) k r

/-- Small letters alone. -/
def Low (k : Bs) : Prop := ∀ c ∈ k, 97 ≤ c.toNat ∧ c.toNat ≤ 122

theorem PartS.bare {k : Bs} (h : Low k) (h0 : k ≠ []) : PartS k k := by
  refine ⟨?_, fun r hr => KP.bare h0 (fun c hc => ?_) hr⟩
  · cases k with
    | nil => exact absurd rfl h0
    | cons c t =>
      have := h c (by simp)
      exact ⟨c, t, rfl, by simp [isWs]; omega, by omega⟩
  · have := h c hc
    simp only [isBare, decide_eq_true_eq]; omega

theorem SLit.low : ∀ (k r : Bs), Low k → SLit (k ++ 39 :: r) k r
  | [], r, _ => .close r
  | c :: k, r, h => by
    have hc := h c (by simp)
    have ih := SLit.low k r (fun c hc => h c (by simp [hc]))
    have h1 : signLen (c :: k ++ 39 :: r) = 1 := by
      simp only [List.cons_append, signLen]
      rw [if_pos]
      simp only [plainB, decide_eq_true_eq]; omega
    have := SLit.sign (b := c :: k ++ 39 :: r) (out := k) (r := r) 1 (by
      intro hh
      simp only [List.cons_append, List.head?_cons, Option.some.injEq] at hh
      subst hh
      exact absurd hc (by decide)) h1 (by omega) (by simpa using ih)
    simpa using this

theorem PartS.lit {k : Bs} (h : Low k) : PartS k (39 :: (k ++ [39])) :=
  ⟨⟨39, _, rfl, by decide, by decide⟩, fun r _ => by
    have := SLit.low k r h
    have h2 := KP.lit this
    simpa using h2⟩

/-- A letter as it stands between double quotes. -/
def EscS (c : UInt8) (s : Bs) : Prop := s = [c] ∨ ∃ ds : Bs, (s = 92 :: 117 :: ds ∧ ds.length = 4 ∨ s = 92 :: 85 :: ds ∧ ds.length = 8) ∧ (∀ x ∈ ds, hexv x < 16) ∧ hexs ds = c.toNat

inductive BasS : Bs → Bs → Prop
  | nil : BasS [] []
  | cons {c : UInt8} {k e s : Bs} : EscS c e → BasS k s → BasS (c :: k) (e ++ s)

theorem BasS.snoc {k s e : Bs} {c : UInt8} (h : BasS k s) (he : EscS c e) : BasS (k ++ [c]) (s ++ e) := by
  induction h with
  | nil => simpa using BasS.cons he .nil
  | cons h1 h2 ih =>
    have := BasS.cons h1 ih
    simpa using this

theorem utf8_low {c : UInt8} (h : c.toNat < 128) : utf8 c.toNat = [c] := by
  unfold utf8
  rw [if_pos h]
  congr 1
  exact UInt8.toNat_inj.1 (by simp)

theorem SBas.low : ∀ {k s : Bs} (r : Bs), Low k → BasS k s → SBas (s ++ 34 :: r) k r := by
  intro k s r hl h
  induction h with
  | nil => exact .close r
  | @cons c k e s h1 h2 ih =>
    have hc := hl c (by simp)
    have ih := ih (fun c hc => hl c (by simp [hc]))
    rcases h1 with rfl | ⟨ds, h3, h4, h5⟩
    · have h6 : signLen (c :: (s ++ 34 :: r)) = 1 := by
        simp only [signLen]
        rw [if_pos]
        simp only [plainB, decide_eq_true_eq]; omega
      have := SBas.sign (b := c :: (s ++ 34 :: r)) (out := k) (r := r) 1 (by
        intro hh
        simp only [List.head?_cons, Option.some.injEq] at hh
        subst hh
        exact absurd hc (by decide)) (by
        intro hh
        simp only [List.head?_cons, Option.some.injEq] at hh
        subst hh
        exact absurd hc (by decide)) h6 (by omega) (by simpa using ih)
      simpa using this
    · have hok : okRune (hexs ds) := by rw [h5]; unfold okRune; omega
      have hu : utf8 (hexs ds) = [c] := by rw [h5]; exact utf8_low (by omega)
      rcases h3 with ⟨rfl, hlen⟩ | ⟨rfl, hlen⟩
      · have := SBas.esc (Esc.u (r := s ++ 34 :: r) hlen h4 hok) ih
        rw [hu] at this
        simpa using this
      · have := SBas.esc (Esc.U (r := s ++ 34 :: r) hlen h4 hok) ih
        rw [hu] at this
        simpa using this

theorem PartS.bas {k s : Bs} (h : Low k) (hb : BasS k s) : PartS k (34 :: (s ++ [34])) :=
  ⟨⟨34, _, rfl, by decide, by decide⟩, fun r _ => by
    have := SBas.low r h hb
    have h2 := KP.bas this
    simpa using h2⟩

/-- Blanks, then something that may not stand in a bare key. -/
theorem head_bl {b : Bs} {c : UInt8} {r : Bs} (hb : BL b) (hc : isBare c = false) : ∀ x, (b ++ c :: r).head? = some x → isBare x = false := by
  intro x hx
  cases b with
  | nil =>
    simp only [List.nil_append, List.head?_cons, Option.some.injEq] at hx
    subst hx; exact hc
  | cons y b =>
    simp only [List.cons_append, List.head?_cons, Option.some.injEq] at hx
    subst hx
    have := hb y (by simp)
    have h2 : y.toNat = 32 ∨ y.toNat = 9 := by simpa [isWs] using this
    simp only [isBare, decide_eq_false_iff_not]; omega

theorem KeyS.one {k s : Bs} (h : PartS k s) : KeyS [k] s := by
  obtain ⟨h1, h2⟩ := h
  refine ⟨h1, fun b c r hb hc => ?_⟩
  have hcw : isWs c = false := by rcases hc with rfl | rfl <;> decide
  have h3 := h2 (b ++ c :: r) (head_bl hb (by rcases hc with rfl | rfl <;> decide))
  have h4 : skipWs (b ++ c :: r) = c :: r := by rw [skipWs_bl _ _ hb]; exact skipWs_stop hcw
  obtain ⟨x, t, rfl, hx, _⟩ := h1
  have h5 := Ks.one (b := x :: t ++ (b ++ c :: r)) (by rw [List.cons_append, skipWs_stop hx]; exact h3) (by rw [h4]; rcases hc with rfl | rfl <;> simp)
  rw [h4] at h5
  exact h5

theorem KeyS.cons {k s b1 b2 t : Bs} {ks : List Bs} (h : PartS k s) (hb1 : BL b1) (hb2 : BL b2) (hk : KeyS ks t) : KeyS (k :: ks) (s ++ (b1 ++ 46 :: (b2 ++ t))) := by
  obtain ⟨h1, h2⟩ := h
  refine ⟨?_, fun b c r hb hc => ?_⟩
  · obtain ⟨x, t, rfl, hx⟩ := h1
    exact ⟨x, _, rfl, hx⟩
  · have h3 := Ks.ws b2 hb2 (hk.2 b c r hb hc)
    have h4 := h2 (b1 ++ 46 :: (b2 ++ (t ++ (b ++ c :: r)))) (head_bl hb1 (by decide))
    have h5 : skipWs (b1 ++ 46 :: (b2 ++ (t ++ (b ++ c :: r)))) = 46 :: (b2 ++ (t ++ (b ++ c :: r))) := by rw [skipWs_bl _ _ hb1]; exact skipWs_stop (by decide)
    obtain ⟨x, u, rfl, hx, _⟩ := h1
    have h6 := Ks.dot (b := x :: u ++ (b1 ++ 46 :: (b2 ++ (t ++ (b ++ c :: r))))) (by rw [List.cons_append, skipWs_stop hx]; exact h4) h5 h3
    simpa using h6

/-- Parts of a key so far, a point behind each. -/
def AccK (ks : List Bs) (out : Bs) : Prop := ∀ (us : List Bs) (t : Bs), KeyS us t → KeyS (ks ++ us) (out ++ t)

theorem AccK.nil : AccK [] [] := fun _ _ h => h

theorem AccK.snoc {ks : List Bs} {out k s b1 b2 : Bs} (h : AccK ks out) (hp : PartS k s) (hb1 : BL b1) (hb2 : BL b2) : AccK (ks ++ [k]) (out ++ s ++ (b1 ++ [46] ++ b2)) := fun us t ht => by
  have := h _ _ (KeyS.cons hp hb1 hb2 ht)
  simpa using this

/-- Parts of a key so far. -/
def KeyD (ks : List Bs) (out : Bs) : Prop := (ks = [] ∧ out = []) ∨ ∃ ks' k o s, ks = ks' ++ [k] ∧ out = o ++ s ∧ AccK ks' o ∧ PartS k s

theorem KeyD.key {ks : List Bs} {out : Bs} (h : KeyD ks out) (h0 : ks ≠ []) : KeyS ks out := by
  rcases h with ⟨h1, _⟩ | ⟨ks', k, o, s, rfl, rfl, h1, h2⟩
  · exact absurd h1 h0
  · exact h1 _ _ (KeyS.one h2)

theorem KeyD.first {k s : Bs} (h : PartS k s) : KeyD [k] s := .inr ⟨[], k, [], s, rfl, rfl, AccK.nil, h⟩

theorem KeyD.more {ks : List Bs} {out k s b1 b2 : Bs} (h : KeyD ks out) (h0 : ks ≠ []) (hb1 : BL b1) (hb2 : BL b2) (hp : PartS k s) : KeyD (ks ++ [k]) (out ++ (b1 ++ [46] ++ b2) ++ s) := by
  rcases h with ⟨h1, _⟩ | ⟨ks', k', o, s', rfl, rfl, h1, h2⟩
  · exact absurd h1 h0
  · exact .inr ⟨ks' ++ [k'], k, _, s, rfl, rfl, h1.snoc h2 hb1 hb2, hp⟩
end Go.Proofs.YtaccphdkapmdhaaGreat

