/- Texts as they are written: blanks, ends of lines, keys, values, documents. Plain Lean, no program. The steps by which the functions of the translation are walked: a frame is held as a list of live slots, each operation is one lemma. That an operation that the steps take for quiet yields its value and leaves the world alone. No condition. -/
import Derived.Test.YtaccphdkapmdhaaGreatP1
import Derived.Tactics
import Derived.KernelRfl
import Derived.OrdersHeld
import Derived.Test.YtaccphdkapmdhaaGreatProg
import Derived.Laws.StructEq
import Derived.Laws.Strings
namespace Go.Proofs.YtaccphdkapmdhaaGreat

/-- Blanks alone. -/
def BL (s : Bs) : Prop := ∀ c ∈ s, isWs c = true

theorem BL.nil : BL [] := fun c h => by simp at h
theorem skipWs_bl : ∀ (s t : Bs), BL s → skipWs (s ++ t) = skipWs t
  | [], _, _ => rfl
  | c :: s, t, h => by
    have hc := h c (by simp)
    simp only [List.cons_append, skipWs, hc, if_true]
    exact skipWs_bl s t (fun c hc => h c (by simp [hc]))

theorem skipWs_stop {c : UInt8} {t : Bs} (h : isWs c = false) : skipWs (c :: t) = c :: t := by simp [skipWs, h]

def NlS (s : Bs) : Prop := s = [10] ∨ s = [13, 10]
def CmS (s : Bs) : Prop := s = [] ∨ ∃ t, s = 35 :: t ∧ ∀ c ∈ t, plainB c = true
/-- The end of a line. -/
def EndS (s : Bs) : Prop := ∃ a c n, s = a ++ (c ++ n) ∧ BL a ∧ CmS c ∧ NlS n

theorem Cm.plainS {n : Bs} (hn : NlS n) (r : Bs) : ∀ (t : Bs), (∀ c ∈ t, plainB c = true) → Cm (t ++ (n ++ r)) (n ++ r)
  | [], _ => by
    rcases hn with rfl | rfl
    · exact Cm.lf r
    · exact Cm.crlf r
  | c :: t, h => by
    refine Cm.sign 1 ?_ (by omega) ?_
    · simp [signLen, h c (by simp)]
    · simpa using Cm.plainS hn r t (fun c hc => h c (by simp [hc]))

theorem NlS.nl {n : Bs} (hn : NlS n) (r : Bs) : Nl (n ++ r) r := by
  rcases hn with rfl | rfl
  · exact Nl.lf r
  · exact Nl.crlf r

theorem NlS.head {n : Bs} (hn : NlS n) : ∃ c t, n = c :: t ∧ (c = 10 ∨ c = 13) := by
  rcases hn with rfl | rfl
  · exact ⟨_, _, rfl, .inl rfl⟩
  · exact ⟨_, _, rfl, .inr rfl⟩

/-- What is left of the end of a line behind its blanks. -/
theorem EndS.cut {s : Bs} (h : EndS s) (r : Bs) : ∃ c n, skipWs (s ++ r) = c ++ (n ++ r) ∧ CmS c ∧ NlS n := by
  obtain ⟨a, c, n, rfl, ha, hc, hn⟩ := h
  refine ⟨c, n, ?_, hc, hn⟩
  rw [List.append_assoc, skipWs_bl _ _ ha, List.append_assoc]
  rcases hc with rfl | ⟨t, rfl, _⟩
  · obtain ⟨x, y, rfl, hx⟩ := hn.head
    simp only [List.nil_append, List.cons_append]
    exact skipWs_stop (by rcases hx with rfl | rfl <;> decide)
  · simp only [List.cons_append]
    exact skipWs_stop (by decide)

theorem EndS.eol {s : Bs} (h : EndS s) (r : Bs) : Eol (skipWs (s ++ r)) r ∧ skipWs (s ++ r) ≠ [] := by
  obtain ⟨c, n, h1, hc, hn⟩ := h.cut r
  rw [h1]
  rcases hc with rfl | ⟨t, rfl, ht⟩
  · refine ⟨Eol.nl (hn.nl r), ?_⟩
    obtain ⟨x, y, rfl, hx⟩ := hn.head
    simp
  · refine ⟨?_, by simp⟩
    have h2 := Cm.plainS hn r (35 :: t) (fun c hc => by
      rcases List.mem_cons.1 hc with rfl | hc
      · decide
      · exact ht c hc)
    exact Eol.cm (by simpa using h2) (hn.nl r)

theorem Fol.of_cons {c : UInt8} {t : Bs} (h : c.toNat = 9 ∨ c.toNat = 10 ∨ c.toNat = 13 ∨ c.toNat = 32 ∨ c.toNat = 35 ∨ c.toNat = 44 ∨ c.toNat = 93 ∨ c.toNat = 125) : Fol (c :: t) := .inr ⟨c, t, rfl, h⟩

theorem Fol.of_skip {b : Bs} (h : Fol (skipWs b)) : Fol b := by
  cases b with
  | nil => exact .inl rfl
  | cons c t =>
    by_cases hc : isWs c = true
    · have : c.toNat = 32 ∨ c.toNat = 9 := by simpa [isWs] using hc
      exact Fol.of_cons (by omega)
    · rw [skipWs_stop (by simpa using hc)] at h
      exact h

theorem EndS.fol {s : Bs} (h : EndS s) (r : Bs) : Fol (s ++ r) := by
  refine Fol.of_skip ?_
  obtain ⟨c, n, h1, hc, hn⟩ := h.cut r
  rw [h1]
  rcases hc with rfl | ⟨t, rfl, ht⟩
  · obtain ⟨x, y, rfl, hx⟩ := hn.head
    exact Fol.of_cons (by rcases hx with rfl | rfl <;> decide)
  · exact Fol.of_cons (by decide)

/-- Between the parts of a list. -/
def GapS (s : Bs) : Prop := BL s ∨ ∃ e b, s = e ++ b ∧ EndS e ∧ BL b

theorem VA.ws {f : Bool} {d : Nat} {a : Bool} {b r : Bs} {vs : List Val} (s : Bs) (hs : BL s) (h : VA f d a b vs r) : VA f d a (s ++ b) vs r := by
  have e := skipWs_bl s b hs
  cases h with
  | close h => exact .close (by rw [e]; exact h)
  | lf h h2 => exact .lf (by rw [e]; exact h) h2
  | crlf h h2 => exact .crlf (by rw [e]; exact h) h2
  | cm h h2 h3 => exact .cm (by rw [e]; exact h) h2 h3
  | comma h h2 => exact .comma (by rw [e]; exact h) h2
  | val h h2 h3 h4 => exact .val (by rw [e]; exact h) h2 h3 h4

theorem Ks.ws {b r : Bs} {ks : List Bs} (s : Bs) (hs : BL s) (h : Ks b ks r) : Ks (s ++ b) ks r := by
  have e := skipWs_bl s b hs
  cases h with
  | one h1 h2 => exact Ks.one (by rw [e]; exact h1) h2
  | dot h1 h2 h3 => exact Ks.dot (by rw [e]; exact h1) h2 h3

theorem VT.ws {f : Bool} {d : Nat} {a : Bool} {b r : Bs} {vs : List (List Bs × Val)} (s : Bs) (hs : BL s) (h : VT f d a b vs r) : VT f d a (s ++ b) vs r := by
  have e := skipWs_bl s b hs
  cases h with
  | close h => exact .close (by rw [e]; exact h)
  | comma h h2 => exact .comma (by rw [e]; exact h) h2
  | ent h h2 h3 =>
    exact .ent (h.ws s hs) h2 h3

theorem VA.nl {f : Bool} {d : Nat} {a : Bool} {b r : Bs} {vs : List Val} {n : Bs} (hn : NlS n) (h : VA f d a b vs r) : VA f d a (n ++ b) vs r := by
  rcases hn with rfl | rfl
  · exact .lf (skipWs_stop (by decide)) h
  · exact .crlf (skipWs_stop (by decide)) h

theorem VA.gap {f : Bool} {d : Nat} {a : Bool} {b r : Bs} {vs : List Val} (s : Bs) (hs : GapS s) (h : VA f d a b vs r) : VA f d a (s ++ b) vs r := by
  rcases hs with hs | ⟨e, bl, rfl, he, hb⟩
  · exact h.ws s hs
  · have h1 := h.ws bl hb
    rw [List.append_assoc]
    generalize bl ++ b = t at h1
    obtain ⟨c, n, h2, hc, hn⟩ := he.cut t
    rcases hc with rfl | ⟨u, rfl, hu⟩
    · rcases hn with rfl | rfl
      · exact .lf h2 h1
      · exact .crlf h2 h1
    · have h3 := Cm.plainS hn t (35 :: u) (fun c hc => by
        rcases List.mem_cons.1 hc with rfl | hc
        · decide
        · exact hu c hc)
      exact .cm (by rw [h2]; rfl) (by simpa using h3) (h1.nl hn)

theorem VA.fol {f : Bool} {d : Nat} {b r : Bs} {vs : List Val} (h : VA f d true b vs r) : Fol b := by
  refine Fol.of_skip ?_
  cases h with
  | close h => rw [h]; exact Fol.of_cons (by decide)
  | lf h h2 => rw [h]; exact Fol.of_cons (by decide)
  | crlf h h2 => rw [h]; exact Fol.of_cons (by decide)
  | cm h h2 h3 => rw [h]; exact Fol.of_cons (by decide)
  | comma h h2 => rw [h]; exact Fol.of_cons (by decide)

theorem VT.fol {f : Bool} {d : Nat} {b r : Bs} {vs : List (List Bs × Val)} (h : VT f d true b vs r) : Fol b := by
  refine Fol.of_skip ?_
  cases h with
  | close h => rw [h]; exact Fol.of_cons (by decide)
  | comma h h2 => rw [h]; exact Fol.of_cons (by decide)

mutual
/-- How deep a value goes. -/
def dep : Val → Nat
  | .sc _ _ => 0
  | .arr vs => deps vs + 1
  | .tbl es => depE es + 1
def deps : List Val → Nat
  | [] => 0
  | v :: vs => max (dep v) (deps vs)
def depE : List (List Bs × Val) → Nat
  | [] => 0
  | (_, v) :: es => max (dep v) (depE es)
end

/-- The text of a key. -/
def KeyS (ks : List Bs) (s : Bs) : Prop := (∃ c t, s = c :: t ∧ isWs c = false ∧ c.toNat ≠ 91) ∧ ∀ (b : Bs) (c : UInt8) (r : Bs), BL b → c = 61 ∨ c = 93 → Ks (s ++ (b ++ c :: r)) ks (c :: r)

/-- The text of a value. -/
def VS (v : Val) (s : Bs) : Prop := (∃ c t, s = c :: t ∧ (c = 55 ∨ c = 91 ∨ c = 123)) ∧ ∀ (d : Nat) (r : Bs), d + dep v ≤ 60 → Fol r → VV false d (s ++ r) v r

theorem VS.skip {v : Val} {s : Bs} (h : VS v s) (r : Bs) : skipWs (s ++ r) = s ++ r := by
  obtain ⟨⟨c, t, rfl, hc⟩, _⟩ := h
  exact skipWs_stop (by rcases hc with rfl | rfl | rfl <;> decide)

theorem VS.seven : VS (.sc 1 [55]) [55] := ⟨⟨55, [], rfl, .inl rfl⟩, fun d r hd hr => .seven (by simp [dep] at hd; omega) hr⟩

/-- A list, so far (behind its opening). -/
def AccA (vs : List Val) (out : Bs) : Prop := ∀ (d : Nat) (t r : Bs) (us : List Val), d + deps vs ≤ 60 → VA false d (!vs.isEmpty) t us r → VA false d false (out ++ t) (vs ++ us) r

theorem AccA.nil : AccA [] [] := fun _ _ _ _ _ h => h

theorem deps_app : ∀ (a b : List Val), deps (a ++ b) = max (deps a) (deps b)
  | [], b => by simp [deps]
  | v :: a, b => by simp only [List.cons_append, deps, deps_app a b]; omega
theorem depE_app : ∀ (a b : List (List Bs × Val)), depE (a ++ b) = max (depE a) (depE b)
  | [], b => by simp [depE]
  | (k, v) :: a, b => by simp only [List.cons_append, depE, depE_app a b]; omega

theorem VA.value {d : Nat} {r t : Bs} {v : Val} {us : List Val} {g1 s g2 : Bs} (hg1 : GapS g1) (hs : VS v s) (hg2 : GapS g2) (hd : d + dep v ≤ 60) (h : VA false d true t us r) : VA false d false (g1 ++ (s ++ (g2 ++ t))) (v :: us) r := by
  have h1 := h.gap g2 hg2
  refine VA.gap g1 hg1 ?_
  have h2 := hs.2 d _ hd h1.fol
  have h3 := hs.skip (g2 ++ t)
  obtain ⟨⟨c, u, rfl, hc⟩, _⟩ := hs
  exact .val h3 (by rcases hc with rfl | rfl | rfl <;> decide) h2 h1

theorem AccA.first {v : Val} {g1 s g2 : Bs} (hg1 : GapS g1) (hs : VS v s) (hg2 : GapS g2) : AccA [v] (g1 ++ s ++ g2) := fun d t r us hd h => by
  have := VA.value hg1 hs hg2 (by simp [deps] at hd; omega) h
  simpa using this

theorem AccA.more {vs : List Val} {out : Bs} (ha : AccA vs out) (hne : vs ≠ []) {v : Val} {g1 s g2 : Bs} (hg1 : GapS g1) (hs : VS v s) (hg2 : GapS g2) : AccA (vs ++ [v]) (out ++ [44] ++ (g1 ++ s ++ g2)) := fun d t r us hd h => by
  rw [deps_app] at hd
  have e1 : (!(vs ++ [v]).isEmpty) = true := by simp
  rw [e1] at h
  have h1 := VA.value hg1 hs hg2 (by simp [deps] at hd; omega) h
  have h2 : VA false d true (44 :: (g1 ++ (s ++ (g2 ++ t)))) (v :: us) r := .comma (skipWs_stop (by decide)) h1
  have e2 : (!vs.isEmpty) = true := by cases vs <;> simp_all
  have h3 := ha d _ r (v :: us) (by omega) (by rw [e2]; exact h2)
  simpa using h3

theorem AccA.close {vs : List Val} {out g c : Bs} (ha : AccA vs out) (hc : c = [] ∨ (c = [44] ∧ vs ≠ [])) (hg : GapS g) : VS (.arr vs) (91 :: (out ++ c ++ (g ++ [93]))) := by
  refine ⟨⟨91, _, rfl, .inr (.inl rfl)⟩, fun d r hd hr => ?_⟩
  simp only [dep] at hd
  have h0 : ∀ a, VA false (d + 1) a (g ++ 93 :: r) [] r := fun a => VA.gap g hg (.close (skipWs_stop (by decide)))
  have h1 : VA false (d + 1) (!vs.isEmpty) (c ++ (g ++ 93 :: r)) [] r := by
    rcases hc with rfl | ⟨rfl, hne⟩
    · exact h0 _
    · have e2 : (!vs.isEmpty) = true := by cases vs <;> simp_all
      rw [e2]
      exact .comma (skipWs_stop (by decide)) (h0 _)
  have h2 := ha (d + 1) _ r [] (by omega) h1
  refine .arr (by omega) ?_
  simpa using h2

/-- A table between braces, so far (behind its opening). -/
def AccT (es : List (List Bs × Val)) (out : Bs) : Prop := ∀ (d : Nat) (t r : Bs) (us : List (List Bs × Val)), d + depE es ≤ 60 → VT false d (!es.isEmpty) t us r → VT false d false (out ++ t) (es ++ us) r

theorem AccT.nil {b : Bs} (hb : BL b) : AccT [] b := fun _ _ _ _ _ h => h.ws b hb

/-- A key and a value. -/
theorem VT.entry {d : Nat} {r t k b1 b2 s b3 : Bs} {ks : List Bs} {v : Val} {us : List (List Bs × Val)} (hk : KeyS ks k) (hb1 : BL b1) (hb2 : BL b2) (hs : VS v s) (hb3 : BL b3) (hd : d + dep v ≤ 60) (h : VT false d true t us r) :
    VT false d false (k ++ (b1 ++ 61 :: (b2 ++ (s ++ (b3 ++ t))))) ((ks, v) :: us) r := by
  have h1 := h.ws b3 hb3
  refine .ent (hk.2 b1 61 _ hb1 (.inl rfl)) ?_ h1
  rw [skipWs_bl _ _ hb2, hs.skip]
  exact hs.2 d _ hd h1.fol

theorem AccT.first {b0 k b1 b2 s b3 : Bs} {ks : List Bs} {v : Val} (hb0 : BL b0) (hk : KeyS ks k) (hb1 : BL b1) (hb2 : BL b2) (hs : VS v s) (hb3 : BL b3) : AccT [(ks, v)] (b0 ++ (k ++ b1 ++ [61] ++ b2 ++ s ++ b3)) := fun d t r us hd h => by
  have := (VT.entry hk hb1 hb2 hs hb3 (by simp [depE] at hd; omega) h).ws b0 hb0
  simpa using this

theorem AccT.more {es : List (List Bs × Val)} {out : Bs} (ha : AccT es out) (hne : es ≠ []) {b0 k b1 b2 s b3 : Bs} {ks : List Bs} {v : Val} (hb0 : BL b0) (hk : KeyS ks k) (hb1 : BL b1) (hb2 : BL b2) (hs : VS v s) (hb3 : BL b3) :
    AccT (es ++ [(ks, v)]) (out ++ ([44] ++ b0) ++ (k ++ b1 ++ [61] ++ b2 ++ s ++ b3)) := fun d t r us hd h => by
  rw [depE_app] at hd
  have e1 : (!(es ++ [(ks, v)]).isEmpty) = true := by simp
  rw [e1] at h
  have h1 := (VT.entry hk hb1 hb2 hs hb3 (by simp [depE] at hd; omega) h).ws b0 hb0
  have h2 := VT.comma (f := false) (skipWs_stop (by decide) : skipWs (44 :: _) = _) h1
  have e2 : (!es.isEmpty) = true := by cases es <;> simp_all
  have h3 := ha d _ r ((ks, v) :: us) (by omega) (by rw [e2]; exact h2)
  simpa using h3

theorem AccT.close {es : List (List Bs × Val)} {out : Bs} (ha : AccT es out) : VS (.tbl es) (123 :: (out ++ [125])) := by
  refine ⟨⟨123, _, rfl, .inr (.inr rfl)⟩, fun d r hd hr => ?_⟩
  simp only [dep] at hd
  have h2 := ha (d + 1) (125 :: r) r [] (by omega) (.close (skipWs_stop (by decide)))
  refine .tbl (by omega) ?_
  simpa using h2

/-- A document, so far. -/
def AccD (es : List Ex) (out : Bs) : Prop := ∀ (t : Bs) (us : List Ex), DOC false t us → DOC false (out ++ t) (es ++ us)

theorem AccD.nil : AccD [] [] := fun _ _ h => h
theorem AccD.done {es : List Ex} {out : Bs} (h : AccD es out) : DOC false out es := by simpa using h [] [] (.done rfl)

theorem AccD.blank {es : List Ex} {out s : Bs} (h : AccD es out) (hs : EndS s) : AccD es (out ++ s) := fun t us ht => by
  obtain ⟨h1, h2⟩ := hs.eol t
  have := h _ _ (.blank h2 h1 ht)
  simpa using this

theorem AccD.expr {es : List Ex} {out b0 s e : Bs} {x : Ex} (h : AccD es out) (hb : BL b0) (hc : ∃ c t, s = c :: t ∧ isWs c = false) (hx : ∀ r, Fol r → EX false (s ++ r) x r) (he : EndS e) : AccD (es ++ [x]) (out ++ (b0 ++ s ++ e)) := fun t us ht => by
  obtain ⟨h1, h2⟩ := he.eol t
  have h3 := hx (e ++ t) (he.fol t)
  obtain ⟨c, u, rfl, hc⟩ := hc
  have h4 : skipWs (b0 ++ (c :: u ++ (e ++ t))) = c :: (u ++ (e ++ t)) := by
    rw [skipWs_bl _ _ hb]; exact skipWs_stop hc
  have := h _ _ (.expr h4 h3 h1 ht)
  simpa using this

/-- The text of an expression. -/
def XS (x : Ex) (s : Bs) : Prop := (∃ c t, s = c :: t ∧ isWs c = false) ∧ ∀ r, Fol r → EX false (s ++ r) x r

theorem XS.tab {b1 k b2 : Bs} {ks : List Bs} (h1 : BL b1) (hk : KeyS ks k) (h2 : BL b2) : XS (.tab ks) (91 :: (b1 ++ k ++ b2 ++ [93])) := by
  refine ⟨⟨91, _, rfl, by decide⟩, fun r _ => ?_⟩
  have h := Ks.ws b1 h1 (hk.2 b2 93 r h2 (.inr rfl))
  have : EX false (91 :: (b1 ++ (k ++ (b2 ++ 93 :: r)))) (.tab ks) r := by
    refine .tab ?_ h
    cases b1 with
    | nil =>
      obtain ⟨⟨c, t, rfl, _, hc⟩, _⟩ := hk
      intro hh
      simp only [List.nil_append, List.cons_append, List.head?_cons, Option.some.injEq] at hh
      subst hh
      exact hc rfl
    | cons c t =>
      have := h1 c (by simp)
      intro hh
      simp only [List.cons_append, List.head?_cons, Option.some.injEq] at hh
      subst hh
      exact absurd this (by decide)
  simpa using this

theorem XS.atab {b1 k b2 : Bs} {ks : List Bs} (h1 : BL b1) (hk : KeyS ks k) (h2 : BL b2) : XS (.atab ks) (91 :: 91 :: (b1 ++ k ++ b2 ++ [93, 93])) := by
  refine ⟨⟨91, _, rfl, by decide⟩, fun r _ => ?_⟩
  have h := Ks.ws b1 h1 (hk.2 b2 93 (93 :: r) h2 (.inr rfl))
  have : EX false (91 :: 91 :: (b1 ++ (k ++ (b2 ++ 93 :: 93 :: r)))) (.atab ks) r := .atab h
  simpa using this

theorem XS.kv {k b1 b2 s : Bs} {ks : List Bs} {v : Val} (hk : KeyS ks k) (h1 : BL b1) (h2 : BL b2) (hs : VS v s) (hd : dep v ≤ 60) : XS (.kv ks v) (k ++ b1 ++ [61] ++ b2 ++ s) := by
  obtain ⟨⟨c, t, rfl, hc, hc2⟩, hk2⟩ := hk
  refine ⟨⟨c, _, rfl, hc⟩, fun r hr => ?_⟩
  have h := hk2 b1 61 (b2 ++ (s ++ r)) h1 (.inl rfl)
  have : EX false (c :: (t ++ (b1 ++ 61 :: (b2 ++ (s ++ r))))) (.kv ks v) r := by
    refine .kv h ?_
    rw [skipWs_bl _ _ h2, hs.skip]
    exact hs.2 0 r (by omega) hr
  simpa using this

/-! ### Keys -/
/-- The text of a part of a key. -/
def PartS (k s : Bs) : Prop := (∃ c t, s = c :: t ∧ isWs c = false ∧ c.toNat ≠ 91) ∧ ∀ (r : Bs), (∀ c, r.head? = some c → isBare c = false) → KP (s ++ r) k r

/-- Small letters alone. -/
def Low (k : Bs) : Prop := ∀ c ∈ k, 97 ≤ c.toNat ∧ c.toNat ≤ 122

theorem PartS.bare {k : Bs} (h : Low k) (h0 : k ≠ []) : PartS k k := by
  refine ⟨?_, fun r hr => KP.bare h0 (fun c hc => ?_) hr⟩
  · cases k with
    | nil => exact absurd rfl h0
    | cons c t =>
      have := h c (by simp)
      exact ⟨c, t, rfl, by simp [isWs]; omega, by omega⟩
  · have := h c hc
    simp only [isBare, decide_eq_true_eq]; omega

theorem SLit.low : ∀ (k r : Bs), Low k → SLit (k ++ 39 :: r) k r
  | [], r, _ => .close r
  | c :: k, r, h => by
    have hc := h c (by simp)
    have ih := SLit.low k r (fun c hc => h c (by simp [hc]))
    have h1 : signLen (c :: k ++ 39 :: r) = 1 := by
      simp only [List.cons_append, signLen]
      rw [if_pos]
      simp only [plainB, decide_eq_true_eq]; omega
    have := SLit.sign (b := c :: k ++ 39 :: r) (out := k) (r := r) 1 (by
      intro hh
      simp only [List.cons_append, List.head?_cons, Option.some.injEq] at hh
      subst hh
      exact absurd hc (by decide)) h1 (by omega) (by simpa using ih)
    simpa using this

theorem PartS.lit {k : Bs} (h : Low k) : PartS k (39 :: (k ++ [39])) :=
  ⟨⟨39, _, rfl, by decide, by decide⟩, fun r _ => by
    have := SLit.low k r h
    have h2 := KP.lit this
    simpa using h2⟩

/-- A letter as it stands between double quotes. -/
def EscS (c : UInt8) (s : Bs) : Prop := s = [c] ∨ ∃ ds : Bs, (s = 92 :: 117 :: ds ∧ ds.length = 4 ∨ s = 92 :: 85 :: ds ∧ ds.length = 8) ∧ (∀ x ∈ ds, hexv x < 16) ∧ hexs ds = c.toNat

inductive BasS : Bs → Bs → Prop
  | nil : BasS [] []
  | cons {c : UInt8} {k e s : Bs} : EscS c e → BasS k s → BasS (c :: k) (e ++ s)

theorem BasS.snoc {k s e : Bs} {c : UInt8} (h : BasS k s) (he : EscS c e) : BasS (k ++ [c]) (s ++ e) := by
  induction h with
  | nil => simpa using BasS.cons he .nil
  | cons h1 h2 ih =>
    have := BasS.cons h1 ih
    simpa using this

theorem utf8_low {c : UInt8} (h : c.toNat < 128) : utf8 c.toNat = [c] := by
  unfold utf8
  rw [if_pos h]
  congr 1
  exact UInt8.toNat_inj.1 (by simp)

theorem SBas.low : ∀ {k s : Bs} (r : Bs), Low k → BasS k s → SBas (s ++ 34 :: r) k r := by
  intro k s r hl h
  induction h with
  | nil => exact .close r
  | @cons c k e s h1 h2 ih =>
    have hc := hl c (by simp)
    have ih := ih (fun c hc => hl c (by simp [hc]))
    rcases h1 with rfl | ⟨ds, h3, h4, h5⟩
    · have h6 : signLen (c :: (s ++ 34 :: r)) = 1 := by
        simp only [signLen]
        rw [if_pos]
        simp only [plainB, decide_eq_true_eq]; omega
      have := SBas.sign (b := c :: (s ++ 34 :: r)) (out := k) (r := r) 1 (by
        intro hh
        simp only [List.head?_cons, Option.some.injEq] at hh
        subst hh
        exact absurd hc (by decide)) (by
        intro hh
        simp only [List.head?_cons, Option.some.injEq] at hh
        subst hh
        exact absurd hc (by decide)) h6 (by omega) (by simpa using ih)
      simpa using this
    · have hok : okRune (hexs ds) := by rw [h5]; unfold okRune; omega
      have hu : utf8 (hexs ds) = [c] := by rw [h5]; exact utf8_low (by omega)
      rcases h3 with ⟨rfl, hlen⟩ | ⟨rfl, hlen⟩
      · have := SBas.esc (Esc.u (r := s ++ 34 :: r) hlen h4 hok) ih
        rw [hu] at this
        simpa using this
      · have := SBas.esc (Esc.U (r := s ++ 34 :: r) hlen h4 hok) ih
        rw [hu] at this
        simpa using this

theorem PartS.bas {k s : Bs} (h : Low k) (hb : BasS k s) : PartS k (34 :: (s ++ [34])) :=
  ⟨⟨34, _, rfl, by decide, by decide⟩, fun r _ => by
    have := SBas.low r h hb
    have h2 := KP.bas this
    simpa using h2⟩

/-- Blanks, then something that may not stand in a bare key. -/
theorem head_bl {b : Bs} {c : UInt8} {r : Bs} (hb : BL b) (hc : isBare c = false) : ∀ x, (b ++ c :: r).head? = some x → isBare x = false := by
  intro x hx
  cases b with
  | nil =>
    simp only [List.nil_append, List.head?_cons, Option.some.injEq] at hx
    subst hx; exact hc
  | cons y b =>
    simp only [List.cons_append, List.head?_cons, Option.some.injEq] at hx
    subst hx
    have := hb y (by simp)
    have h2 : y.toNat = 32 ∨ y.toNat = 9 := by simpa [isWs] using this
    simp only [isBare, decide_eq_false_iff_not]; omega

theorem KeyS.one {k s : Bs} (h : PartS k s) : KeyS [k] s := by
  obtain ⟨h1, h2⟩ := h
  refine ⟨h1, fun b c r hb hc => ?_⟩
  have hcw : isWs c = false := by rcases hc with rfl | rfl <;> decide
  have h3 := h2 (b ++ c :: r) (head_bl hb (by rcases hc with rfl | rfl <;> decide))
  have h4 : skipWs (b ++ c :: r) = c :: r := by rw [skipWs_bl _ _ hb]; exact skipWs_stop hcw
  obtain ⟨x, t, rfl, hx, _⟩ := h1
  have h5 := Ks.one (b := x :: t ++ (b ++ c :: r)) (by rw [List.cons_append, skipWs_stop hx]; exact h3) (by rw [h4]; rcases hc with rfl | rfl <;> simp)
  rw [h4] at h5
  exact h5

theorem KeyS.cons {k s b1 b2 t : Bs} {ks : List Bs} (h : PartS k s) (hb1 : BL b1) (hb2 : BL b2) (hk : KeyS ks t) : KeyS (k :: ks) (s ++ (b1 ++ 46 :: (b2 ++ t))) := by
  obtain ⟨h1, h2⟩ := h
  refine ⟨?_, fun b c r hb hc => ?_⟩
  · obtain ⟨x, t, rfl, hx⟩ := h1
    exact ⟨x, _, rfl, hx⟩
  · have h3 := Ks.ws b2 hb2 (hk.2 b c r hb hc)
    have h4 := h2 (b1 ++ 46 :: (b2 ++ (t ++ (b ++ c :: r)))) (head_bl hb1 (by decide))
    have h5 : skipWs (b1 ++ 46 :: (b2 ++ (t ++ (b ++ c :: r)))) = 46 :: (b2 ++ (t ++ (b ++ c :: r))) := by rw [skipWs_bl _ _ hb1]; exact skipWs_stop (by decide)
    obtain ⟨x, u, rfl, hx, _⟩ := h1
    have h6 := Ks.dot (b := x :: u ++ (b1 ++ 46 :: (b2 ++ (t ++ (b ++ c :: r))))) (by rw [List.cons_append, skipWs_stop hx]; exact h4) h5 h3
    simpa using h6

/-- Parts of a key so far, a point behind each. -/
def AccK (ks : List Bs) (out : Bs) : Prop := ∀ (us : List Bs) (t : Bs), KeyS us t → KeyS (ks ++ us) (out ++ t)

theorem AccK.nil : AccK [] [] := fun _ _ h => h

theorem AccK.snoc {ks : List Bs} {out k s b1 b2 : Bs} (h : AccK ks out) (hp : PartS k s) (hb1 : BL b1) (hb2 : BL b2) : AccK (ks ++ [k]) (out ++ s ++ (b1 ++ [46] ++ b2)) := fun us t ht => by
  have := h _ _ (KeyS.cons hp hb1 hb2 ht)
  simpa using this

/-- Parts of a key so far. -/
def KeyD (ks : List Bs) (out : Bs) : Prop := (ks = [] ∧ out = []) ∨ ∃ ks' k o s, ks = ks' ++ [k] ∧ out = o ++ s ∧ AccK ks' o ∧ PartS k s

theorem KeyD.key {ks : List Bs} {out : Bs} (h : KeyD ks out) (h0 : ks ≠ []) : KeyS ks out := by
  rcases h with ⟨h1, _⟩ | ⟨ks', k, o, s, rfl, rfl, h1, h2⟩
  · exact absurd h1 h0
  · exact h1 _ _ (KeyS.one h2)

theorem KeyD.first {k s : Bs} (h : PartS k s) : KeyD [k] s := .inr ⟨[], k, [], s, rfl, rfl, AccK.nil, h⟩

theorem KeyD.more {ks : List Bs} {out k s b1 b2 : Bs} (h : KeyD ks out) (h0 : ks ≠ []) (hb1 : BL b1) (hb2 : BL b2) (hp : PartS k s) : KeyD (ks ++ [k]) (out ++ (b1 ++ [46] ++ b2) ++ s) := by
  rcases h with ⟨h1, _⟩ | ⟨ks', k', o, s', rfl, rfl, h1, h2⟩
  · exact absurd h1 h0
  · exact .inr ⟨ks' ++ [k'], k, _, s, rfl, rfl, h1.snoc h2 hb1 hb2, hp⟩
end Go.Proofs.YtaccphdkapmdhaaGreat

namespace Go.Proofs.YtaccphdkapmdhaaGreat

noncomputable abbrev PP : Program := Tryz.prog
abbrev Env := List (Nat × Value)

def look : Env → Nat → Option Value
  | [], _ => none
  | (s, v) :: L, t => cond (Nat.beq s t) (some v) (look L t)

def ev (L : Env) : Operand → Option Value
  | .tmp t => look L t
  | .const v => some v
  | .global g => some (.pointer (some ⟨g, 0, none⟩))
  | .func f => some (.func (.func f) #[] #[])

def evs (L : Env) : List Operand → Option (List Value)
  | [] => some []
  | x :: xs => match ev L x with
    | some v => match evs L xs with
      | some vs => some (v :: vs)
      | none => none
    | none => none

structure Fr (N : Nat) (L : Env) (a : Act) : Prop where
  size : a.tmps.size = N
  defers : a.defers = []
  get : ∀ t v, look L t = some v → a.tmps[t]? = some v

theorem Fr.getD {N L a t v} (h : Fr N L a) (hl : look L t = some v) : a.tmps.getD t undef = v := by
  have := h.get t v hl
  rw [Array.getD_eq_getD_getElem?, this]
  rfl

theorem Fr.eval {N L a x v} (h : Fr N L a) (hl : ev L x = some v) : a.eval x = v := by
  cases x with
  | tmp t => exact h.getD hl
  | const c => simpa [ev, Act.eval] using hl
  | global g => simpa [ev, Act.eval] using hl
  | func f => simpa [ev, Act.eval] using hl

theorem Fr.evals {N L a} (h : Fr N L a) : ∀ {xs : List Operand} {vs : List Value}, evs L xs = some vs → xs.map a.eval = vs
  | [], vs, he => by simp [evs] at he; simp [he]
  | x :: xs, vs, he => by
    simp only [evs] at he
    cases h1 : ev L x with
    | none => simp [h1] at he
    | some v =>
      cases h2 : evs L xs with
      | none => simp [h1, h2] at he
      | some us =>
        simp only [h1, h2, Option.some.injEq] at he
        subst he
        simp [h.eval h1, h.evals h2]

theorem Fr.put {N L a d v} (h : Fr N L a) (hd : Nat.blt d N = true) : Fr N ((d, v) :: L) (a.put (some d) v) := by
  have hd' : d < N := by simpa [Nat.blt_eq] using hd
  refine ⟨by simp [Act.put, h.size], h.defers, fun t u hu => ?_⟩
  simp only [look] at hu
  cases hb : Nat.beq d t with
  | true =>
    have : d = t := by simpa using hb
    subst this
    simp only [hb, cond_true, Option.some.injEq] at hu
    subst hu
    simp [Act.put, h.size, hd']
  | false =>
    have hne : d ≠ t := by intro e; subst e; simp at hb
    simp only [hb, cond_false] at hu
    simp only [Act.put]
    rw [Array.getElem?_setIfInBounds_ne hne]
    exact h.get t u hu

/-- A shorter list of slots that agrees. -/
def Agree : Env → Env → Prop
  | [], _ => True
  | (s, v) :: L', L => look L s = some v ∧ Agree L' L

theorem Agree.look : ∀ {L' L : Env}, Agree L' L → ∀ t v, Go.Proofs.YtaccphdkapmdhaaGreat.look L' t = some v → Go.Proofs.YtaccphdkapmdhaaGreat.look L t = some v
  | [], _, _, t, v, h => by simp [Go.Proofs.YtaccphdkapmdhaaGreat.look] at h
  | (s, u) :: L', L, ha, t, v, h => by
    simp only [Go.Proofs.YtaccphdkapmdhaaGreat.look] at h
    cases hb : Nat.beq s t with
    | true =>
      have : s = t := by simpa using hb
      simp only [hb, cond_true, Option.some.injEq] at h
      rw [← this, ← h]; exact ha.1
    | false =>
      simp only [hb, cond_false] at h
      exact ha.2.look t v h

theorem Fr.weaken {N L L' a} (h : Fr N L a) (ha : Agree L' L) : Fr N L' a :=
  ⟨h.size, h.defers, fun t v hv => h.get t v (ha.look t v hv)⟩

/-! ### The guard of an operation -/
def grd (all : List Oper) (L : Env) (o : Oper) : Option Bool :=
  match o.guard with
  | none => some true
  | some (j, want) => match all[j]? with
    | some oj => match oj.dst with
      | some d => match look L d with
        | some (.bool b) => some (cond b want (!want))
        | some (.tuple _) => some false
        | _ => none
      | none => none
    | none => none

theorem grd_ok {all : List Oper} {N L a o b} (hf : Fr N L a) (h : grd all L o = some b) : Region.wanted o (yielded all.toArray a.tmps) = b := by
  unfold grd at h
  unfold Region.wanted
  split at h
  · rename_i hg; rw [hg]; simpa using h
  · rename_i j want hg
    rw [hg]
    simp only
    split at h
    · rename_i oj hj
      split at h
      · rename_i d hd
        split at h
        · rename_i b' hb
          have := hf.get _ _ hb
          have hy : yielded all.toArray a.tmps j = some b' := by simp [yielded, hj, hd, this]
          rw [hy]
          simp only [Option.some.injEq] at h
          rw [← h]
          cases b' <;> cases want <;> rfl
        · rename_i vs hb
          have := hf.get _ _ hb
          have hy : yielded all.toArray a.tmps j = none := by simp [yielded, hj, hd, this]
          rw [hy]
          simp only [Option.some.injEq] at h
          rw [← h]
          rfl
        · simp at h
      · simp at h
    · simp at h

def dstE (N : Nat) (o : Oper) (v : Value) (L : Env) : Option Env :=
  match o.dst with
  | none => some L
  | some d => cond (Nat.blt d N) (some ((d, v) :: L)) none

theorem dstE_ok {N o v L L' a} (hf : Fr N L a) (h : dstE N o v L = some L') : Fr N L' (a.put o.dst v) := by
  unfold dstE at h
  split at h
  · rename_i hd; rw [hd]; simp only [Option.some.injEq] at h; subst h; exact hf
  · rename_i d hd
    rw [hd]
    cases hb : Nat.blt d N with
    | true => simp only [hb, cond_true, Option.some.injEq] at h; subst h; exact hf.put hb
    | false => simp [hb] at h

/-! ### The tables of the program that the steps use -/
def fieldOff : Nat → Nat → Option Nat
  | 52, 0 => some 0 | 52, 1 => some 1 | 52, 2 => some 2 | 52, 3 => some 3 | 52, 4 => some 4 | 52, 5 => some 5
  | 104, 0 => some 0 | 104, 1 => some 1 | 104, 2 => some 3 | 104, 3 => some 4 | 104, 4 => some 5 | 104, 5 => some 6
  | 101, 0 => some 0 | 101, 1 => some 1
  | 59, 0 => some 0 | 59, 1 => some 1 | 59, 2 => some 2 | 59, 3 => some 3
  | 145, 0 => some 0 | 145, 1 => some 1 | 145, 2 => some 2 | 145, 3 => some 3
  | 147, 0 => some 0 | 147, 1 => some 1
  | 68, 0 => some 0 | 68, 1 => some 1
  | 120, 0 => some 0 | 120, 1 => some 1 | 120, 2 => some 2
  | 81, 0 => some 0 | 81, 1 => some 1 | 81, 2 => some 2 | 81, 3 => some 3
  | 37, 0 => some 0 | 37, 1 => some 1 | 37, 2 => some 2 | 37, 3 => some 3
  | 40, 0 => some 0 | 40, 1 => some 1 | 40, 2 => some 2
  | 129, 0 => some 0 | 129, 1 => some 1 | 129, 2 => some 2 | 129, 3 => some 3
  | 132, 0 => some 0 | 132, 1 => some 1 | 132, 2 => some 2
  | 108, 0 => some 0 | 108, 1 => some 1 | 108, 2 => some 2
  | 155, 0 => some 0
  | _, _ => none

noncomputable def fieldFits (s f o : Nat) : Bool :=
  match PP.underlying s with
  | some (.struct fields) => match fields[f]? with
    | some fd => fd.offset == o && (match PP.info? fd.type with | some i => i.size != 0 | none => false)
    | none => false
  | _ => false

theorem fieldFits_all : ∀ s f o, fieldOff s f = some o → fieldFits s f o = true := by
  intro s f o h
  unfold fieldOff at h
  split at h <;> first
    | (simp only [Option.some.injEq] at h; subst h; kernel_rfl)
    | (cases h)

/-- The size in cells of a slice type's elements. -/
def elemSize : Nat → Option Nat
  | 22 => some 1 | 23 => some 1 | 24 => some 6 | 34 => some 1 | 35 => some 4 | 48 => some 7 | 55 => some 4 | 56 => some 1 | 57 => some 1
  | 79 => some 1 | 85 => some 6 | 127 => some 4 | 168 => some 1
  | _ => none

noncomputable def elemFits (t n : Nat) : Bool :=
  match PP.underlying t with
  | some (.slice e) => (match PP.info? e with | some i => i.size == n | none => false)
  | _ => false

theorem elemFits_all : ∀ t n, elemSize t = some n → elemFits t n = true := by
  intro t n h
  unfold elemSize at h
  split at h <;> first
    | (simp only [Option.some.injEq] at h; subst h; kernel_rfl)
    | (cases h)

/-- Types whose values are one cell. -/
def oneT : Nat → Bool
  | 3 | 4 | 5 | 9 | 21 | 22 | 23 | 24 | 29 | 34 | 35 | 48 | 50 | 55 | 56 | 57 | 63 | 66 | 73 | 78 | 79 | 85 | 92 | 99 | 105 | 109 | 118 | 127 | 135 | 143 | 151 | 152 | 164 | 168 => true
  | _ => false

noncomputable def oneFits (t : Nat) : Bool :=
  (match PP.underlying t with
  | some (.struct _) => false
  | some (.array _ _) => false
  | some _ => true
  | none => false) && (match PP.info? t with | some i => i.size == 1 | none => false)

theorem oneFits_all : ∀ t, oneT t = true → oneFits t = true := by
  intro t h
  unfold oneT at h
  split at h <;> first
    | (cases h; done)
    | kernel_rfl

theorem isAgg_one {t : Nat} (h : oneT t = true) (w : World) : (isAgg t).run PP w = .ok false w := by
  have := oneFits_all t h
  unfold oneFits at this
  simp only [Bool.and_eq_true] at this
  obtain ⟨h1, _⟩ := this
  unfold isAgg
  cases hu : PP.underlying t with
  | none => simp [hu] at h1
  | some d =>
    simp only [Sem.run_bind, run_underlying hu, Result.andThen_ok]
    cases d <;> first | rfl | (simp [hu] at h1)

theorem sizeOf_one {t : Nat} (h : oneT t = true) (w : World) : (sizeOf t).run PP w = .ok 1 w := by
  have := oneFits_all t h
  unfold oneFits at this
  simp only [Bool.and_eq_true] at this
  obtain ⟨_, h2⟩ := this
  unfold sizeOf typeInfo
  cases hi : PP.info? t with
  | none => simp [hi] at h2
  | some i =>
    simp only [hi, beq_iff_eq] at h2
    simp only [Sem.run_bind, run_program, Result.andThen_ok, hi, Sem.run_pure, h2]

theorem fieldAt_run {s f o : Nat} (h : fieldOff s f = some o) (a : Addr) (w : World) :
    (Instr.fieldAt s (.pointer (some a)) f).run PP w = .ok (.pointer (some (a.add o))) w := by
  have := fieldFits_all s f o h
  unfold fieldFits at this
  split at this
  · rename_i fields hu
    split at this
    · rename_i fd hfd
      simp only [Bool.and_eq_true, beq_iff_eq] at this
      obtain ⟨ho, hs⟩ := this
      split at hs
      · rename_i i hi
        have hs' : i.size ≠ 0 := by simpa using hs
        simp only [Instr.fieldAt, Sem.run_bind, run_underlying hu, Result.andThen_ok, hfd, Instr.sureAddr, Sem.run_pure, fieldPlace, sizeOf, typeInfo, run_program, hi, hs', Sem.run_ite, if_false, ho]
      · simp at hs
    · simp at this
  · simp at this

theorem addr_lit (b i n : Nat) : (⟨b, i, none⟩ : Addr).add n = ⟨b, i + n, none⟩ := by
  unfold Addr.add
  split
  · rename_i h; simp [h]
  · rfl

theorem indexAt_run {t n : Nat} (h : elemSize t = some n) (b o len cap : Nat) (k : IntKind) (i : Int) (h0 : 0 ≤ i) (h1 : i < (len : Int)) (w : World) :
    (Instr.indexAt t (.slice (some ⟨b, o, none⟩) len cap) (.int k i)).run PP w = .ok (.pointer (some ⟨b, o + i.toNat * n, none⟩)) w := by
  have := elemFits_all t n h
  unfold elemFits at this
  split at this
  · rename_i e hu
    split at this
    · rename_i inf hi
      simp only [beq_iff_eq] at this
      simp [Instr.indexAt, asIntOf, run_underlying hu, h0, h1, sizeOf, typeInfo, hi, this, addr_lit]
    · simp at this
  · simp at this

/-! ### Operations that leave memory alone -/
def kindOf : Nat → Option IntKind
  | 3 => some .i64 | 5 => some .u8 | 21 => some .i32 | 29 => some .u32 | 33 => some .u64 | 135 => some .u64 | 143 => some .u8 | 99 => some .i64
  | _ => none

noncomputable def kindFits (t : Nat) (k : IntKind) : Bool := match PP.underlying t with | some (.int k') => k == k' | _ => false

theorem kindFits_all : ∀ t k, kindOf t = some k → kindFits t k = true := by
  intro t n h
  unfold kindOf at h
  split at h <;> first
    | (simp only [Option.some.injEq] at h; subst h; kernel_rfl)
    | (cases h)

theorem kind_underlying {t k} (h : kindOf t = some k) : PP.underlying t = some (.int k) := by
  have := kindFits_all t k h
  unfold kindFits at this
  split at this
  · rename_i k' hu
    have hk : k = k' := by simpa using this
    rw [hu, hk]
  · simp at this

def lenTy : Nat → Bool
  | 22 | 23 | 24 | 34 | 35 | 48 | 55 | 56 | 57 | 79 | 85 | 127 | 168 => true
  | _ => false

theorem lenTy_u : ∀ t, lenTy t = true → ∃ e, PP.underlying t = some (.slice e) := by
  intro t h
  have key : (match PP.underlying t with | some (.slice _) => true | _ => false) = true := by
    unfold lenTy at h
    split at h <;> first
      | (cases h; done)
      | kernel_rfl
  split at key
  · rename_i e he; exact ⟨e, he⟩
  · simp at key

theorem string_u : PP.underlying 9 = some .string := by kernel_rfl

/-- 'decide', shut: the steps do not look into it. -/
def dc (p : Prop) [Decidable p] : Bool := decide p
theorem dc_eq (p : Prop) [Decidable p] : dc p = decide p := rfl
theorem dc_true {p : Prop} [Decidable p] (h : dc p = true) : p := of_decide_eq_true h
theorem dc_false {p : Prop} [Decidable p] (h : dc p = false) : ¬ p := of_decide_eq_false h
theorem dc_of {p : Prop} [Decidable p] (h : p) : dc p = true := decide_eq_true h
theorem dc_not {p : Prop} [Decidable p] (h : ¬ p) : dc p = false := decide_eq_false h
attribute [irreducible] dc

/-- Comparisons, by the very form that the steps hand on. -/
def cmpE (op : BinOp) : Value → Value → Option Value
  | .int k a, .int k' b => cond (decide (k = k')) (match op with
    | .eql => some (.bool (dc (a = b)))
    | .neq => some (.bool (dc (a ≠ b)))
    | .lss => some (.bool (dc (a < b)))
    | .leq => some (.bool (dc (a ≤ b)))
    | .gtr => some (.bool (dc (b < a)))
    | .geq => some (.bool (dc (b ≤ a)))
    | _ => none) none
  | .nilIface, .iface _ _ => match op with | .eql => some (.bool false) | .neq => some (.bool true) | _ => none
  | .iface _ _, .nilIface => match op with | .eql => some (.bool false) | .neq => some (.bool true) | _ => none
  | .nilIface, .nilIface => match op with | .eql => some (.bool true) | .neq => some (.bool false) | _ => none
  | .pointer (some _), .pointer none => match op with | .eql => some (.bool false) | .neq => some (.bool true) | _ => none
  | .pointer none, .pointer none => match op with | .eql => some (.bool true) | .neq => some (.bool false) | _ => none
  | .string a, .string b => match op with
    | .eql => some (.bool (dc (a = b)))
    | .neq => some (.bool (dc (a ≠ b)))
    | _ => none
  | _, _ => none

/-- Arithmetic, with its wrap. -/
def arE (op : BinOp) : Value → Value → Option Value
  | .int k a, .int k' b => cond (decide (k = k')) (match op with
    | .add => some (.int k (k.wrap (a + b)))
    | .sub => some (.int k (k.wrap (a - b)))
    | .mul => some (.int k (k.wrap (a * b)))
    | _ => none) none
  | _, _ => none

def isNil : Value → Bool
  | .nilIface => true
  | _ => false

def litNil : Operand → Bool
  | .const _ => true
  | _ => false

def pure1 (L : Env) (o : Op) : Option Value :=
  match o with
  | .move x => ev L x
  | .assign x => ev L x
  | .pick c a b => match ev L c with
    | some (.bool true) => ev L a
    | some (.bool false) => ev L b
    | _ => none
  | .call ⟨.builtin .len, ⟨[x]⟩, ⟨[t]⟩⟩ => match ev L x with
    | some (.slice _ n _) => cond (lenTy t) (some (.int .i64 n)) none
    | some (.string s) => cond (Nat.beq t 9) (some (.int .i64 s.size)) none
    | _ => none
  | .call ⟨.builtin .cap, ⟨[x]⟩, ⟨[t]⟩⟩ => match ev L x with
    | some (.slice _ _ n) => cond (lenTy t) (some (.int .i64 n)) none
    | _ => none
  | .nilCheck x => match ev L x with
    | some (.pointer (some a)) => some (.pointer (some a))
    | _ => none
  | .fieldAddr s x f => match ev L x with
    | some (.pointer (some ⟨b, i, none⟩)) => match fieldOff s f with
      | some n => some (.pointer (some ⟨b, i + n, none⟩))
      | none => none
    | _ => none
  | .extract x i => match ev L x with
    | some (.tuple ⟨vs⟩) => vs[i]?
    | _ => none
  | .unOp .not _ x => match ev L x with
    | some (.bool b) => some (.bool (!b))
    | _ => none
  | .binOp op t x y _ => match ev L x, ev L y with
    | some .nilIface, some .nilIface => cond (Nat.beq t 50) (cond (litNil x) (cmpE op .nilIface .nilIface) (cond (litNil y) (cmpE op .nilIface .nilIface) none)) none
    | some (.iface ty v), some .nilIface => cond (Nat.beq t 50) (cmpE op (.iface ty v) .nilIface) none
    | some .nilIface, some (.iface ty v) => cond (Nat.beq t 50) (cmpE op .nilIface (.iface ty v)) none
    | some (.pointer p), some (.pointer q) => cond (Nat.beq t 63) (cmpE op (.pointer p) (.pointer q)) (cond (Nat.beq t 73) (cmpE op (.pointer p) (.pointer q)) none)
    | some (.int k a), some (.int k' b) => cmpE op (.int k a) (.int k' b)
    | some (.string a), some (.string b) => cmpE op (.string a) (.string b)
    | _, _ => none
  | .makeFunc (.func f) ⟨[]⟩ ⟨cs⟩ => match evs L cs with
    | some vs => some (.func (.func f) #[] ⟨vs⟩)
    | none => none
  | .makeInterface t x => match ev L x with
    | some v => cond (Nat.beq t 105) (some (.iface 105 v)) (cond (Nat.beq t 153) (some (.iface 153 v)) none)
    | none => none
  | _ => none

end Go.Proofs.YtaccphdkapmdhaaGreat

namespace Go.Proofs.YtaccphdkapmdhaaGreat

theorem err_u : ∃ ms, PP.underlying 50 = some (.interface ms) ∧ ms.isEmpty = false := by
  have key : (match PP.underlying 50 with | some (.interface ms) => !ms.isEmpty | _ => false) = true := by kernel_rfl
  split at key
  · rename_i ms h; exact ⟨ms, h, by simpa using key⟩
  · simp at key

theorem ptr63_u : PP.underlying 63 = some (.pointer 104) := by kernel_rfl
theorem ptr73_u : PP.underlying 73 = some (.pointer 81) := by kernel_rfl
theorem ptr105_u : PP.underlying 105 = some (.pointer 108) := by kernel_rfl
theorem ptr153_u : PP.underlying 153 = some (.pointer 155) := by kernel_rfl

theorem ba_eq (a b : ByteArray) : (a.toList == b.toList) = decide (a = b) := by
  rw [Bool.eq_iff_iff]
  simp only [beq_iff_eq, decide_eq_true_eq]
  constructor
  · intro h
    rw [ByteArray.toList_eq, ByteArray.toList_eq] at h
    cases a; cases b
    simp only [ByteArray.mk.injEq]
    exact Array.toList_inj.1 h
  · rintro rfl; rfl

theorem cmp_int (op : BinOp) (t : TypeId) (k k' : IntKind) (a b : Int) (v : Value) (h : cmpE op (.int k a) (.int k' b) = some v) (w : World) :
    (binOp op t (.int k a) (.int k' b)).run PP w = .ok v w := by
  simp only [cmpE] at h
  by_cases hk : k = k'
  · subst hk
    simp only [decide_true, cond_true] at h
    cases op <;> simp only [Option.some.injEq] at h <;> first
      | (cases h; done)
      | (subst h
         simp [binOp, Op.intCmp, dc_eq]
         try rfl)
  · simp [hk] at h

theorem cmp_str (op : BinOp) (t : TypeId) (a b : ByteArray) (v : Value) (h : cmpE op (.string a) (.string b) = some v) (w : World) :
    (binOp op t (.string a) (.string b)).run PP w = .ok v w := by
  simp only [cmpE] at h
  cases op <;> simp only [Option.some.injEq] at h <;> first
    | (cases h; done)
    | (subst h
       simp only [binOp, Op.stringOp, Sem.run_pure, ba_eq, dc_eq]
       try (congr 2; by_cases e : a = b <;> simp [e]))

theorem eqGuard_int (op : BinOp) (x y : Operand) (k k' : IntKind) (a b : Int) (t : TypeId) (w : World) : (eqGuard op t x y (.int k a) (.int k' b)).run PP w = .ok () w := by
  unfold eqGuard; cases op <;> rfl
theorem eqGuard_str (op : BinOp) (x y : Operand) (a b : ByteArray) (t : TypeId) (w : World) : (eqGuard op t x y (.string a) (.string b)).run PP w = .ok () w := by
  unfold eqGuard; cases op <;> rfl
theorem eqGuard_ptr (op : BinOp) (x y : Operand) (a b : Option Addr) (t : TypeId) (w : World) : (eqGuard op t x y (.pointer a) (.pointer b)).run PP w = .ok () w := by
  unfold eqGuard; cases op <;> rfl
theorem eqGuard_in (op : BinOp) (x y : Operand) (e : TypeId) (v : Value) (t : TypeId) (w : World) : (eqGuard op t x y (.iface e v) .nilIface).run PP w = .ok () w := by
  unfold eqGuard; cases op <;> rfl
theorem eqGuard_ni (op : BinOp) (x y : Operand) (e : TypeId) (v : Value) (t : TypeId) (w : World) : (eqGuard op t x y .nilIface (.iface e v)).run PP w = .ok () w := by
  unfold eqGuard; cases op <;> rfl
theorem eqGuard_nn (op : BinOp) (x y : Operand) (t : TypeId) (h : litNil x = true ∨ litNil y = true) (w : World) : (eqGuard op t x y .nilIface .nilIface).run PP w = .ok () w := by
  rcases h with h | h
  · cases x <;> first | (simp [litNil] at h; done) | (unfold eqGuard; cases op <;> rfl)
  · cases y <;> first | (simp [litNil] at h; done) | (cases x <;> (unfold eqGuard; cases op <;> rfl))

theorem equalIn_nn (d : Nat) (w : World) : (Op.equalIn (d + 1) 50 .nilIface .nilIface).run PP w = .ok true w := by
  obtain ⟨ms, hu, _⟩ := err_u
  simp only [Op.equalIn, Sem.run_bind, run_underlying hu, Result.andThen_ok, Sem.run_pure]
theorem equalIn_in (d : Nat) (e : TypeId) (v : Value) (w : World) : (Op.equalIn (d + 1) 50 (.iface e v) .nilIface).run PP w = .ok false w := by
  obtain ⟨ms, hu, _⟩ := err_u
  simp only [Op.equalIn, Sem.run_bind, run_underlying hu, Result.andThen_ok, Sem.run_pure]
theorem equalIn_ni (d : Nat) (e : TypeId) (v : Value) (w : World) : (Op.equalIn (d + 1) 50 .nilIface (.iface e v)).run PP w = .ok false w := by
  obtain ⟨ms, hu, _⟩ := err_u
  simp only [Op.equalIn, Sem.run_bind, run_underlying hu, Result.andThen_ok, Sem.run_pure]
theorem equalIn_pn (d : Nat) {t e : TypeId} (hu : PP.underlying t = some (.pointer e)) (a : Addr) (w : World) : (Op.equalIn (d + 1) t (.pointer (some a)) (.pointer none)).run PP w = .ok false w := by
  simp only [Op.equalIn, Sem.run_bind, run_underlying hu, Result.andThen_ok, Sem.run_pure]
theorem equalIn_pp (d : Nat) {t e : TypeId} (hu : PP.underlying t = some (.pointer e)) (w : World) : (Op.equalIn (d + 1) t (.pointer none) (.pointer none)).run PP w = .ok true w := by
  simp only [Op.equalIn, Sem.run_bind, run_underlying hu, Result.andThen_ok, Sem.run_pure, Option.isNone_none]

theorem cmp_of_equal {op : BinOp} {t : TypeId} {a b : Value} {r : Bool} {v : Value} {w : World} (he : (Op.equal t a b).run PP w = .ok r w)
    (h : (op = .eql ∧ v = .bool r) ∨ (op = .neq ∧ v = .bool (!r))) (hb1 : binOp .eql t a b = (do pure (.bool (← Op.equal t a b)))) (hb2 : binOp .neq t a b = (do pure (.bool (!(← Op.equal t a b))))) :
    (binOp op t a b).run PP w = .ok v w := by
  rcases h with ⟨rfl, rfl⟩ | ⟨rfl, rfl⟩
  · rw [hb1]; simp only [Sem.run_bind, he, Result.andThen_ok, Sem.run_pure]
  · rw [hb2]; simp only [Sem.run_bind, he, Result.andThen_ok, Sem.run_pure]

theorem cmpE_nn {op : BinOp} {v : Value} (h : cmpE op .nilIface .nilIface = some v) : (op = .eql ∧ v = .bool true) ∨ (op = .neq ∧ v = .bool (!true)) := by
  cases op <;> simp [cmpE] at h <;> simp [h]
theorem cmpE_in {op : BinOp} {v u : Value} {e : TypeId} (h : cmpE op (.iface e u) .nilIface = some v) : (op = .eql ∧ v = .bool false) ∨ (op = .neq ∧ v = .bool (!false)) := by
  cases op <;> simp [cmpE] at h <;> simp [h]
theorem cmpE_ni {op : BinOp} {v u : Value} {e : TypeId} (h : cmpE op .nilIface (.iface e u) = some v) : (op = .eql ∧ v = .bool false) ∨ (op = .neq ∧ v = .bool (!false)) := by
  cases op <;> simp [cmpE] at h <;> simp [h]
theorem cmpE_pn {op : BinOp} {v : Value} {a : Addr} (h : cmpE op (.pointer (some a)) (.pointer none) = some v) : (op = .eql ∧ v = .bool false) ∨ (op = .neq ∧ v = .bool (!false)) := by
  cases op <;> simp [cmpE] at h <;> simp [h]
theorem cmpE_pp {op : BinOp} {v : Value} (h : cmpE op (.pointer none) (.pointer none) = some v) : (op = .eql ∧ v = .bool true) ∨ (op = .neq ∧ v = .bool (!true)) := by
  cases op <;> simp [cmpE] at h <;> simp [h]

theorem equal_of_in {t : TypeId} {a b : Value} {r : Bool} {w : World} (h : (Op.equalIn (9999 + 1) t a b).run PP w = .ok r w) : (Op.equal t a b).run PP w = .ok r w := h

set_option maxHeartbeats 1000000 in
theorem pure1_run {N : Nat} {L : Env} {a : Act} {o : Oper} {v : Value} (hf : Fr N L a) (h : pure1 L o.op = some v) (w : World) :
    (execOp a.eval o).run PP w = .ok (.value v) w := by
  obtain ⟨dst, op, ty, pos, after, guard⟩ := o
  simp only at h
  unfold pure1 at h
  split at h
  · -- move
    rename_i x
    simp [execOp, hf.eval h]
  · rename_i x
    simp [execOp, hf.eval h]
  · rename_i c x y
    split at h
    · rename_i hc
      simp [execOp, hf.eval hc, asBool, hf.eval h]
    · rename_i hc
      simp [execOp, hf.eval hc, asBool, hf.eval h]
    · cases h
  · -- len
    rename_i x t
    split at h
    · rename_i p n c hx
      cases ht : lenTy t with
      | false => simp [ht] at h
      | true =>
        obtain ⟨e, he⟩ := lenTy_u t ht
        simp only [ht, cond_true, Option.some.injEq] at h
        subst h
        simp [execOp, resolve, invoke, builtin, Builtin.len_, hf.eval hx, run_underlying he, goInt]
    · rename_i s hx
      cases ht : Nat.beq t 9 with
      | false => simp [ht] at h
      | true =>
        have : t = 9 := by simpa using ht
        subst this
        simp only [ht, cond_true, Option.some.injEq] at h
        subst h
        simp [execOp, resolve, invoke, builtin, Builtin.len_, hf.eval hx, run_underlying string_u, goInt]
    · cases h
  · rename_i x t
    split at h
    · rename_i p n c hx
      cases ht : lenTy t with
      | false => simp [ht] at h
      | true =>
        obtain ⟨e, he⟩ := lenTy_u t ht
        simp only [ht, cond_true, Option.some.injEq] at h
        subst h
        simp [execOp, resolve, invoke, builtin, Builtin.cap_, hf.eval hx, run_underlying he, goInt]
    · cases h
  · -- nilCheck
    rename_i x
    split at h
    · rename_i ad hx
      simp only [Option.some.injEq] at h; subst h
      simp [execOp, hf.eval hx]
    · cases h
  · -- fieldAddr
    rename_i s x f
    split at h
    · rename_i b i hx
      split at h
      · rename_i n hn
        simp only [Option.some.injEq] at h; subst h
        simp [execOp, hf.eval hx, fieldAt_run hn, addr_lit]
      · cases h
    · cases h
  · -- extract
    rename_i x i
    split at h
    · rename_i vs hx
      simp [execOp, hf.eval hx, Instr.extract, h]
    · cases h
  · rename_i t x
    split at h
    · rename_i b hx
      simp only [Option.some.injEq] at h; subst h
      simp [execOp, hf.eval hx, Op.unary]
    · cases h
  · -- binOp
    rename_i bop t x y t2
    split at h
    · rename_i hx hy
      cases ht : Nat.beq t 50 with
      | false => simp [ht] at h
      | true =>
        have : t = 50 := by simpa using ht
        subst this
        have hlit : litNil x = true ∨ litNil y = true := by
          cases h1 : litNil x <;> cases h2 : litNil y <;> simp [h1, h2] at h ⊢
        have h' : cmpE bop .nilIface .nilIface = some v := by
          cases h1 : litNil x <;> cases h2 : litNil y <;> simp [h1, h2] at h <;> exact h
        simp only [execOp, hf.eval hx, hf.eval hy, Sem.run_bind, eqGuard_nn bop x y 50 hlit, Result.andThen_ok, cmp_of_equal (equal_of_in (equalIn_nn 9999 w)) (cmpE_nn h') rfl rfl, Sem.run_pure]
    · rename_i ty' vv hx hy
      cases ht : Nat.beq t 50 with
      | false => simp [ht] at h
      | true =>
        have : t = 50 := by simpa using ht
        subst this
        simp only [ht, cond_true] at h
        simp only [execOp, hf.eval hx, hf.eval hy, Sem.run_bind, eqGuard_in, Result.andThen_ok, cmp_of_equal (equal_of_in (equalIn_in 9999 ty' vv w)) (cmpE_in h) rfl rfl, Sem.run_pure]
    · rename_i ty' vv hx hy
      cases ht : Nat.beq t 50 with
      | false => simp [ht] at h
      | true =>
        have : t = 50 := by simpa using ht
        subst this
        simp only [ht, cond_true] at h
        simp only [execOp, hf.eval hx, hf.eval hy, Sem.run_bind, eqGuard_ni, Result.andThen_ok, cmp_of_equal (equal_of_in (equalIn_ni 9999 ty' vv w)) (cmpE_ni h) rfl rfl, Sem.run_pure]
    · rename_i p q hx hy
      have hu : ∃ e, PP.underlying t = some (.pointer e) ∧ cmpE bop (.pointer p) (.pointer q) = some v := by
        cases ht : Nat.beq t 63 with
        | true => have : t = 63 := by simpa using ht
                  subst this; exact ⟨_, ptr63_u, by simpa using h⟩
        | false =>
          cases ht2 : Nat.beq t 73 with
          | true => have : t = 73 := by simpa using ht2
                    subst this; exact ⟨_, ptr73_u, by simpa using h⟩
          | false => simp [ht, ht2] at h
      obtain ⟨e, hu, h⟩ := hu
      simp only [execOp, hf.eval hx, hf.eval hy, Sem.run_bind, eqGuard_ptr, Result.andThen_ok]
      cases p with
      | none =>
        cases q with
        | none => simp only [cmp_of_equal (equal_of_in (equalIn_pp 9999 hu w)) (cmpE_pp h) rfl rfl, Result.andThen_ok, Sem.run_pure]
        | some q => simp [cmpE] at h
      | some p =>
        cases q with
        | none => simp only [cmp_of_equal (equal_of_in (equalIn_pn 9999 hu p w)) (cmpE_pn h) rfl rfl, Result.andThen_ok, Sem.run_pure]
        | some q => simp [cmpE] at h
    · rename_i k x' k' y' hx hy
      simp only [execOp, hf.eval hx, hf.eval hy, Sem.run_bind, eqGuard_int, Result.andThen_ok, cmp_int _ _ _ _ _ _ _ h, Sem.run_pure]
    · rename_i x' y' hx hy
      simp only [execOp, hf.eval hx, hf.eval hy, Sem.run_bind, eqGuard_str, Result.andThen_ok, cmp_str _ _ _ _ _ h, Sem.run_pure]
    · cases h
  · -- makeFunc
    rename_i f cs
    split at h
    · rename_i vs hvs
      simp only [Option.some.injEq] at h; subst h
      have := hf.evals hvs
      simp [execOp, Instr.makeFunc, this]
    · cases h
  · rename_i t x
    split at h
    · rename_i vv hx
      cases ht : Nat.beq t 105 with
      | true =>
        have : t = 105 := by simpa using ht
        subst this
        simp only [ht, cond_true, Option.some.injEq] at h; subst h
        simp [execOp, Instr.makeInterface, hf.eval hx, run_underlying ptr105_u]
      | false =>
        cases ht2 : Nat.beq t 153 with
        | true =>
          have : t = 153 := by simpa using ht2
          subst this
          simp only [ht, ht2, cond_true, cond_false, Option.some.injEq] at h; subst h
          simp [execOp, Instr.makeInterface, hf.eval hx, run_underlying ptr153_u]
        | false => simp [ht, ht2] at h
    · cases h
  · cases h

end Go.Proofs.YtaccphdkapmdhaaGreat

