/- Runs of sequences of more than one byte. Remarks and ends of lines. Strings between single quotes. What stands behind a stroke in a string; code points as bytes. What stands behind a stroke in a string. No condition. -/
import Derived.Test.YtaccphdkapmdhaaGreatP4
namespace Go.Proofs.YtaccphdkapmdhaaGreat

/-- A run of well-formed sequences, so many bytes long, up to a byte of its own or the end. -/
inductive MR : Bs → Nat → Prop
  | stop {l : Bs} : (∀ c, l.head? = some c → c.toNat < 128) → MR l 0
  | step {l : Bs} {n m : Nat} : mbLen l = n → 0 < n → MR (l.drop n) m → MR l (n + m)

/-- What a well-formed sequence looks like. -/
theorem mb_cases {l : Bs} {n : Nat} (h : mbLen l = n) (h0 : 0 < n) :
    (∃ c c1 l', l = c :: c1 :: l' ∧ n = 2 ∧ 194 ≤ c.toNat ∧ c.toNat < 224 ∧ 128 ≤ c1.toNat ∧ c1.toNat < 192) ∨
    (∃ c c1 c2 l', l = c :: c1 :: c2 :: l' ∧ n = 3 ∧ 224 ≤ c.toNat ∧ c.toNat < 240 ∧ 128 ≤ c1.toNat ∧ c1.toNat < 192 ∧ 128 ≤ c2.toNat ∧ c2.toNat < 192 ∧ (c.toNat = 224 → 160 ≤ c1.toNat) ∧ (c.toNat = 237 → c1.toNat < 160)) ∨
    (∃ c c1 c2 c3 l', l = c :: c1 :: c2 :: c3 :: l' ∧ n = 4 ∧ 240 ≤ c.toNat ∧ c.toNat < 245 ∧ 128 ≤ c1.toNat ∧ c1.toNat < 192 ∧ 128 ≤ c2.toNat ∧ c2.toNat < 192 ∧ 128 ≤ c3.toNat ∧ c3.toNat < 192 ∧
      (c.toNat = 240 → 144 ≤ c1.toNat) ∧ (c.toNat = 244 → c1.toNat < 144)) := by
  unfold mbLen at h
  split at h
  · rename_i c c1 l'
    split at h
    · rename_i hc
      split at h
      · rename_i hc1
        exact .inl ⟨c, c1, l', rfl, by omega, hc.1, hc.2, hc1.1, hc1.2⟩
      · omega
    · split at h
      · rename_i c2 l2
        split at h
        · rename_i hc
          split at h
          · rename_i h1
            exact .inr (.inl ⟨c, c1, c2, l2, rfl, by omega, hc.1, hc.2, h1.2.2.1, h1.2.2.2.1, h1.1, h1.2.1, h1.2.2.2.2.1, h1.2.2.2.2.2⟩)
          · omega
        · split at h
          · rename_i c3 l3
            split at h
            · rename_i hc
              split at h
              · rename_i h1
                exact .inr (.inr ⟨c, c1, c2, c3, l3, rfl, by omega, hc.1, hc.2, h1.2.2.2.2.1, h1.2.2.2.2.2.1, h1.1, h1.2.1, h1.2.2.1, h1.2.2.2.1, h1.2.2.2.2.2.2.1, h1.2.2.2.2.2.2.2⟩)
              · omega
            · omega
          · omega
      · omega
  · omega

theorem mb_le {l : Bs} {n : Nat} (h : mbLen l = n) (h0 : 0 < n) : n ≤ l.length := by
  rcases mb_cases h h0 with ⟨c, c1, l', rfl, rfl, _⟩ | ⟨c, c1, c2, l', rfl, rfl, _⟩ | ⟨c, c1, c2, c3, l', rfl, rfl, _⟩ <;> simp

theorem MR.le {l : Bs} {m : Nat} (h : MR l m) : m ≤ l.length := by
  induction h with
  | stop => omega
  | step h1 h2 _ ih =>
    have := mb_le h1 h2
    simp only [List.length_drop] at ih
    omega

section
variable {bd C E : Nat} {dc : Array Value} {fz : Nat × Nat}

theorem Suf.at {v l} (h : Suf bd C E dc v l) {w : World} (hD : w.heap[bd]? = some (.cells dc 5 fz)) {i : Nat} {c : UInt8} (hi : l[i]? = some c) :
    w.cell? ⟨bd, E - l.length + i * 1, none⟩ = some (u8 c) := by
  rw [Nat.mul_one]; exact cell_of hD (h.cells i c hi)

theorem Suf.val {v l} (h : Suf bd C E dc v l) (h0 : 0 < l.length) : v = .slice (some ⟨bd, E - l.length, none⟩) l.length (C - (E - l.length)) := by
  obtain ⟨⟨ad, rfl, hs⟩, hle, hEC, _⟩ := h
  rw [hs.addr (by omega)]

theorem drop_at {l l' : Bs} {j : Nat} (h : l.drop j = l') (n : Nat) : l[j + n]? = l'[n]? := by rw [← h, List.getElem?_drop]

set_option maxRecDepth 100000 in
set_option maxHeartbeats 2000000 in
theorem utf8Run_any (v : Value) (l : Bs) (i m : Nat) (w : World) (hv : Suf bd C E dc v l) (hi : i ≤ l.length) (hm : MR (l.drop i) m) (hD : w.heap[bd]? = some (.cells dc 5 fz)) :
    Calls PP 76 #[v, .int .i64 (i : Int)] w fun e w' => e = .returned (.tuple #[.int .i64 ((i + m : Nat) : Int), .bool true]) ∧ w' = w := by
  have hC := hv.C62
  have hle := hv.le
  have hEC := hv.EC
  refine enter (L := [(0, v), (1, .int .i64 (i : Int))]) Tryz.func76 rfl rfl rfl ⟨rfl, rfl, trivial⟩ ?_
  repeat (first | refine WL.pp rfl ?_ | refine WL.ns ?_ | refine WC.sr ?_ | refine WC.seq ?_ | refine WC.block ?_)
  refine WC.loop (σ := Nat) (I := fun j w' => w' = w ∧ i ≤ j ∧ j ≤ l.length ∧ ∃ k, MR (l.drop j) k ∧ j + k = i + m) (m := fun j => l.length - j) (Lf := fun j => [(0, v), (1, .int .i64 (j : Int))]) i ⟨rfl, Nat.le_refl _, hi, m, hm, rfl⟩ ⟨rfl, rfl, trivial⟩ ?_
  rintro j w1 ⟨rfl, hij, hjl, k, hk, hjk⟩
  by_cases hlt : j < l.length
  · have hval := hv.val (by omega)
    subst hval
    have hat := fun {i : Nat} {c : UInt8} (h : l[i]? = some c) => hv.at hD h
    cases hk with
    | stop hs =>
      have hc : l[j]? = some l[j] := List.getElem?_eq_getElem hlt
      have h128 : l[j].toNat < 128 := hs _ (by rw [List.head?_drop]; exact hc)
      generalize l[j] = c at hc h128
      repeat (first | refine WL.pp rfl ?_ | refine WL.ns ?_ | refine WC.sr ?_ | refine WC.dT rfl (by first | omega | decide) ?_ | refine WL.ix (i := j) rfl rfl rfl (by omega) rfl ?_ | refine WL.ld rfl rfl (hat hc) rfl ?_ | refine WC.seq ?_ | refine WC.block ?_ | refine X.sn ?_ | refine X.sr ?_ | refine X.br ?_ | refine WC.skip ?_ | refine WC.ret ?_)
      refine X.ret_ rfl rfl ⟨?_, rfl⟩
      have : j = i + m := by omega
      rw [this]; rfl
    | step h1 h2 h3 =>
      rename_i n k
      have hnl := mb_le h1 h2
      simp only [List.length_drop] at hnl
      rw [List.drop_drop] at h3
      rcases mb_cases h1 h2 with ⟨c, c1, l', he, rfl, hc1, hc2, hc3, hc4⟩ | ⟨c, c1, c2, l', he, rfl, hc1, hc2, hc3, hc4, hc5, hc6, hc7, hc8⟩ | ⟨c, c1, c2, c3, l', he, rfl, hc1, hc2, hc3, hc4, hc5, hc6, hc7, hc8, hc9, hc10⟩
      · have g0 : l[j]? = some c := drop_at he 0
        have g1 : l[j + 1]? = some c1 := drop_at he 1
        repeat (first | refine WL.pp rfl ?_ | refine WL.ns ?_ | refine WC.sr ?_ | refine WC.dT rfl (by first | omega | decide) ?_ | refine WC.dF rfl (by first | omega | decide) ?_ | refine WL.ix (i := j) rfl rfl rfl (by omega) rfl ?_ | refine WL.ix (i := j + 1) rfl rfl (by omega) (by omega) rfl ?_ | refine WL.ld rfl rfl (hat g0) rfl ?_ | refine WL.ld rfl rfl (hat g1) rfl ?_ | refine WL.bo rfl rfl (and_cont hc3 hc4 _ _) rfl ?_ | refine WL.p rfl ?_ | refine WC.seq ?_ | refine WC.reg ?_ | refine WC.block ?_ | refine WL.nil ?_ | refine X.sn ?_ | refine X.bn ?_ | refine WC.skip ?_ | refine WL.ad rfl rfl (by omega) rfl ?_ | refine WL.gF rfl rfl (by first | omega | decide) ?_)
        refine X.again (j + 2) ⟨rfl, by omega, by omega, k, h3, by omega⟩ (by omega) ⟨rfl, rfl, trivial⟩
      · have g0 : l[j]? = some c := drop_at he 0
        have g1 : l[j + 1]? = some c1 := drop_at he 1
        have g2 : l[j + 2]? = some c2 := drop_at he 2
        have q1 := fun h => hc7 h
        by_cases e1 : c.toNat = 224
        · have := hc7 e1
          repeat (first | refine WL.pp rfl ?_ | refine WL.ns ?_ | refine WC.sr ?_ | refine WC.dT rfl (by first | omega | decide) ?_ | refine WC.dF rfl (by first | omega | decide) ?_ | refine WL.ix (i := j) rfl rfl rfl (by omega) rfl ?_ | refine WL.ix (i := j + 1) rfl rfl (by omega) (by omega) rfl ?_ | refine WL.ix (i := j + 2) rfl rfl (by omega) (by omega) rfl ?_ | refine WL.ld rfl rfl (hat g0) rfl ?_ | refine WL.ld rfl rfl (hat g1) rfl ?_ | refine WL.ld rfl rfl (hat g2) rfl ?_ | refine WL.bo rfl rfl (and_cont hc5 hc6 _ _) rfl ?_ | refine WL.p rfl ?_ | refine WC.seq ?_ | refine WC.reg ?_ | refine WC.block ?_ | refine WL.nil ?_ | refine X.sn ?_ | refine X.bn ?_ | refine WC.skip ?_ | refine WL.ad rfl rfl (by omega) rfl ?_ | refine WL.gF rfl rfl (by first | omega | decide) ?_)
          refine X.again (j + 3) ⟨rfl, by omega, by omega, k, h3, by omega⟩ (by omega) ⟨rfl, rfl, trivial⟩
        · by_cases e2 : c.toNat = 237
          · have := hc8 e2
            repeat (first | refine WL.pp rfl ?_ | refine WL.ns ?_ | refine WC.sr ?_ | refine WC.dT rfl (by first | omega | decide) ?_ | refine WC.dF rfl (by first | omega | decide) ?_ | refine WL.ix (i := j) rfl rfl rfl (by omega) rfl ?_ | refine WL.ix (i := j + 1) rfl rfl (by omega) (by omega) rfl ?_ | refine WL.ix (i := j + 2) rfl rfl (by omega) (by omega) rfl ?_ | refine WL.ld rfl rfl (hat g0) rfl ?_ | refine WL.ld rfl rfl (hat g1) rfl ?_ | refine WL.ld rfl rfl (hat g2) rfl ?_ | refine WL.bo rfl rfl (and_cont hc5 hc6 _ _) rfl ?_ | refine WL.p rfl ?_ | refine WC.seq ?_ | refine WC.reg ?_ | refine WC.block ?_ | refine WL.nil ?_ | refine X.sn ?_ | refine X.bn ?_ | refine WC.skip ?_ | refine WL.ad rfl rfl (by omega) rfl ?_ | refine WL.gF rfl rfl (by first | omega | decide) ?_)
            refine X.again (j + 3) ⟨rfl, by omega, by omega, k, h3, by omega⟩ (by omega) ⟨rfl, rfl, trivial⟩
          · repeat (first | refine WL.pp rfl ?_ | refine WL.ns ?_ | refine WC.sr ?_ | refine WC.dT rfl (by first | omega | decide) ?_ | refine WC.dF rfl (by first | omega | decide) ?_ | refine WL.ix (i := j) rfl rfl rfl (by omega) rfl ?_ | refine WL.ix (i := j + 1) rfl rfl (by omega) (by omega) rfl ?_ | refine WL.ix (i := j + 2) rfl rfl (by omega) (by omega) rfl ?_ | refine WL.ld rfl rfl (hat g0) rfl ?_ | refine WL.ld rfl rfl (hat g1) rfl ?_ | refine WL.ld rfl rfl (hat g2) rfl ?_ | refine WL.bo rfl rfl (and_cont hc5 hc6 _ _) rfl ?_ | refine WL.bo rfl rfl (and_cont hc3 hc4 _ _) rfl ?_ | refine WL.p rfl ?_ | refine WC.seq ?_ | refine WC.reg ?_ | refine WC.block ?_ | refine WL.nil ?_ | refine X.sn ?_ | refine X.bn ?_ | refine WC.skip ?_ | refine WL.ad rfl rfl (by omega) rfl ?_ | refine WL.gF rfl rfl (by first | omega | decide) ?_)
            refine X.again (j + 3) ⟨rfl, by omega, by omega, k, h3, by omega⟩ (by omega) ⟨rfl, rfl, trivial⟩
      · have g0 : l[j]? = some c := drop_at he 0
        have g1 : l[j + 1]? = some c1 := drop_at he 1
        have g2 : l[j + 2]? = some c2 := drop_at he 2
        have g3 : l[j + 3]? = some c3 := drop_at he 3
        by_cases e1 : c.toNat = 240
        · have := hc9 e1
          repeat (first | refine WL.pp rfl ?_ | refine WL.ns ?_ | refine WC.sr ?_ | refine WC.dT rfl (by first | omega | decide) ?_ | refine WC.dF rfl (by first | omega | decide) ?_ | refine WL.ix (i := j) rfl rfl rfl (by omega) rfl ?_ | refine WL.ix (i := j + 1) rfl rfl (by omega) (by omega) rfl ?_ | refine WL.ix (i := j + 2) rfl rfl (by omega) (by omega) rfl ?_ | refine WL.ix (i := j + 3) rfl rfl (by omega) (by omega) rfl ?_ | refine WL.ld rfl rfl (hat g0) rfl ?_ | refine WL.ld rfl rfl (hat g1) rfl ?_ | refine WL.ld rfl rfl (hat g2) rfl ?_ | refine WL.ld rfl rfl (hat g3) rfl ?_ | refine WL.bo rfl rfl (and_cont hc5 hc6 _ _) rfl ?_ | refine WL.bo rfl rfl (and_cont hc7 hc8 _ _) rfl ?_ | refine WL.p rfl ?_ | refine WC.seq ?_ | refine WC.reg ?_ | refine WC.block ?_ | refine WL.nil ?_ | refine X.sn ?_ | refine X.bn ?_ | refine WC.skip ?_ | refine WL.ad rfl rfl (by omega) rfl ?_ | refine WL.gF rfl rfl (by first | omega | decide) ?_)
          refine X.again (j + 4) ⟨rfl, by omega, by omega, k, h3, by omega⟩ (by omega) ⟨rfl, rfl, trivial⟩
        · by_cases e2 : c.toNat = 244
          · have := hc10 e2
            repeat (first | refine WL.pp rfl ?_ | refine WL.ns ?_ | refine WC.sr ?_ | refine WC.dT rfl (by first | omega | decide) ?_ | refine WC.dF rfl (by first | omega | decide) ?_ | refine WL.ix (i := j) rfl rfl rfl (by omega) rfl ?_ | refine WL.ix (i := j + 1) rfl rfl (by omega) (by omega) rfl ?_ | refine WL.ix (i := j + 2) rfl rfl (by omega) (by omega) rfl ?_ | refine WL.ix (i := j + 3) rfl rfl (by omega) (by omega) rfl ?_ | refine WL.ld rfl rfl (hat g0) rfl ?_ | refine WL.ld rfl rfl (hat g1) rfl ?_ | refine WL.ld rfl rfl (hat g2) rfl ?_ | refine WL.ld rfl rfl (hat g3) rfl ?_ | refine WL.bo rfl rfl (and_cont hc5 hc6 _ _) rfl ?_ | refine WL.bo rfl rfl (and_cont hc7 hc8 _ _) rfl ?_ | refine WL.p rfl ?_ | refine WC.seq ?_ | refine WC.reg ?_ | refine WC.block ?_ | refine WL.nil ?_ | refine X.sn ?_ | refine X.bn ?_ | refine WC.skip ?_ | refine WL.ad rfl rfl (by omega) rfl ?_ | refine WL.gF rfl rfl (by first | omega | decide) ?_)
            refine X.again (j + 4) ⟨rfl, by omega, by omega, k, h3, by omega⟩ (by omega) ⟨rfl, rfl, trivial⟩
          · repeat (first | refine WL.pp rfl ?_ | refine WL.ns ?_ | refine WC.sr ?_ | refine WC.dT rfl (by first | omega | decide) ?_ | refine WC.dF rfl (by first | omega | decide) ?_ | refine WL.ix (i := j) rfl rfl rfl (by omega) rfl ?_ | refine WL.ix (i := j + 1) rfl rfl (by omega) (by omega) rfl ?_ | refine WL.ix (i := j + 2) rfl rfl (by omega) (by omega) rfl ?_ | refine WL.ix (i := j + 3) rfl rfl (by omega) (by omega) rfl ?_ | refine WL.ld rfl rfl (hat g0) rfl ?_ | refine WL.ld rfl rfl (hat g1) rfl ?_ | refine WL.ld rfl rfl (hat g2) rfl ?_ | refine WL.ld rfl rfl (hat g3) rfl ?_ | refine WL.bo rfl rfl (and_cont hc5 hc6 _ _) rfl ?_ | refine WL.bo rfl rfl (and_cont hc7 hc8 _ _) rfl ?_ | refine WL.bo rfl rfl (and_cont hc3 hc4 _ _) rfl ?_ | refine WL.p rfl ?_ | refine WC.seq ?_ | refine WC.reg ?_ | refine WC.block ?_ | refine WL.nil ?_ | refine X.sn ?_ | refine X.bn ?_ | refine WC.skip ?_ | refine WL.ad rfl rfl (by omega) rfl ?_ | refine WL.gF rfl rfl (by first | omega | decide) ?_)
            refine X.again (j + 4) ⟨rfl, by omega, by omega, k, h3, by omega⟩ (by omega) ⟨rfl, rfl, trivial⟩
  · have : j = l.length := by omega
    subst this
    have hnil : l.drop l.length = [] := by simp
    rw [hnil] at hk
    have hk0 : k = 0 := by
      cases hk with
      | stop => rfl
      | step h1 h2 _ => simp [mbLen] at h1; omega
    obtain ⟨ad, rfl, hs⟩ := hv.ex
    repeat (first | refine WL.pp rfl ?_ | refine WL.ns ?_ | refine WC.sr ?_ | refine WC.dF rfl (by first | omega | decide) ?_ | refine WC.seq ?_ | refine X.sn ?_ | refine X.sx ?_ | refine X.bx ?_ | refine WC.exit ?_ | refine WC.ret ?_)
    refine X.ret_ rfl rfl ⟨?_, rfl⟩
    have : l.length = i + m := by omega
    rw [this]; rfl
end
end Go.Proofs.YtaccphdkapmdhaaGreat

namespace Go.Proofs.YtaccphdkapmdhaaGreat

/-- A run is found wherever each step of it is. -/
theorem run_of {G : Bs → Bs → Prop} (hstep : ∀ c t o, G (c :: t) o → 128 ≤ c.toNat → ∃ n o', mbLen (c :: t) = n ∧ 0 < n ∧ G ((c :: t).drop n) o' ∧ o = (c :: t).take n ++ o') :
    ∀ (k : Nat) (l o : Bs), l.length ≤ k → G l o → ∃ m o', MR l m ∧ G (l.drop m) o' ∧ o = l.take m ++ o'
  | 0, l, o, hl, h => by
    have : l = [] := List.eq_nil_of_length_eq_zero (by omega)
    subst this
    exact ⟨0, o, .stop (by simp), h, rfl⟩
  | k + 1, [], o, hl, h => ⟨0, o, .stop (by simp), h, rfl⟩
  | k + 1, c :: t, o, hl, h => by
    by_cases hc : 128 ≤ c.toNat
    · obtain ⟨n, o', h1, h2, h3, h4⟩ := hstep c t o h hc
      have := mb_le h1 h2
      obtain ⟨m, o'', h5, h6, h7⟩ := run_of hstep k _ o' (by simp only [List.length_drop, List.length_cons] at *; omega) h3
      refine ⟨n + m, o'', .step h1 h2 h5, by rw [← List.drop_drop]; exact h6, ?_⟩
      rw [h4, h7, ← List.append_assoc, List.take_add]
    · exact ⟨0, o, .stop (fun d hd => by simp at hd; subst hd; omega), h, rfl⟩

theorem signLen_plain {c : UInt8} {t : Bs} (h : 32 ≤ c.toNat ∧ c.toNat < 127 ∨ c.toNat = 9) : signLen (c :: t) = 1 := by
  have : plainB c = true := by unfold plainB; simp; omega
  simp [signLen, this]
theorem signLen_mb {c : UInt8} {t : Bs} (h : 128 ≤ c.toNat) : signLen (c :: t) = mbLen (c :: t) := by
  have : plainB c = false := by unfold plainB; simp; omega
  simp [signLen, this]; omega
theorem signLen_none {c : UInt8} {t : Bs} (h : c.toNat < 32 ∧ c.toNat ≠ 9 ∨ c.toNat = 127) : signLen (c :: t) = 0 := by
  have : plainB c = false := by unfold plainB; simp; omega
  simp [signLen, this]; omega

theorem Cm.plain {c : UInt8} {t r : Bs} (h : Cm (c :: t) r) (hc : 32 ≤ c.toNat ∧ c.toNat < 127 ∨ c.toNat = 9) : Cm t r := by
  cases h with
  | lf => simp at hc
  | crlf => simp at hc
  | sign n h1 h2 h3 =>
    rw [signLen_plain hc] at h1
    subst h1
    exact h3

theorem Cm.mb {c : UInt8} {t r : Bs} (h : Cm (c :: t) r) (hc : 128 ≤ c.toNat) : ∃ n, mbLen (c :: t) = n ∧ 0 < n ∧ Cm ((c :: t).drop n) r := by
  cases h with
  | lf => simp at hc
  | crlf => simp at hc
  | sign n h1 h2 h3 =>
    rw [signLen_mb hc] at h1
    exact ⟨n, h1, h2, h3⟩

theorem Cm.other {c : UInt8} {t r : Bs} (h : Cm (c :: t) r) (h1 : ¬ (32 ≤ c.toNat ∧ c.toNat < 127 ∨ c.toNat = 9)) (h2 : c.toNat < 128) : (c = 10 ∧ r = 10 :: t) ∨ ∃ t', c = 13 ∧ t = 10 :: t' ∧ r = 13 :: 10 :: t' := by
  cases h with
  | lf => exact .inl ⟨rfl, rfl⟩
  | crlf r => exact .inr ⟨r, rfl, rfl, rfl⟩
  | sign n h3 h4 h5 =>
    rw [signLen_none (by omega)] at h3
    omega

theorem Cm.run {l r : Bs} (h : Cm l r) : ∃ m, MR l m ∧ Cm (l.drop m) r := by
  obtain ⟨m, o', h1, h2, _⟩ := run_of (G := fun l o => Cm l r ∧ o = l) (fun c t o ⟨hc, ho⟩ h128 => by
    obtain ⟨n, h1, h2, h3⟩ := hc.mb h128
    exact ⟨n, _, h1, h2, ⟨h3, rfl⟩, by rw [ho, List.take_append_drop]⟩) l.length l l (Nat.le_refl _) ⟨h, rfl⟩
  exact ⟨m, h1, h2.1⟩

theorem MR.pos {c : UInt8} {t : Bs} {m : Nat} (h : MR (c :: t) m) (hc : 128 ≤ c.toNat) : 0 < m := by
  cases h with
  | stop h => have := h c rfl; omega
  | step h1 h2 _ => omega

/-- Eight bytes ahead. -/
theorem eight {l : Bs} {j : Nat} (h : j + 8 ≤ l.length) : ∃ a b c d e f g i t, l.drop j = a :: b :: c :: d :: e :: f :: g :: i :: t ∧ t = l.drop (j + 8) := by
  have hl : 8 ≤ (l.drop j).length := by simp; omega
  rw [← List.drop_drop]
  generalize l.drop j = l' at hl ⊢
  match l', hl with
  | a :: b :: c :: d :: e :: f :: g :: i :: t, _ => exact ⟨a, b, c, d, e, f, g, i, t, rfl, rfl⟩
  | [], h | [_], h | [_, _], h | [_, _, _], h | [_, _, _, _], h | [_, _, _, _, _], h | [_, _, _, _, _, _], h | [_, _, _, _, _, _, _], h => simp at h

theorem le8_lt (a b c d e f g h : UInt8) : le8 a b c d e f g h < 2 ^ 64 := by
  unfold le8 n8
  have := a.toNat_lt; have := b.toNat_lt; have := c.toNat_lt; have := d.toNat_lt; have := e.toNat_lt; have := f.toNat_lt; have := g.toNat_lt; have := h.toNat_lt
  simp only [Nat.reducePow] at *
  omega

theorem or_zero {a b : Nat} (h : a ||| b = 0) : a = 0 ∧ b = 0 := by
  have h1 := @Nat.left_le_or a b
  have h2 := @Nat.right_le_or a b
  omega

/-- What the test of the fast way tells where it says no. -/
theorem fast_of {a b c d e f g h : UInt8} (hz : le8 a b c d e f g h &&& MSB ||| below (le8 a b c d e f g h) 32 = 0) :
    ∀ x ∈ [a, b, c, d, e, f, g, h], 32 ≤ x.toNat ∧ x.toNat < 128 := by
  obtain ⟨h1, h2⟩ := or_zero hz
  have l1 := low_of a.toNat_lt b.toNat_lt c.toNat_lt d.toNat_lt e.toNat_lt f.toNat_lt g.toNat_lt h.toNat_lt h1
  obtain ⟨la, lb, lc, ld, le, lf, lg, lh⟩ := l1
  have e32 : 32 * 72340172838076673 = n8 32 32 32 32 32 32 32 32 := by decide
  unfold below at h2
  rw [e32] at h2
  obtain ⟨ma, mb, mc, md, me, mf, mg, mh⟩ := none_below (n := 32) (by omega) la lb lc ld le lf lg lh h2
  intro x hx
  simp only [List.mem_cons, List.not_mem_nil, or_false] at hx
  rcases hx with rfl | rfl | rfl | rfl | rfl | rfl | rfl | rfl <;> constructor <;> assumption

theorem equal_of {m : Nat} (hm : m < 128) {a b c d e f g h : UInt8} (hlow : ∀ x ∈ [a, b, c, d, e, f, g, h], 32 ≤ x.toNat ∧ x.toNat < 128) (hz : equal8 (le8 a b c d e f g h) m = 0) :
    ∀ x ∈ [a, b, c, d, e, f, g, h], x.toNat ≠ m := by
  have em : m * 72340172838076673 = n8 m m m m m m m m := by unfold n8; omega
  have e1 : 72340172838076673 = n8 1 1 1 1 1 1 1 1 := by decide
  unfold equal8 at hz
  rw [em, e1] at hz
  obtain ⟨ma, mb, mc, md, me, mf, mg, mh⟩ := none_equal hm (hlow a (by simp)).2 (hlow b (by simp)).2 (hlow c (by simp)).2 (hlow d (by simp)).2 (hlow e (by simp)).2 (hlow f (by simp)).2 (hlow g (by simp)).2 (hlow h (by simp)).2 hz
  intro x hx
  simp only [List.mem_cons, List.not_mem_nil, or_false] at hx
  rcases hx with rfl | rfl | rfl | rfl | rfl | rfl | rfl | rfl <;> assumption

section
variable {bd C E : Nat} {dc : Array Value} {fz : Nat × Nat}

set_option maxRecDepth 100000 in
set_option maxHeartbeats 2000000 in
theorem consumeEOL_any (v : Value) (l r : Bs) (w : World) (hv : Suf bd C E dc v l) (hn : Nl l r) (hD : w.heap[bd]? = some (.cells dc 5 fz)) :
    Calls PP 42 #[v] w fun e w' => ∃ v', e = .returned (.tuple #[v', .nilIface]) ∧ Suf bd C E dc v' r ∧ w' = w := by
  have hC := hv.C62
  have hle := hv.le
  have hEC := hv.EC
  cases hn with
  | eof =>
    obtain ⟨ad, rfl, hs⟩ := hv.nil
    refine enter (L := [(0, .slice ad 0 (C - E))]) Tryz.func42 rfl rfl rfl ⟨rfl, trivial⟩ ?_
    repeat (first | refine WL.pp rfl ?_ | refine WL.ns ?_ | refine WC.sr ?_ | refine WC.dT rfl (by first | omega | decide) ?_ | refine WC.seq ?_ | refine X.sr ?_ | refine WC.ret ?_)
    exact X.ret_ rfl rfl ⟨_, rfl, hv, rfl⟩
  | lf =>
    have hval := hv.cons
    subst hval
    have hc := hv.cell hD
    refine enter (L := [(0, .slice (some ⟨bd, E - (r.length + 1), none⟩) (r.length + 1) (C - (E - (r.length + 1))))]) Tryz.func42 rfl rfl rfl ⟨rfl, trivial⟩ ?_
    simp only [List.length_cons] at hle
    repeat (first | refine WL.pp rfl ?_ | refine WL.ns ?_ | refine WC.sr ?_ | refine WC.dT rfl (by first | omega | decide) ?_ | refine WC.dF rfl (by first | omega | decide) ?_ | refine WL.ix (i := 0) rfl rfl rfl (by omega) rfl ?_ | refine WL.ld rfl rfl hc rfl ?_ | refine WC.seq ?_ | refine WC.block ?_ | refine X.sn ?_ | refine WC.skip ?_)
    refine WL.sS r.length 1 rfl rfl (Sf.mk _ _ _) rfl (by simp; omega) (by omega) (fun _ => rfl) (fun ad' hs' => ?_)
    repeat (first | refine WL.pp rfl ?_ | refine WL.ns ?_ | refine X.sr ?_ | refine X.br ?_ | refine WC.ret ?_)
    exact X.ret_ rfl rfl ⟨_, rfl, hv.tail hs', rfl⟩
  | crlf =>
    have hval := hv.cons
    subst hval
    have hc := hv.cell hD
    have hc1 := hv.at hD (i := 1) (c := 10) rfl
    simp only [List.length_cons] at hle hc hc1 hv ⊢
    refine enter (L := [(0, .slice (some ⟨bd, E - (r.length + 1 + 1), none⟩) (r.length + 1 + 1) (C - (E - (r.length + 1 + 1))))]) Tryz.func42 rfl rfl rfl ⟨rfl, trivial⟩ ?_
    repeat (first | refine WL.pp rfl ?_ | refine WL.ns ?_ | refine WC.sr ?_ | refine WC.dT rfl (by first | omega | decide) ?_ | refine WC.dF rfl (by first | omega | decide) ?_ | refine WL.ix (i := 0) rfl rfl rfl (by omega) rfl ?_ | refine WL.ix (i := 1) rfl rfl rfl (by omega) rfl ?_ | refine WL.ld rfl rfl hc rfl ?_ | refine WL.ld rfl rfl hc1 rfl ?_ | refine WL.p rfl ?_ | refine WC.seq ?_ | refine WC.block ?_ | refine X.sn ?_ | refine WC.skip ?_ | refine WL.gT rfl rfl (by first | omega | decide) ?_)
    refine WL.sS r.length 2 rfl rfl (Sf.mk _ _ _) rfl (by simp; omega) (by omega) (fun _ => rfl) (fun ad' hs' => ?_)
    repeat (first | refine WL.pp rfl ?_ | refine WL.ns ?_ | refine X.sr ?_ | refine X.br ?_ | refine WC.ret ?_)
    refine X.ret_ rfl rfl ⟨_, rfl, ?_, rfl⟩
    have := hv.drop 2 (by simp) (by simpa using hs')
    simpa using this

set_option maxRecDepth 100000 in
set_option maxHeartbeats 4000000 in
theorem scanComment_any (v : Value) (l r : Bs) (w : World) (hv : Suf bd C E dc v (35 :: l)) (hn : Cm (35 :: l) r) (hD : w.heap[bd]? = some (.cells dc 5 fz)) :
    Calls PP 41 #[v] w fun e w' => ∃ v1 v2, e = .returned (.tuple #[v1, v2, .nilIface]) ∧ Suf bd C E dc v2 r ∧ Sm w w' := by
  have hC := hv.C62
  have hle := hv.le
  have hEC := hv.EC
  have hval := hv.val (by simp)
  generalize hl : 35 :: l = l0 at *
  have hlen : 0 < l0.length := by rw [← hl]; simp
  have hn1 : Cm (l0.drop 1) r := by subst hl; exact hn.plain (by decide)
  clear hn hl
  subst hval
  refine enter (L := [(0, .slice (some ⟨bd, E - l0.length, none⟩) l0.length (C - (E - l0.length)))]) Tryz.func41 rfl rfl rfl ⟨rfl, trivial⟩ ?_
  repeat (first | refine WL.pp rfl ?_ | refine WL.ns ?_ | refine WC.sr ?_ | refine WC.cut (x := .block _ (.loop _)) (σ := Nat) (fun j w' => Sm w w' ∧ j ≤ l0.length ∧ l0.drop j = r) (fun j => [(0, .slice (some ⟨bd, E - l0.length, none⟩) l0.length (C - (E - l0.length))), (5, .int .i64 (j : Int))]) ?_ ?_ | refine WC.block ?_)
  · refine WC.loop (σ := Nat) (I := fun j w' => Sm w w' ∧ j ≤ l0.length ∧ Cm (l0.drop j) r) (m := fun j => l0.length - j) (Lf := fun j => [(0, .slice (some ⟨bd, E - l0.length, none⟩) l0.length (C - (E - l0.length))), (5, .int .i64 (j : Int))]) 1 ⟨Sm.refl _, by omega, hn1⟩ ⟨rfl, rfl, trivial⟩ ?_
    rintro j w1 ⟨hS1, hj, hcm⟩
    by_cases hlt : j < l0.length
    · repeat (first | refine WL.pp rfl ?_ | refine WL.ns ?_ | refine WC.sr ?_ | refine WC.dT rfl (by first | omega | decide) ?_ | refine WC.cut (x := .block _ (.loop _)) (σ := Nat) (fun i w' => Sm w w' ∧ j ≤ i ∧ i ≤ l0.length ∧ Cm (l0.drop i) r) (fun j => [(0, .slice (some ⟨bd, E - l0.length, none⟩) l0.length (C - (E - l0.length))), (5, .int .i64 (j : Int))]) ?_ ?_ | refine WC.seq ?_ | refine WC.block ?_ | refine X.sn ?_ | refine WC.skip ?_)
      · refine WC.loop (σ := Nat) (I := fun i w' => Sm w w' ∧ j ≤ i ∧ i ≤ l0.length ∧ Cm (l0.drop i) r) (m := fun j => l0.length - j) (Lf := fun j => [(0, .slice (some ⟨bd, E - l0.length, none⟩) l0.length (C - (E - l0.length))), (5, .int .i64 (j : Int))]) j ⟨hS1, Nat.le_refl _, hj, hcm⟩ ⟨rfl, rfl, trivial⟩ ?_
        rintro i w2 ⟨hS2, hji, hi, hcm2⟩
        by_cases h8 : i + 8 ≤ l0.length
        · obtain ⟨x0, x1, x2, x3, x4, x5, x6, x7, t, ht, htd⟩ := eight h8
          have hBA := hv.cells.drop i
          rw [ht] at hBA
          repeat (first | refine WL.pp rfl ?_ | refine WL.ns ?_ | refine WC.sr ?_ | refine WC.dT rfl (by first | omega | decide) ?_ | refine WC.seq ?_ | refine WC.block ?_ | refine X.sn ?_ | refine WC.skip ?_ | refine WL.ad rfl rfl (by omega) rfl ?_)
          refine WL.sS (l0.length - i) i rfl rfl (Sf.mk _ _ _) rfl (by simp; omega) (by omega) (fun _ => rfl) (fun ad' hs' => ?_)
          have had := hs'.addr (by omega)
          subst had
          refine WL.call rfl rfl rfl (leUint64_any w2 (by omega) hBA (hS2.at hD)) ?_
          rintro e w3 ⟨rfl, hS3⟩
          refine ⟨_, _, rfl, rfl, ?_⟩
          have hx := le8_lt x0 x1 x2 x3 x4 x5 x6 x7
          repeat (first | refine WL.pp rfl ?_ | refine WL.ns ?_ | refine WC.sr ?_ | refine WC.seq ?_)
          refine WL.bo rfl rfl (and64 (b := MSB) hx msb_lt _ _) rfl ?_
          repeat (refine WL.pp rfl ?_)
          refine WL.call rfl rfl rfl (hasByteBelow_any _ 32 hx (by omega) w3) ?_
          rintro e w4 ⟨rfl, rfl⟩
          refine ⟨_, _, rfl, rfl, ?_⟩
          refine WL.bo rfl rfl (or64 (Nat.and_lt_two_pow _ msb_lt) (below_lt _ _) _ _) rfl ?_
          repeat (refine WL.pp rfl ?_)
          refine WL.call rfl rfl rfl (hasByteEqual_any _ 127 hx (by omega) w4) ?_
          rintro e w5 ⟨rfl, rfl⟩
          refine ⟨_, _, rfl, rfl, ?_⟩
          refine WL.bo rfl rfl (or64 (Nat.or_lt_two_pow (Nat.and_lt_two_pow _ msb_lt) (below_lt _ _)) (equal8_lt _ _) _ _) rfl ?_
          by_cases hz : le8 x0 x1 x2 x3 x4 x5 x6 x7 &&& MSB ||| below (le8 x0 x1 x2 x3 x4 x5 x6 x7) 32 ||| equal8 (le8 x0 x1 x2 x3 x4 x5 x6 x7) 127 = 0
          · obtain ⟨hz1, hz2⟩ := or_zero hz
            have hf := fast_of hz1
            have hq := equal_of (m := 127) (by omega) hf hz2
            rw [ht] at hcm2
            have step : ∀ {x : UInt8} {t : Bs}, Cm (x :: t) r → 32 ≤ x.toNat ∧ x.toNat < 128 → x.toNat ≠ 127 → Cm t r := fun h h1 h2 => h.plain (.inl ⟨h1.1, by omega⟩)
            have hcm3 := step (step (step (step (step (step (step (step hcm2 (hf x0 (by simp)) (hq x0 (by simp))) (hf x1 (by simp)) (hq x1 (by simp))) (hf x2 (by simp)) (hq x2 (by simp))) (hf x3 (by simp)) (hq x3 (by simp))) (hf x4 (by simp)) (hq x4 (by simp))) (hf x5 (by simp)) (hq x5 (by simp))) (hf x6 (by simp)) (hq x6 (by simp))) (hf x7 (by simp)) (hq x7 (by simp))
            rw [htd] at hcm3
            clear hq hf step hBA
            generalize le8 x0 x1 x2 x3 x4 x5 x6 x7 &&& MSB ||| below (le8 x0 x1 x2 x3 x4 x5 x6 x7) 32 ||| equal8 (le8 x0 x1 x2 x3 x4 x5 x6 x7) 127 = z at hz ⊢
            subst hz
            repeat (first | refine WL.pp rfl ?_ | refine WL.ns ?_ | refine WC.dF rfl (by first | omega | decide) ?_ | refine WC.reg ?_ | refine WL.nil ?_ | refine X.sn ?_ | refine X.bn ?_ | refine WC.skip ?_ | refine WL.ad rfl rfl (by omega) rfl ?_)
            refine X.again (i + 8) ⟨hS2.trans hS3, by omega, h8, hcm3⟩ (by omega) ⟨rfl, rfl, trivial⟩
          · generalize le8 x0 x1 x2 x3 x4 x5 x6 x7 &&& MSB ||| below (le8 x0 x1 x2 x3 x4 x5 x6 x7) 32 ||| equal8 (le8 x0 x1 x2 x3 x4 x5 x6 x7) 127 = z at hz ⊢
            repeat (first | refine WL.pp rfl ?_ | refine WL.ns ?_ | refine WC.dT rfl (by first | omega | decide) ?_ | refine X.sx ?_ | refine X.bx ?_ | refine X.bo rfl ?_ | refine WC.exit ?_)
            refine X.cut i ⟨hS2.trans hS3, hji, hi, hcm2⟩ ⟨rfl, rfl, trivial⟩
        · repeat (first | refine WL.pp rfl ?_ | refine WL.ns ?_ | refine WC.sr ?_ | refine WC.dF rfl (by first | omega | decide) ?_ | refine WC.seq ?_ | refine X.sx ?_ | refine X.bx ?_ | refine WC.exit ?_ | refine WL.ad rfl rfl (by omega) rfl ?_)
          refine X.cut i ⟨hS2, hji, hi, hcm2⟩ ⟨rfl, rfl, trivial⟩
      · clear hcm hj hlt hS1
        rintro i w2 ⟨hS2, hji, hi, hcm2⟩
        by_cases hlt : i < l0.length
        · have hD2 := hS2.at hD
          have hc : l0[i]? = some l0[i] := List.getElem?_eq_getElem hlt
          have hdr : l0.drop i = l0[i] :: l0.drop (i + 1) := List.drop_eq_getElem_cons hlt
          rw [hdr] at hcm2
          have hat := fun {i : Nat} {c : UInt8} (h : l0[i]? = some c) => hv.at hD2 h
          generalize l0[i] = c at hc hcm2 hdr
          by_cases h128 : 128 ≤ c.toNat
          · obtain ⟨m, hm, hcm3⟩ := hcm2.run
            have hpos := hm.pos h128
            rw [← hdr] at hm hcm3
            rw [List.drop_drop] at hcm3
            have hmle := hm.le
            simp only [List.length_drop] at hmle
            repeat (first | refine WL.pp rfl ?_ | refine WL.ns ?_ | refine WC.sr ?_ | refine WC.dT rfl (by first | omega | decide) ?_ | refine WC.dF rfl (by first | omega | decide) ?_ | refine WL.ix (i := i) rfl rfl rfl (by omega) rfl ?_ | refine WL.ld rfl rfl (hat hc) rfl ?_ | refine WC.seq ?_ | refine X.sn ?_ | refine WC.skip ?_)
            refine WL.call rfl rfl rfl (utf8Run_any _ l0 i m w2 hv hi hm hD2) ?_
            rintro e w3 ⟨rfl, rfl⟩
            refine ⟨_, _, rfl, rfl, ?_⟩
            repeat (first | refine WL.pp rfl ?_ | refine WL.ns ?_ | refine WC.sr ?_ | refine WC.bF rfl (by first | with_reducible rfl | exact Bool.not_true) ?_ | refine WC.seq ?_ | refine X.sn ?_ | refine X.sx ?_ | refine X.bx ?_ | refine WC.skip ?_ | refine WC.exit ?_)
            refine X.again (i + m) ⟨hS2, by omega, hcm3⟩ (by omega) ⟨rfl, rfl, trivial⟩
          · by_cases hp : 32 ≤ c.toNat ∧ c.toNat < 127
            · obtain ⟨hp1, hp2⟩ := hp
              repeat (first | refine WL.pp rfl ?_ | refine WL.ns ?_ | refine WC.sr ?_ | refine WC.dT rfl (by first | omega | decide) ?_ | refine WC.dF rfl (by first | omega | decide) ?_ | refine WL.ix (i := i) rfl rfl rfl (by omega) rfl ?_ | refine WL.ld rfl rfl (hat hc) rfl ?_ | refine WL.p rfl ?_ | refine WC.seq ?_ | refine WC.reg ?_ | refine WC.block ?_ | refine WL.nil ?_ | refine X.sn ?_ | refine X.bn ?_ | refine WC.skip ?_ | refine WL.ad rfl rfl (by omega) rfl ?_ | refine WL.gT rfl rfl (by first | omega | decide) ?_)
              refine X.again (i + 1) ⟨hS2, by omega, hcm2.plain (by omega)⟩ (by omega) ⟨rfl, rfl, trivial⟩
            · by_cases h9 : c.toNat = 9
              · repeat (first | refine WL.pp rfl ?_ | refine WL.ns ?_ | refine WC.sr ?_ | refine WC.bF rfl (by first | with_reducible rfl | exact Bool.not_true) ?_ | refine WC.dT rfl (by first | omega | decide) ?_ | refine WC.dF rfl (by first | omega | decide) ?_ | refine WL.ix (i := i) rfl rfl rfl (by omega) rfl ?_ | refine WL.ld rfl rfl (hat hc) rfl ?_ | refine WL.p rfl ?_ | refine WC.seq ?_ | refine WC.reg ?_ | refine WC.block ?_ | refine WL.nil ?_ | refine X.sn ?_ | refine X.bn ?_ | refine WC.skip ?_ | refine WL.ad rfl rfl (by omega) rfl ?_ | refine WL.gF rfl rfl (by first | omega | decide) ?_)
                refine X.again (i + 1) ⟨hS2, by omega, hcm2.plain (by omega)⟩ (by omega) ⟨rfl, rfl, trivial⟩
              · rcases hcm2.other (by omega) (by omega) with ⟨rfl, hr⟩ | ⟨t', rfl, ht, hr⟩
                · repeat (first | refine WL.pp rfl ?_ | refine WL.ns ?_ | refine WC.sr ?_ | refine WC.bF rfl (by first | with_reducible rfl | exact Bool.not_true) ?_ | refine WC.dT rfl (by first | omega | decide) ?_ | refine WC.dF rfl (by first | omega | decide) ?_ | refine WL.ix (i := i) rfl rfl rfl (by omega) rfl ?_ | refine WL.ld rfl rfl (hat hc) rfl ?_ | refine WL.p rfl ?_ | refine WC.seq ?_ | refine WC.block ?_ | refine X.sn ?_ | refine WC.skip ?_ | refine WL.gF rfl rfl (by first | omega | decide) ?_)
                  refine WC.drx (fun _ => True) ?_
                  repeat (refine WX.p (by kernel_rfl) (by first | trivial | assumption) rfl ?_)
                  refine WX.sS i 0 (by kernel_rfl) trivial rfl rfl (Sf.mk _ _ _) rfl (by simp) (by omega) (fun _ => rfl) (fun ad1 hs1 => ?_)
                  repeat (refine WX.p (by kernel_rfl) (by first | trivial | assumption) rfl ?_)
                  refine WX.sS (l0.length - i) i (by kernel_rfl) trivial rfl rfl (Sf.mk _ _ _) rfl (by simp; omega) (by omega) (fun _ => rfl) (fun ad2 hs2 => ?_)
                  repeat (refine WX.p (by kernel_rfl) (by first | trivial | assumption) rfl ?_)
                  refine WX.nil ?_
                  repeat (first | refine X.sn ?_ | refine X.sr ?_ | refine X.br ?_ | refine WC.ret ?_)
                  refine X.ret_ rfl rfl ⟨_, _, rfl, ?_, hS2.drew⟩
                  have := hv.drop i (by omega) hs2
                  rw [hr, ← hdr]; exact this
                · have hc1 : l0[i + 1]? = some 10 := by
                    have := drop_at hdr 1
                    rw [this, ht]; rfl
                  have hlt1 : i + 1 < l0.length := (List.getElem?_eq_some_iff.1 hc1).1
                  repeat (first | refine WL.pp rfl ?_ | refine WL.ns ?_ | refine WC.sr ?_ | refine WC.bF rfl (by first | with_reducible rfl | exact Bool.not_true) ?_ | refine WC.dT rfl (by first | omega | decide) ?_ | refine WC.dF rfl (by first | omega | decide) ?_ | refine WL.ix (i := i) rfl rfl rfl (by omega) rfl ?_ | refine WL.ix (i := i + 1) rfl rfl (by omega) (by omega) rfl ?_ | refine WL.ld rfl rfl (hat hc) rfl ?_ | refine WL.ld rfl rfl (hat hc1) rfl ?_ | refine WL.p rfl ?_ | refine WC.seq ?_ | refine WC.block ?_ | refine X.sn ?_ | refine WC.skip ?_ | refine WL.ad rfl rfl (by omega) rfl ?_ | refine WL.gT rfl rfl (by first | omega | decide) ?_ | refine WL.gF rfl rfl (by first | omega | decide) ?_)
                  refine WC.drx (fun _ => True) ?_
                  repeat (refine WX.p (by kernel_rfl) (by first | trivial | assumption) rfl ?_)
                  refine WX.sS i 0 (by kernel_rfl) trivial rfl rfl (Sf.mk _ _ _) rfl (by simp) (by omega) (fun _ => rfl) (fun ad1 hs1 => ?_)
                  repeat (refine WX.p (by kernel_rfl) (by first | trivial | assumption) rfl ?_)
                  refine WX.sS (l0.length - i) i (by kernel_rfl) trivial rfl rfl (Sf.mk _ _ _) rfl (by simp; omega) (by omega) (fun _ => rfl) (fun ad2 hs2 => ?_)
                  repeat (refine WX.p (by kernel_rfl) (by first | trivial | assumption) rfl ?_)
                  refine WX.nil ?_
                  repeat (first | refine X.sn ?_ | refine X.sr ?_ | refine X.br ?_ | refine WC.ret ?_)
                  refine X.ret_ rfl rfl ⟨_, _, rfl, ?_, hS2.drew⟩
                  have := hv.drop i (by omega) hs2
                  rw [hr, ← ht, ← hdr]; exact this
        · have : i = l0.length := by omega
          subst this
          repeat (first | refine WL.pp rfl ?_ | refine WL.ns ?_ | refine WC.sr ?_ | refine WC.dT rfl (by first | omega | decide) ?_ | refine WC.seq ?_ | refine X.sx ?_ | refine X.bx ?_ | refine X.bo rfl ?_ | refine WC.exit ?_)
          refine X.cut l0.length ⟨hS2, Nat.le_refl _, ?_⟩ ⟨rfl, rfl, trivial⟩
          rw [List.drop_length] at hcm2 ⊢
          cases hcm2 with
          | eof => rfl
          | sign n h1 h2 _ => simp [signLen] at h1; omega
    · have : j = l0.length := by omega
      subst this
      repeat (first | refine WL.pp rfl ?_ | refine WL.ns ?_ | refine WC.sr ?_ | refine WC.dF rfl (by first | omega | decide) ?_ | refine WC.seq ?_ | refine X.sx ?_ | refine X.bx ?_ | refine WC.exit ?_)
      refine X.cut l0.length ⟨hS1, Nat.le_refl _, ?_⟩ ⟨rfl, rfl, trivial⟩
      rw [List.drop_length] at hcm ⊢
      cases hcm with
      | eof => rfl
      | sign n h1 h2 _ => simp [signLen] at h1; omega
  · rintro i w2 ⟨hS2, hi, hr⟩
    repeat (refine WC.seq ?_)
    refine WC.drx (fun _ => True) ?_
    repeat (refine WX.p (by kernel_rfl) (by first | trivial | assumption) rfl ?_)
    refine WX.sS i 0 (by kernel_rfl) trivial rfl rfl (Sf.mk _ _ _) rfl (by simp) (by omega) (fun _ => rfl) (fun ad1 hs1 => ?_)
    repeat (refine WX.p (by kernel_rfl) (by first | trivial | assumption) rfl ?_)
    refine WX.sS (l0.length - i) i (by kernel_rfl) trivial rfl rfl (Sf.mk _ _ _) rfl (by simp; omega) (by omega) (fun _ => rfl) (fun ad2 hs2 => ?_)
    repeat (refine WX.p (by kernel_rfl) (by first | trivial | assumption) rfl ?_)
    refine WX.nil ?_
    repeat (first | refine X.sn ?_ | refine WC.ret ?_)
    refine X.ret_ rfl rfl ⟨_, _, rfl, ?_, hS2.drew⟩
    have := hv.drop i (by omega) hs2
    rw [← hr]; exact this
end
end Go.Proofs.YtaccphdkapmdhaaGreat

namespace Go.Proofs.YtaccphdkapmdhaaGreat

/-- A slice value whose place in the text can be told. -/
def Rg (C E : Nat) (v : Value) : Prop := ∃ ad n cap, v = .slice ad n cap ∧ cap ≤ C ∧ (C - cap) + n ≤ E

/-- A slice value that reads as these bytes, out of a row of bytes. -/
def RB (w : World) (v : Value) (l : Bs) : Prop := ∃ ad cap, v = .slice ad l.length cap ∧ (l ≠ [] → ∃ b o dc fz, ad = some ⟨b, o, none⟩ ∧ w.heap[b]? = some (.cells dc 5 fz) ∧ BA dc o l)

theorem RB.sm {w w' v l} (h : RB w v l) (hs : Sm w w') : RB w' v l := by
  obtain ⟨ad, cap, h1, h2⟩ := h
  refine ⟨ad, cap, h1, fun hl => ?_⟩
  obtain ⟨b, o, dc, fz, h3, h4, h5⟩ := h2 hl
  exact ⟨b, o, dc, fz, h3, hs.at h4, h5⟩

theorem RB.fm {B T w w' v l} (h : RB w v l) (hs : Fm B T w w') (hT : 5 ∉ T) : RB w' v l := by
  obtain ⟨ad, cap, h1, h2⟩ := h
  refine ⟨ad, cap, h1, fun hl => ?_⟩
  obtain ⟨b, o, dc, fz, h3, h4, h5⟩ := h2 hl
  exact ⟨b, o, dc, fz, h3, hs.keep _ _ h4 hT, h5⟩

theorem BA.take {dc o l} (h : BA dc o l) (n : Nat) : BA dc o (l.take n) := fun i c hc => by
  rw [List.getElem?_take] at hc
  split at hc
  · exact h i c hc
  · cases hc

section
variable {bd C E : Nat} {dc : Array Value} {fz : Nat × Nat}

theorem Suf.sub {v l w} (h : Suf bd C E dc v l) (hD : w.heap[bd]? = some (.cells dc 5 fz)) (i n : Nat) (hn : i + n ≤ l.length) {ad' : Option Addr} (hs : Sf bd (E - l.length + i) (C - (E - l.length) - i) ad') :
    RB w (.slice ad' n (C - (E - l.length) - i)) ((l.drop i).take n) := by
  have hlen : ((l.drop i).take n).length = n := by simp; omega
  refine ⟨ad', _, by rw [hlen], fun hne => ?_⟩
  have h0 : 0 < n := by
    rcases Nat.eq_zero_or_pos n with h | h
    · subst h; simp at hne
    · exact h
  have := h.le
  have := h.EC
  exact ⟨bd, _, dc, fz, hs.addr (by omega), hD, (h.cells.drop i).take n⟩

theorem Suf.rg {v l} (h : Suf bd C E dc v l) (i n : Nat) (hn : i + n ≤ l.length) (ad' : Option Addr) : Rg C E (.slice ad' n (C - (E - l.length) - i)) := by
  have := h.le
  have := h.EC
  exact ⟨ad', n, _, rfl, by omega, by omega⟩

theorem SLit.closed {t o r : Bs} (h : SLit (39 :: t) o r) : o = [] ∧ r = t := by
  cases h with
  | close => exact ⟨rfl, rfl⟩
  | sign n h1 _ _ _ => simp at h1

theorem SLit.plain {c : UInt8} {t o r : Bs} (h : SLit (c :: t) o r) (hc : 32 ≤ c.toNat ∧ c.toNat < 127 ∨ c.toNat = 9) (h39 : c.toNat ≠ 39) : ∃ o', SLit t o' r ∧ o = c :: o' := by
  cases h with
  | close => simp at h39
  | sign n h1 h2 h3 h4 =>
    rw [signLen_plain hc] at h2
    subst h2
    exact ⟨_, h4, rfl⟩

theorem SLit.mb {c : UInt8} {t o r : Bs} (h : SLit (c :: t) o r) (hc : 128 ≤ c.toNat) : ∃ n o', mbLen (c :: t) = n ∧ 0 < n ∧ SLit ((c :: t).drop n) o' r ∧ o = (c :: t).take n ++ o' := by
  cases h with
  | close => simp at hc
  | sign n h1 h2 h3 h4 =>
    rw [signLen_mb hc] at h2
    exact ⟨n, _, h2, h3, h4, rfl⟩

theorem SLit.other {c : UInt8} {t o r : Bs} (h : SLit (c :: t) o r) (h1 : ¬ (32 ≤ c.toNat ∧ c.toNat < 127 ∨ c.toNat = 9)) : 128 ≤ c.toNat := by
  cases h with
  | close => simp at h1
  | sign n h3 h4 h5 h6 =>
    apply Classical.byContradiction
    intro hh
    rw [signLen_none (by omega)] at h4
    omega

theorem SLit.nil {o r : Bs} (h : SLit [] o r) : False := by
  cases h with
  | sign n h1 h2 h3 => simp [signLen] at h2; omega

theorem SLit.run {l o r : Bs} (h : SLit l o r) : ∃ m o', MR l m ∧ SLit (l.drop m) o' r ∧ o = l.take m ++ o' :=
  run_of (G := fun l o => SLit l o r) (fun _ _ _ h h128 => h.mb h128) l.length l o (Nat.le_refl _) h

/-- What has been taken so far: from place 1 on. -/
theorem taken_step {l0 out o' : Bs} {i m : Nat} (h : out = (l0.take i).drop 1 ++ ((l0.drop i).take m ++ o')) (h1 : 1 ≤ i) (hi : i ≤ l0.length) : out = (l0.take (i + m)).drop 1 ++ o' := by
  rw [h, ← List.append_assoc]
  congr 1
  rw [List.take_add, List.drop_append, List.length_take]
  have : 1 - min i l0.length = 0 := by omega
  rw [this, List.drop_zero]

theorem taken_one {l0 out o' t : Bs} {c : UInt8} {i : Nat} (h : out = (l0.take i).drop 1 ++ (c :: o')) (h1 : 1 ≤ i) (hi : i ≤ l0.length) (hd : l0.drop i = c :: t) : out = (l0.take (i + 1)).drop 1 ++ o' :=
  taken_step (m := 1) (by rw [hd]; exact h) h1 hi

theorem taken_eight {l0 out o' t : Bs} {a b c d e f g k : UInt8} {i : Nat} (h : out = (l0.take i).drop 1 ++ (a :: b :: c :: d :: e :: f :: g :: k :: o')) (h1 : 1 ≤ i) (hi : i ≤ l0.length) (hd : l0.drop i = a :: b :: c :: d :: e :: f :: g :: k :: t) :
    out = (l0.take (i + 8)).drop 1 ++ o' :=
  taken_step (m := 8) (by rw [hd]; exact h) h1 hi

theorem SLit.eight {x0 x1 x2 x3 x4 x5 x6 x7 : UInt8} {t o r : Bs} (h : SLit (x0 :: x1 :: x2 :: x3 :: x4 :: x5 :: x6 :: x7 :: t) o r)
    (hp : ∀ x ∈ [x0, x1, x2, x3, x4, x5, x6, x7], 32 ≤ x.toNat ∧ x.toNat < 128) (hq : ∀ x ∈ [x0, x1, x2, x3, x4, x5, x6, x7], x.toNat ≠ 127) (hs : ∀ x ∈ [x0, x1, x2, x3, x4, x5, x6, x7], x.toNat ≠ 39) :
    ∃ o', SLit t o' r ∧ o = x0 :: x1 :: x2 :: x3 :: x4 :: x5 :: x6 :: x7 :: o' := by
  have step : ∀ {x : UInt8} {t o : Bs}, SLit (x :: t) o r → 32 ≤ x.toNat ∧ x.toNat < 128 → x.toNat ≠ 127 → x.toNat ≠ 39 → ∃ o', SLit t o' r ∧ o = x :: o' := fun h h1 h2 h3 => h.plain (.inl ⟨h1.1, by omega⟩) h3
  obtain ⟨o0, g0, rfl⟩ := step h (hp x0 (by simp)) (hq x0 (by simp)) (hs x0 (by simp))
  obtain ⟨o1, g1, rfl⟩ := step g0 (hp x1 (by simp)) (hq x1 (by simp)) (hs x1 (by simp))
  obtain ⟨o2, g2, rfl⟩ := step g1 (hp x2 (by simp)) (hq x2 (by simp)) (hs x2 (by simp))
  obtain ⟨o3, g3, rfl⟩ := step g2 (hp x3 (by simp)) (hq x3 (by simp)) (hs x3 (by simp))
  obtain ⟨o4, g4, rfl⟩ := step g3 (hp x4 (by simp)) (hq x4 (by simp)) (hs x4 (by simp))
  obtain ⟨o5, g5, rfl⟩ := step g4 (hp x5 (by simp)) (hq x5 (by simp)) (hs x5 (by simp))
  obtain ⟨o6, g6, rfl⟩ := step g5 (hp x6 (by simp)) (hq x6 (by simp)) (hs x6 (by simp))
  obtain ⟨o7, g7, rfl⟩ := step g6 (hp x7 (by simp)) (hq x7 (by simp)) (hs x7 (by simp))
  exact ⟨o7, g7, rfl⟩

set_option maxRecDepth 100000 in
set_option maxHeartbeats 4000000 in
theorem literal_any (p v : Value) (l out r : Bs) (w : World) (hv : Suf bd C E dc v (39 :: l)) (hn : SLit l out r) (hD : w.heap[bd]? = some (.cells dc 5 fz)) :
    Calls PP 119 #[p, v] w fun e w' => ∃ v1 v2 v3, e = .returned (.tuple #[v1, v2, v3, .nilIface]) ∧ Rg C E v1 ∧ RB w' v2 out ∧ Suf bd C E dc v3 r ∧ Sm w w' := by
  have hC := hv.C62
  have hle := hv.le
  have hEC := hv.EC
  have hval := hv.val (by simp)
  generalize hl : 39 :: l = l0 at *
  have hlen : 0 < l0.length := by rw [← hl]; simp
  have hn1 : SLit (l0.drop 1) out r ∧ out = (l0.take 1).drop 1 ++ out := by subst hl; exact ⟨hn, by simp⟩
  clear hn hl
  subst hval
  refine enter (L := [(0, p), (1, .slice (some ⟨bd, E - l0.length, none⟩) l0.length (C - (E - l0.length)))]) Tryz.func119 rfl rfl rfl ⟨rfl, rfl, trivial⟩ ?_
  repeat (first | refine WL.pp rfl ?_ | refine WL.ns ?_ | refine WC.sr ?_ | refine WC.block ?_)
  refine WC.loop (σ := Nat) (I := fun j w' => Sm w w' ∧ 1 ≤ j ∧ j ≤ l0.length ∧ ∃ o', SLit (l0.drop j) o' r ∧ out = (l0.take j).drop 1 ++ o') (m := fun j => l0.length - j) (Lf := fun j => [(1, .slice (some ⟨bd, E - l0.length, none⟩) l0.length (C - (E - l0.length))), (8, .int .i64 (j : Int))]) 1 ⟨Sm.refl _, Nat.le_refl _, by omega, _, hn1⟩ ⟨rfl, rfl, trivial⟩ ?_
  rintro j w1 ⟨hS1, hj1, hj, hcm⟩
  repeat (first | refine WC.cut (x := .block _ (.loop _)) (σ := Nat) (fun i w' => Sm w w' ∧ j ≤ i ∧ i ≤ l0.length ∧ ∃ o', SLit (l0.drop i) o' r ∧ out = (l0.take i).drop 1 ++ o') (fun j => [(1, .slice (some ⟨bd, E - l0.length, none⟩) l0.length (C - (E - l0.length))), (8, .int .i64 (j : Int))]) ?_ ?_ | refine WC.block ?_)
  · refine WC.loop (σ := Nat) (I := fun i w' => Sm w w' ∧ j ≤ i ∧ i ≤ l0.length ∧ ∃ o', SLit (l0.drop i) o' r ∧ out = (l0.take i).drop 1 ++ o') (m := fun j => l0.length - j) (Lf := fun j => [(1, .slice (some ⟨bd, E - l0.length, none⟩) l0.length (C - (E - l0.length))), (8, .int .i64 (j : Int))]) j ⟨hS1, Nat.le_refl _, hj, hcm⟩ ⟨rfl, rfl, trivial⟩ ?_
    clear hcm
    rintro i w2 ⟨hS2, hji, hi, o', hcm2, hout⟩
    by_cases h8 : i + 8 ≤ l0.length
    · obtain ⟨x0, x1, x2, x3, x4, x5, x6, x7, t, ht, htd⟩ := eight h8
      have hBA := hv.cells.drop i
      rw [ht] at hBA
      repeat (first | refine WL.pp rfl ?_ | refine WL.ns ?_ | refine WC.sr ?_ | refine WC.dT rfl (by first | omega | decide) ?_ | refine WC.seq ?_ | refine WC.block ?_ | refine X.sn ?_ | refine WC.skip ?_ | refine WL.ad rfl rfl (by omega) rfl ?_)
      refine WL.sS (l0.length - i) i rfl rfl (Sf.mk _ _ _) rfl (by simp; omega) (by omega) (fun _ => rfl) (fun ad' hs' => ?_)
      have had := hs'.addr (by omega)
      subst had
      refine WL.call rfl rfl rfl (leUint64_any w2 (by omega) hBA (hS2.at hD)) ?_
      rintro e w3 ⟨rfl, hS3⟩
      refine ⟨_, _, rfl, rfl, ?_⟩
      have hx := le8_lt x0 x1 x2 x3 x4 x5 x6 x7
      repeat (first | refine WL.pp rfl ?_ | refine WL.ns ?_ | refine WC.sr ?_ | refine WC.seq ?_)
      refine WL.bo rfl rfl (and64 (b := MSB) hx msb_lt _ _) rfl ?_
      repeat (refine WL.pp rfl ?_)
      refine WL.call rfl rfl rfl (hasByteBelow_any _ 32 hx (by omega) w3) ?_
      rintro e w4 ⟨rfl, rfl⟩
      refine ⟨_, _, rfl, rfl, ?_⟩
      refine WL.bo rfl rfl (or64 (Nat.and_lt_two_pow _ msb_lt) (below_lt _ _) _ _) rfl ?_
      repeat (refine WL.pp rfl ?_)
      refine WL.call rfl rfl rfl (hasByteEqual_any _ 39 hx (by omega) w4) ?_
      rintro e w5 ⟨rfl, rfl⟩
      refine ⟨_, _, rfl, rfl, ?_⟩
      refine WL.bo rfl rfl (or64 (Nat.or_lt_two_pow (Nat.and_lt_two_pow _ msb_lt) (below_lt _ _)) (equal8_lt _ _) _ _) rfl ?_
      repeat (refine WL.pp rfl ?_)
      refine WL.call rfl rfl rfl (hasByteEqual_any _ 127 hx (by omega) w5) ?_
      rintro e w6 ⟨rfl, rfl⟩
      refine ⟨_, _, rfl, rfl, ?_⟩
      refine WL.bo rfl rfl (or64 (Nat.or_lt_two_pow (Nat.or_lt_two_pow (Nat.and_lt_two_pow _ msb_lt) (below_lt _ _)) (equal8_lt _ _)) (equal8_lt _ _) _ _) rfl ?_
      by_cases hz : le8 x0 x1 x2 x3 x4 x5 x6 x7 &&& MSB ||| below (le8 x0 x1 x2 x3 x4 x5 x6 x7) 32 ||| equal8 (le8 x0 x1 x2 x3 x4 x5 x6 x7) 39 ||| equal8 (le8 x0 x1 x2 x3 x4 x5 x6 x7) 127 = 0
      · obtain ⟨hz1, hz2⟩ := or_zero hz
        obtain ⟨hz1, hz3⟩ := or_zero hz1
        have hf := fast_of hz1
        have hq := equal_of (m := 127) (by omega) hf hz2
        have hq2 := equal_of (m := 39) (by omega) hf hz3
        rw [ht] at hcm2
        obtain ⟨o'', hcm3, rfl⟩ := hcm2.eight hf hq hq2
        have hout3 := taken_eight hout (by omega) hi ht
        rw [htd] at hcm3
        clear hq hf hq2 hBA
        generalize le8 x0 x1 x2 x3 x4 x5 x6 x7 &&& MSB ||| below (le8 x0 x1 x2 x3 x4 x5 x6 x7) 32 ||| equal8 (le8 x0 x1 x2 x3 x4 x5 x6 x7) 39 ||| equal8 (le8 x0 x1 x2 x3 x4 x5 x6 x7) 127 = z at hz ⊢
        subst hz
        repeat (first | refine WL.pp rfl ?_ | refine WL.ns ?_ | refine WC.dF rfl (by first | omega | decide) ?_ | refine WC.reg ?_ | refine WL.nil ?_ | refine X.sn ?_ | refine X.bn ?_ | refine WC.skip ?_ | refine WL.ad rfl rfl (by omega) rfl ?_)
        refine X.again (i + 8) ⟨hS2.trans hS3, by omega, h8, _, hcm3, hout3⟩ (by omega) ⟨rfl, rfl, trivial⟩
      · generalize le8 x0 x1 x2 x3 x4 x5 x6 x7 &&& MSB ||| below (le8 x0 x1 x2 x3 x4 x5 x6 x7) 32 ||| equal8 (le8 x0 x1 x2 x3 x4 x5 x6 x7) 39 ||| equal8 (le8 x0 x1 x2 x3 x4 x5 x6 x7) 127 = z at hz ⊢
        repeat (first | refine WL.pp rfl ?_ | refine WL.ns ?_ | refine WC.dT rfl (by first | omega | decide) ?_ | refine X.sx ?_ | refine X.bx ?_ | refine X.bo rfl ?_ | refine WC.exit ?_)
        refine X.cut i ⟨hS2.trans hS3, hji, hi, _, hcm2, hout⟩ ⟨rfl, rfl, trivial⟩
    · repeat (first | refine WL.pp rfl ?_ | refine WL.ns ?_ | refine WC.sr ?_ | refine WC.dF rfl (by first | omega | decide) ?_ | refine WC.seq ?_ | refine X.sx ?_ | refine X.bx ?_ | refine WC.exit ?_ | refine WL.ad rfl rfl (by omega) rfl ?_)
      refine X.cut i ⟨hS2, hji, hi, _, hcm2, hout⟩ ⟨rfl, rfl, trivial⟩
  · clear hcm hj hS1
    rintro i w2 ⟨hS2, hji, hi, o', hcm2, hout⟩
    by_cases hlt : i < l0.length
    · have hD2 := hS2.at hD
      have hc : l0[i]? = some l0[i] := List.getElem?_eq_getElem hlt
      have hdr : l0.drop i = l0[i] :: l0.drop (i + 1) := List.drop_eq_getElem_cons hlt
      rw [hdr] at hcm2
      have hat := fun {i : Nat} {c : UInt8} (h : l0[i]? = some c) => hv.at hD2 h
      generalize l0[i] = c at hc hcm2 hdr
      by_cases h128 : 128 ≤ c.toNat
      · obtain ⟨m, o'', hm, hcm3, rfl⟩ := hcm2.run
        have hpos := hm.pos h128
        rw [← hdr] at hm hcm3 hout
        rw [List.drop_drop] at hcm3
        have hmle := hm.le
        simp only [List.length_drop] at hmle
        have hout3 := taken_step hout (by omega) hi
        repeat (first | refine WL.pp rfl ?_ | refine WL.ns ?_ | refine WC.sr ?_ | refine WC.dF rfl (by first | omega | decide) ?_ | refine WL.ix (i := i) rfl rfl rfl (by omega) rfl ?_ | refine WL.ld rfl rfl (hat hc) rfl ?_ | refine WL.p rfl ?_ | refine WC.seq ?_ | refine WC.block ?_ | refine X.sn ?_ | refine WC.skip ?_ | refine WL.gT rfl rfl (by first | omega | decide) ?_ | refine WL.gF rfl rfl (by first | omega | decide) ?_)
        refine WL.call rfl rfl rfl (utf8Run_any _ l0 i m w2 hv hi hm hD2) ?_
        rintro e w3 ⟨rfl, rfl⟩
        refine ⟨_, _, rfl, rfl, ?_⟩
        repeat (first | refine WL.pp rfl ?_ | refine WL.ns ?_ | refine WC.sr ?_ | refine WC.bF rfl (by first | with_reducible rfl | exact Bool.not_true) ?_ | refine X.bn ?_ | refine WC.skip ?_)
        refine X.again (i + m) ⟨hS2, by omega, by omega, _, hcm3, hout3⟩ (by omega) ⟨rfl, rfl, trivial⟩
      · by_cases h39 : c.toNat = 39
        · have h39' : c = 39 := UInt8.toNat_inj.1 h39
          subst h39'
          obtain ⟨rfl, hr⟩ := hcm2.closed
          repeat (first | refine WL.pp rfl ?_ | refine WL.ns ?_ | refine WC.sr ?_ | refine WC.dT rfl (by first | omega | decide) ?_ | refine WC.dF rfl (by first | omega | decide) ?_ | refine WL.ix (i := i) rfl rfl rfl (by omega) rfl ?_ | refine WL.ld rfl rfl (hat hc) rfl ?_ | refine WC.seq ?_ | refine WC.block ?_ | refine X.sn ?_ | refine WC.skip ?_)
          refine WC.drx (fun _ => True) ?_
          repeat (first | refine WX.p (by kernel_rfl) (by first | trivial | assumption) rfl ?_ | refine WX.ad (by kernel_rfl) (by first | trivial | assumption) rfl rfl (by omega) rfl ?_)
          refine WX.sS (i + 1) 0 (by kernel_rfl) trivial rfl rfl (Sf.mk _ _ _) rfl (by simp) (by omega) (fun _ => rfl) (fun ad1 hs1 => ?_)
          repeat (refine WX.p (by kernel_rfl) (by first | trivial | assumption) rfl ?_)
          refine WX.sS (i - 1) 1 (by kernel_rfl) trivial rfl rfl (Sf.mk _ _ _) rfl (by simp; omega) (by omega) (fun _ => rfl) (fun ad2 hs2 => ?_)
          repeat (first | refine WX.p (by kernel_rfl) (by first | trivial | assumption) rfl ?_ | refine WX.ad (by kernel_rfl) (by first | trivial | assumption) rfl rfl (by omega) rfl ?_)
          refine WX.sS (l0.length - (i + 1)) (i + 1) (by kernel_rfl) trivial rfl rfl (Sf.mk _ _ _) (by simp) (by simp; omega) (by omega) (fun _ => rfl) (fun ad3 hs3 => ?_)
          repeat (refine WX.p (by kernel_rfl) (by first | trivial | assumption) rfl ?_)
          refine WX.nil ?_
          repeat (first | refine X.sn ?_ | refine X.sr ?_ | refine X.br ?_ | refine WC.ret ?_)
          refine X.ret_ rfl rfl ⟨_, _, _, rfl, hv.rg 0 (i + 1) (by omega) _, ?_, ?_, hS2.drew⟩
          · have := hv.sub (w := w2.drew) hD2 1 (i - 1) (by omega) hs2
            have e : (l0.drop 1).take (i - 1) = out := by rw [hout, List.append_nil, List.drop_take]
            rw [e] at this; exact this
          · have := hv.drop (i + 1) (by omega) hs3
            rw [hr]
            exact this
        · by_cases hp : 32 ≤ c.toNat ∧ c.toNat < 127 ∨ c.toNat = 9
          · obtain ⟨o'', hcm3, rfl⟩ := hcm2.plain hp h39
            have hout3 := taken_one hout (by omega) hi hdr
            rcases hp with ⟨hp1, hp2⟩ | hp
            all_goals
              repeat (first | refine WL.pp rfl ?_ | refine WL.ns ?_ | refine WC.sr ?_ | refine WC.bF rfl (by first | with_reducible rfl | exact Bool.not_true) ?_ | refine WC.dT rfl (by first | omega | decide) ?_ | refine WC.dF rfl (by first | omega | decide) ?_ | refine WL.ix (i := i) rfl rfl rfl (by omega) rfl ?_ | refine WL.ld rfl rfl (hat hc) rfl ?_ | refine WL.p rfl ?_ | refine WC.seq ?_ | refine WC.reg ?_ | refine WC.block ?_ | refine WL.nil ?_ | refine X.sn ?_ | refine X.bn ?_ | refine WC.skip ?_ | refine WL.ad rfl rfl (by omega) rfl ?_ | refine WL.gT rfl rfl (by first | omega | decide) ?_ | refine WL.gF rfl rfl (by first | omega | decide) ?_)
              refine X.again (i + 1) ⟨hS2, by omega, by omega, _, hcm3, hout3⟩ (by omega) ⟨rfl, rfl, trivial⟩
          · exact absurd (hcm2.other hp) (by omega)
    · have : i = l0.length := by omega
      subst this
      rw [List.drop_length] at hcm2
      exact (hcm2.nil).elim
end
end Go.Proofs.YtaccphdkapmdhaaGreat

namespace Go.Proofs.YtaccphdkapmdhaaGreat

theorem wrap8 (n : Nat) : IntKind.u8.wrap (n : Int) = ((n % 256 : Nat) : Int) := by
  have e : IntKind.u8.wrap (n : Int) = (n : Int) % 256 := by simp [IntKind.wrap, IntKind.bits, IntKind.signed]
  rw [e]; omega
theorem and63 (n t : Nat) (w : World) : (binOp .and t (.int .u8 ((n % 256 : Nat) : Int)) (.int .u8 63)).run PP w = .ok (.int .u8 ((n % 64 : Nat) : Int)) w := by
  have h := and8 (a := n % 256) (b := 63) (by omega) (by omega) t w
  rw [show n % 256 &&& 63 = n % 64 by rw [show (63 : Nat) = 2 ^ 6 - 1 by rfl, Nat.and_two_pow_sub_one_eq_mod]; omega] at h
  exact h
set_option maxRecDepth 10000 in
theorem or_128 {n : Nat} (h : n < 64) : 128 ||| n = 128 + n := by
  have key : ∀ m : Fin 64, 128 ||| m.val = 128 + m.val := by decide
  exact key ⟨n, h⟩
theorem or_192 {n : Nat} (h : n < 32) : 192 ||| n = 192 + n := by
  have key : ∀ m : Fin 32, 192 ||| m.val = 192 + m.val := by decide
  exact key ⟨n, h⟩
theorem or_224 {n : Nat} (h : n < 16) : 224 ||| n = 224 + n := by
  have key : ∀ m : Fin 16, 224 ||| m.val = 224 + m.val := by decide
  exact key ⟨n, h⟩
theorem or_240 {n : Nat} (h : n < 8) : 240 ||| n = 240 + n := by
  have key : ∀ m : Fin 8, 240 ||| m.val = 240 + m.val := by decide
  exact key ⟨n, h⟩
theorem or128 (n t : Nat) (w : World) : (binOp .or t (.int .u8 128) (.int .u8 ((n % 64 : Nat) : Int))).run PP w = .ok (.int .u8 ((128 + n % 64 : Nat) : Int)) w := or8 (a := 128) (by omega) (by omega) (or_128 (by omega)) t w
theorem or192 {n : Nat} (h : n < 32) (t : Nat) (w : World) : (binOp .or t (.int .u8 192) (.int .u8 (n : Int))).run PP w = .ok (.int .u8 ((192 + n : Nat) : Int)) w := or8 (a := 192) (by omega) (by omega) (or_192 h) t w
theorem or224 {n : Nat} (h : n < 16) (t : Nat) (w : World) : (binOp .or t (.int .u8 224) (.int .u8 (n : Int))).run PP w = .ok (.int .u8 ((224 + n : Nat) : Int)) w := or8 (a := 224) (by omega) (by omega) (or_224 h) t w
theorem or240 {n : Nat} (h : n < 8) (t : Nat) (w : World) : (binOp .or t (.int .u8 240) (.int .u8 (n : Int))).run PP w = .ok (.int .u8 ((240 + n : Nat) : Int)) w := or8 (a := 240) (by omega) (by omega) (or_240 h) t w

theorem u8_ofNat {n : Nat} (h : n < 256) : u8 (UInt8.ofNat n) = .int .u8 (n : Int) := by
  unfold u8
  rw [UInt8.toNat_ofNat', Nat.mod_eq_of_lt (by omega)]

theorem utf8_1 {r : Nat} (h : r < 128) : (utf8 r).map u8 = [.int .u8 (r : Int)] := by
  simp only [utf8, if_pos h, List.map_cons, List.map_nil, u8_ofNat (show r < 256 by omega)]
theorem utf8_2 {r : Nat} (h : 128 ≤ r) (h2 : r < 2048) : (utf8 r).map u8 = [.int .u8 ((192 + r / 2 ^ 6 : Nat) : Int), .int .u8 ((128 + r % 64 : Nat) : Int)] := by
  simp only [utf8, if_neg (show ¬ r < 0x80 by omega), if_pos (show r < 0x800 by omega), List.map_cons, List.map_nil]
  rw [u8_ofNat (by omega), u8_ofNat (by omega)]
theorem utf8_3 {r : Nat} (h : 2048 ≤ r) (h2 : r < 65536) : (utf8 r).map u8 = [.int .u8 ((224 + r / 2 ^ 12 : Nat) : Int), .int .u8 ((128 + r / 2 ^ 6 % 64 : Nat) : Int), .int .u8 ((128 + r % 64 : Nat) : Int)] := by
  simp only [utf8, if_neg (show ¬ r < 0x80 by omega), if_neg (show ¬ r < 0x800 by omega), if_pos (show r < 0x10000 by omega), List.map_cons, List.map_nil]
  rw [u8_ofNat (by omega), u8_ofNat (by omega), u8_ofNat (by omega)]
theorem utf8_4 {r : Nat} (h : 65536 ≤ r) (h2 : r < 1114112) : (utf8 r).map u8 = [.int .u8 ((240 + r / 2 ^ 18 : Nat) : Int), .int .u8 ((128 + r / 2 ^ 12 % 64 : Nat) : Int), .int .u8 ((128 + r / 2 ^ 6 % 64 : Nat) : Int), .int .u8 ((128 + r % 64 : Nat) : Int)] := by
  simp only [utf8, if_neg (show ¬ r < 0x80 by omega), if_neg (show ¬ r < 0x800 by omega), if_neg (show ¬ r < 0x10000 by omega), List.map_cons, List.map_nil]
  rw [u8_ofNat (by omega), u8_ofNat (by omega), u8_ofNat (by omega), u8_ofNat (by omega)]
theorem utf8_len (r : Nat) : (utf8 r).length ≤ 4 := by unfold utf8; split <;> (try split) <;> (try split) <;> simp

attribute [local irreducible] binOp IntKind.wrap Sem.run

theorem alist {l : List Value} {a : Array Value} (h : l = a.toList) : a = l.toArray := by subst h; simp

set_option maxRecDepth 100000 in
set_option maxHeartbeats 4000000 in
theorem runeMore_any (B : Nat) (v : Value) (l : Bs) (r : Nat) (w : World) (hr : okRune r) (h128 : 128 ≤ r) (hO : Ob B w v l) (hm : l.length ≤ 1000000000) (hB : B ≤ w.heap.size) :
    Calls PP 149 #[v, .int .i32 (r : Int)] w fun e w' => ∃ v', e = .returned v' ∧ Ob B w' v' (l ++ utf8 r) ∧ Up B w w' := by
  obtain ⟨hr1, hr2⟩ := hr
  refine enter (L := [(0, v), (1, .int .i32 (r : Int))]) Tryz.func149 rfl rfl rfl ⟨rfl, rfl, trivial⟩ ?_
  rcases Nat.lt_or_ge r 2048 with h1 | h1
  · repeat (first | refine WL.pp rfl ?_ | refine WL.ns ?_ | refine WC.sr ?_ | refine WC.dT rfl (by first | omega | decide) ?_ | refine WL.bo rfl rfl (shr32 r 6 (by omega) _ _) rfl ?_ | refine WL.cz rfl rfl (wrap8 r) rfl ?_ | refine WL.bo rfl rfl (and63 _ _ _) rfl ?_ | refine WL.bo rfl rfl (or128 _ _ _) rfl ?_ | refine WL.bo rfl rfl (or192 (by omega) _ _) rfl ?_ | refine WC.block ?_ | refine WL.cv rfl rfl (wrap_u32 (by omega)) rfl ?_ | refine WL.cv rfl rfl (wrap_u8 (by omega)) rfl ?_)
    refine WL.bs rfl rfl (bs2 _ _) rfl (fun w1 hA => ?_)
    have hu := hA.up hB
    refine WL.apn (utf8 r) rfl rfl (hO.upS (hA.up (Nat.le_refl _))) (by have := congrArg List.length (utf8_2 h128 h1); simpa using this) hA.at_ (alist (utf8_2 h128 h1)) (by omega) (Nat.le_trans hB hu.size) (fun v' w2 h4 h5 => ⟨_, rfl, ?_⟩)
    repeat (first | refine WL.pp rfl ?_ | refine WL.ns ?_ | refine X.br ?_ | refine WC.ret ?_)
    exact X.ret_ rfl rfl ⟨_, rfl, h4, hu.trans h5⟩
  · have key : (2048 ≤ r ∧ r < 55296) ∨ (57343 < r ∧ r < 65536) ∨ 65536 ≤ r := by omega
    rcases key with h2 | h2 | h2
    case inr.inr =>
      repeat (first | refine WL.pp rfl ?_ | refine WL.ns ?_ | refine WC.sr ?_ | refine WC.dT rfl (by first | omega | decide) ?_ | refine WC.dF rfl (by first | omega | decide) ?_ | refine WL.bo rfl rfl (shr32 r 6 (by omega) _ _) rfl ?_ | refine WL.bo rfl rfl (shr32 r 12 (by omega) _ _) rfl ?_ | refine WL.bo rfl rfl (shr32 r 18 (by omega) _ _) rfl ?_ | refine WL.bo rfl rfl (and63 _ _ _) rfl ?_ | refine WL.bo rfl rfl (or128 _ _ _) rfl ?_ | refine WL.bo rfl rfl (or240 (by omega) _ _) rfl ?_ | refine WL.cz rfl rfl (wrap8 r) rfl ?_ | refine WL.cz rfl rfl (wrap8 (r / 2 ^ 6)) rfl ?_ | refine WL.cz rfl rfl (wrap8 (r / 2 ^ 12)) rfl ?_ | refine WL.p rfl ?_ | refine WC.seq ?_ | refine WC.reg ?_ | refine WC.block ?_ | refine WL.gT rfl rfl (by first | omega | decide) ?_ | refine WL.cv rfl rfl (wrap_u32 (by omega)) rfl ?_ | refine WL.cv rfl rfl (wrap_u8 (by omega)) rfl ?_)
      refine WL.bs rfl rfl (bs4 _ _ _ _) rfl (fun w1 hA => ?_)
      have hu := hA.up hB
      refine WL.apn (utf8 r) rfl rfl (hO.upS (hA.up (Nat.le_refl _))) (by have := congrArg List.length (utf8_4 h2 (by omega)); simpa using this) hA.at_ (alist (utf8_4 h2 (by omega))) (by omega) (Nat.le_trans hB hu.size) (fun v' w2 h4 h5 => ⟨_, rfl, ?_⟩)
      repeat (first | refine WL.pp rfl ?_ | refine WL.ns ?_ | refine X.br ?_ | refine WC.ret ?_)
      exact X.ret_ rfl rfl ⟨_, rfl, h4, hu.trans h5⟩
    all_goals
      repeat (first | refine WL.pp rfl ?_ | refine WL.ns ?_ | refine WC.sr ?_ | refine WC.dT rfl (by first | omega | decide) ?_ | refine WC.dF rfl (by first | omega | decide) ?_ | refine WL.bo rfl rfl (shr32 r 6 (by omega) _ _) rfl ?_ | refine WL.bo rfl rfl (shr32 r 12 (by omega) _ _) rfl ?_ | refine WL.bo rfl rfl (and63 _ _ _) rfl ?_ | refine WL.bo rfl rfl (or128 _ _ _) rfl ?_ | refine WL.bo rfl rfl (or224 (by omega) _ _) rfl ?_ | refine WL.cz rfl rfl (wrap8 r) rfl ?_ | refine WL.cz rfl rfl (wrap8 (r / 2 ^ 6)) rfl ?_ | refine WL.p rfl ?_ | refine WC.seq ?_ | refine WC.reg ?_ | refine WC.block ?_ | refine X.sn ?_ | refine WC.skip ?_ | refine WL.gT rfl rfl (by first | omega | decide) ?_ | refine WL.cv rfl rfl (wrap_u32 (by omega)) rfl ?_ | refine WL.cv rfl rfl (wrap_u8 (by omega)) rfl ?_)
      refine WL.bs rfl rfl (bs3 _ _ _) rfl (fun w1 hA => ?_)
      have hu := hA.up hB
      refine WL.apn (utf8 r) rfl rfl (hO.upS (hA.up (Nat.le_refl _))) (by have := congrArg List.length (utf8_3 (r := r) (by omega) (by omega)); simpa using this) hA.at_ (alist (utf8_3 (by omega) (by omega))) (by omega) (Nat.le_trans hB hu.size) (fun v' w2 h4 h5 => ⟨_, rfl, ?_⟩)
      repeat (first | refine WL.pp rfl ?_ | refine WL.ns ?_ | refine X.br ?_ | refine WC.ret ?_)
      exact X.ret_ rfl rfl ⟨_, rfl, h4, hu.trans h5⟩

set_option maxRecDepth 100000 in
set_option maxHeartbeats 4000000 in
theorem rune_any (B : Nat) (v : Value) (l : Bs) (r : Nat) (w : World) (hr : okRune r) (hO : Ob B w v l) (hm : l.length ≤ 1000000000) (hB : B ≤ w.heap.size) :
    Calls PP 148 #[v, .int .i32 (r : Int)] w fun e w' => ∃ v', e = .returned v' ∧ Ob B w' v' (l ++ utf8 r) ∧ Up B w w' := by
  have hr' := hr
  obtain ⟨hr1, hr2⟩ := hr'
  refine enter (L := [(0, v), (1, .int .i32 (r : Int))]) Tryz.func148 rfl rfl rfl ⟨rfl, rfl, trivial⟩ ?_
  rcases Nat.lt_or_ge r 128 with h1 | h1
  · repeat (first | refine WL.pp rfl ?_ | refine WL.ns ?_ | refine WC.sr ?_ | refine WC.dT rfl (by first | omega | decide) ?_ | refine WC.seq ?_ | refine WL.cv rfl rfl (wrap_u32 (by omega)) rfl ?_ | refine WL.cv rfl rfl (wrap_u8 (by omega)) rfl ?_)
    refine WL.bs rfl rfl (bs1 _) rfl (fun w1 hA => ?_)
    have hu := hA.up hB
    refine WL.apn (utf8 r) rfl rfl (hO.upS (hA.up (Nat.le_refl _))) (by have := congrArg List.length (utf8_1 h1); simpa using this) hA.at_ (alist (utf8_1 h1)) (by omega) (Nat.le_trans hB hu.size) (fun v' w2 h4 h5 => ⟨_, rfl, ?_⟩)
    repeat (first | refine WL.pp rfl ?_ | refine WL.ns ?_ | refine X.sr ?_ | refine WC.ret ?_)
    exact X.ret_ rfl rfl ⟨_, rfl, h4, hu.trans h5⟩
  · repeat (first | refine WL.pp rfl ?_ | refine WL.ns ?_ | refine WC.sr ?_ | refine WC.dF rfl (by first | omega | decide) ?_ | refine WC.seq ?_ | refine X.sn ?_ | refine WC.skip ?_ | refine WL.cv rfl rfl (wrap_u32 (by omega)) rfl ?_)
    refine WL.call rfl rfl rfl (runeMore_any B v l r w hr h1 hO hm hB) ?_
    rintro e w1 ⟨v', rfl, h4, h5⟩
    refine ⟨_, _, rfl, rfl, ?_⟩
    repeat (first | refine WL.pp rfl ?_ | refine WL.ns ?_ | refine WC.ret ?_)
    exact X.ret_ rfl rfl ⟨_, rfl, h4, h5⟩

end Go.Proofs.YtaccphdkapmdhaaGreat

namespace Go.Proofs.YtaccphdkapmdhaaGreat
attribute [local irreducible] binOp IntKind.wrap Sem.run

theorem hexs_snoc (l : Bs) (c : UInt8) : hexs (l ++ [c]) = hexs l * 16 + hexv c := by simp [hexs]
theorem hexs_lt (l : Bs) (h : ∀ c ∈ l, hexv c < 16) : hexs l < 16 ^ l.length := by
  have key : ∀ (l : Bs) (a : Nat), (∀ c ∈ l, hexv c < 16) → l.foldl (fun v c => v * 16 + hexv c) a < (a + 1) * 16 ^ l.length := by
    intro l
    induction l with
    | nil => intro a _; simp
    | cons c l ih =>
      intro a h
      have h1 := ih (a * 16 + hexv c) (fun x hx => h x (by simp [hx]))
      have h2 := h c (by simp)
      simp only [List.foldl_cons, List.length_cons]
      refine Nat.lt_of_lt_of_le h1 ?_
      rw [Nat.pow_succ, Nat.mul_comm (16 ^ l.length) 16, ← Nat.mul_assoc]
      exact Nat.mul_le_mul_right _ (by omega)
  have := key l 0 h
  simpa [hexs] using this

theorem hexv_cases {c : UInt8} (h : hexv c < 16) : (48 ≤ c.toNat ∧ c.toNat ≤ 57 ∧ hexv c = c.toNat - 48) ∨ (97 ≤ c.toNat ∧ c.toNat ≤ 102 ∧ hexv c = c.toNat - 87) ∨ (65 ≤ c.toNat ∧ c.toNat ≤ 70 ∧ hexv c = c.toNat - 55) := by
  unfold hexv at *
  split at h
  · rename_i h1; exact .inl ⟨h1.1, h1.2, by rw [if_pos h1]⟩
  · split at h
    · rename_i h1 h2; exact .inr (.inl ⟨h2.1, h2.2, by rw [if_neg h1, if_pos h2]⟩)
    · split at h
      · rename_i h1 h2 h3; exact .inr (.inr ⟨h3.1, h3.2, by rw [if_neg h1, if_neg h2, if_pos h3]⟩)
      · omega

theorem or16 {a d : Nat} (ha : a < 268435456) (hd : d < 16) {y : Int} (hy : y = (d : Int)) (t : Nat) (w : World) : (binOp .or t (.int .u32 ((a * 2 ^ 4 : Nat) : Int)) (.int .u32 y)).run PP w = .ok (.int .u32 ((a * 16 + d : Nat) : Int)) w := by
  subst hy
  refine or32 (by omega) (by omega) ?_ t w
  have := Nat.two_pow_add_eq_or_of_lt (i := 4) (b := d) (by omega) a
  rw [Nat.mul_comm] at this
  rw [← this]

section
variable {bd C E : Nat} {dc : Array Value} {fz : Nat × Nat}

theorem get_drop {l0 ds r : Bs} {n j : Nat} (hd : l0.drop n = ds ++ r) (hj : j < ds.length) : ∃ h : n + j < l0.length, l0[n + j] = ds[j] := by
  have h1 : (l0.drop n)[j]? = some ds[j] := by rw [hd, List.getElem?_append_left hj, List.getElem?_eq_getElem hj]
  rw [List.getElem?_drop] at h1
  obtain ⟨h2, h3⟩ := List.getElem?_eq_some_iff.1 h1
  exact ⟨h2, h3⟩

theorem drop_len {l0 ds r : Bs} {n : Nat} (hd : l0.drop n = ds ++ r) (h0 : 0 < ds.length) : n + ds.length + r.length = l0.length := by
  have := congrArg List.length hd
  simp only [List.length_drop, List.length_append] at this
  omega

set_option maxRecDepth 100000 in
set_option maxHeartbeats 4000000 in
theorem unicode_any (B : Nat) (v dv : Value) (l l0 ds r : Bs) (n k : Nat) (w : World) (hv : Suf bd C E dc dv l0) (hd : l0.drop n = ds ++ r) (hk : ds.length = k) (hk0 : 0 < k) (hk8 : k ≤ 8) (hh : ∀ c ∈ ds, hexv c < 16) (hr : okRune (hexs ds))
    (hD : w.heap[bd]? = some (.cells dc 5 fz)) (hO : Ob B w v l) (hm : l.length ≤ 1000000000) (hB : B ≤ w.heap.size) :
    Calls PP 147 #[v, dv, .int .i64 (n : Int), .int .i64 (k : Int)] w fun e w' => ∃ v', e = .returned (.tuple #[v', .int .i64 ((n + k : Nat) : Int), .nilIface]) ∧ Ob B w' v' (l ++ utf8 (hexs ds)) ∧ Up B w w' := by
  have hlen := drop_len hd (by omega)
  have hC := hv.C62
  have hle := hv.le
  have hEC := hv.EC
  have hval := hv.val (by omega)
  subst hval
  refine enter (L := [(0, v), (1, .slice (some ⟨bd, E - l0.length, none⟩) l0.length (C - (E - l0.length))), (2, .int .i64 (n : Int)), (3, .int .i64 (k : Int))]) Tryz.func147 rfl rfl rfl ⟨rfl, rfl, rfl, rfl, trivial⟩ ?_
  repeat (first | refine WL.pp rfl ?_ | refine WL.ns ?_ | refine WC.sr ?_ | refine WC.dF rfl (by first | omega | decide) ?_ | refine WC.seq ?_ | refine WC.block ?_ | refine X.sn ?_ | refine WC.skip ?_ | refine WL.ad rfl rfl (by omega) rfl ?_)
  refine WC.loop (σ := Nat) (I := fun j w' => w' = w ∧ j ≤ k) (m := fun j => k - j) (Lf := fun j => [(0, v), (1, .slice (some ⟨bd, E - l0.length, none⟩) l0.length (C - (E - l0.length))), (2, .int .i64 (n : Int)), (3, .int .i64 (k : Int)), (11, .int .u32 (hexs (ds.take j) : Int)), (12, .int .i64 (j : Int))]) 0 ⟨rfl, Nat.zero_le _⟩ ⟨rfl, rfl, rfl, rfl, rfl, rfl, trivial⟩ ?_
  rintro j w1 ⟨rfl, hj⟩
  by_cases hjk : j < k
  · obtain ⟨hb, hbe⟩ := get_drop (j := j) hd (by omega)
    have hcell : dc[E - l0.length + (n + j)]? = some (u8 ds[j]) := hv.cells _ _ (by rw [List.getElem?_eq_getElem hb, hbe])
    have hx := hh ds[j] (by simp)
    have hp : hexs (ds.take j) < 268435456 := by
      have h1 := hexs_lt (ds.take j) (fun c hc => hh c (List.mem_of_mem_take hc))
      rw [List.length_take, Nat.min_eq_left (by omega)] at h1
      refine Nat.lt_of_lt_of_le h1 ?_
      exact Nat.pow_le_pow_right (n := 16) (by omega) (show j ≤ 7 by omega)
    have hnext : hexs (ds.take (j + 1)) = hexs (ds.take j) * 16 + hexv ds[j] := by
      rw [← hexs_snoc, List.take_append_getElem (by omega)]
    have hc256 := UInt8.toNat_lt ds[j]
    rcases hexv_cases hx with ⟨h1, h2, h3⟩ | ⟨h1, h2, h3⟩ | ⟨h1, h2, h3⟩
    all_goals
      repeat (first | refine WL.pp rfl ?_ | refine WL.ns ?_ | refine WC.sr ?_ | refine WC.bF rfl (by first | with_reducible rfl | exact Bool.not_true) ?_ | refine WC.dT rfl (by first | omega | decide) ?_ | refine WC.dF rfl (by first | omega | decide) ?_ | refine WL.ix (i := n + j) rfl rfl (by omega) (by omega) rfl ?_ | refine WL.ldB rfl rfl hD (by simpa using hcell) rfl ?_ | refine WL.su8 rfl rfl (by omega) rfl ?_ | refine WL.adu rfl rfl (by omega) rfl ?_ | refine WL.bo rfl rfl (shl32 (n := 4) (by omega) (by omega) _ _) rfl ?_ | refine WL.bo rfl rfl (or16 hp hx (by omega) _ _) rfl ?_ | refine WL.p rfl ?_ | refine WC.seq ?_ | refine WC.reg ?_ | refine WC.block ?_ | refine WL.nil ?_ | refine X.sn ?_ | refine X.bn ?_ | refine WC.skip ?_ | refine WL.ad rfl rfl (by omega) rfl ?_ | refine WL.gT rfl rfl (by first | omega | decide) ?_ | refine WL.gF rfl rfl (by first | omega | decide) ?_ | refine WL.cv rfl rfl (wrap_u32 (by omega)) rfl ?_)
      exact X.again (j + 1) ⟨rfl, by omega⟩ (by omega) ⟨rfl, rfl, rfl, rfl, by rw [hnext]; rfl, rfl, trivial⟩
  · have hjk' : j = k := by omega
    subst hjk'
    have ht : ds.take j = ds := List.take_of_length_le (by omega)
    rw [ht]
    have hr' := hr
    obtain ⟨hr1, hr2⟩ := hr'
    have key : hexs ds < 55296 ∨ 57343 < hexs ds := by omega
    rcases key with h1 | h1
    all_goals
      repeat (first | refine WL.pp rfl ?_ | refine WL.ns ?_ | refine WC.sr ?_ | refine WC.bF rfl (by first | with_reducible rfl | exact Bool.not_true) ?_ | refine WC.dF rfl (by first | omega | decide) ?_ | refine WL.p rfl ?_ | refine WC.seq ?_ | refine X.sn ?_ | refine X.sx ?_ | refine X.bx ?_ | refine WC.skip ?_ | refine WC.exit ?_ | refine WL.gT rfl rfl (by first | omega | decide) ?_ | refine WL.gF rfl rfl (by first | omega | decide) ?_ | refine WL.cv rfl rfl (wrap_i32 (by omega)) rfl ?_)
      refine WL.call rfl rfl rfl (rune_any B v l (hexs ds) w1 hr hO hm hB) ?_
      rintro e w2 ⟨v', rfl, h4, h5⟩
      refine ⟨_, _, rfl, rfl, ?_⟩
      repeat (first | refine WL.pp rfl ?_ | refine WL.ns ?_ | refine WC.ret ?_ | refine WL.ad rfl rfl (by omega) rfl ?_)
      exact X.ret_ rfl rfl ⟨_, rfl, h4, h5⟩
end
end Go.Proofs.YtaccphdkapmdhaaGreat

