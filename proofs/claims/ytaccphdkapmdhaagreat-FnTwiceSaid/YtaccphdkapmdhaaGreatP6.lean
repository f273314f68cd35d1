/- What stands behind a stroke; strings between double quotes. Strings between double quotes. Strings between double quotes. The parts of keys. The parser's state and its arena of nodes: 'push', 'at', 'Range', 'offsetOf', 'rangeFrom'. No condition. -/
import Derived.Test.YtaccphdkapmdhaaGreatP5
import Derived.Test.YtaccphdkapmdhaaGreatP1
namespace Go.Proofs.YtaccphdkapmdhaaGreat
attribute [local irreducible] binOp IntKind.wrap Sem.run

theorem escCh_cases {c x : UInt8} (h : escCh c = some x) : (c.toNat = 98 ∧ x = 8) ∨ (c.toNat = 116 ∧ x = 9) ∨ (c.toNat = 110 ∧ x = 10) ∨ (c.toNat = 102 ∧ x = 12) ∨ (c.toNat = 114 ∧ x = 13) ∨ (c.toNat = 34 ∧ x = 34) ∨ (c.toNat = 92 ∧ x = 92) := by
  unfold escCh at h
  (repeat' split at h) <;> first
    | (cases h; done)
    | (simp only [Option.some.injEq] at h; subst h; rename_i e; subst e; decide)

theorem drop_cons {l0 r : Bs} {n : Nat} {c : UInt8} (h : l0.drop n = c :: r) : n < l0.length ∧ l0[n]? = some c ∧ l0.drop (n + 1) = r := by
  have h1 : (l0.drop n)[0]? = some c := by rw [h]; rfl
  rw [List.getElem?_drop, Nat.add_zero] at h1
  refine ⟨(List.getElem?_eq_some_iff.1 h1).1, h1, ?_⟩
  rw [← List.drop_drop, h, List.drop_one, List.tail_cons]

section
variable {bd C E : Nat} {dc : Array Value} {fz : Nat × Nat}

set_option maxRecDepth 100000 in
set_option maxHeartbeats 4000000 in
theorem unescape_any (B : Nat) (v dv : Value) (l l0 b u b' : Bs) (n : Nat) (w : World) (hv : Suf bd C E dc dv l0) (hd : l0.drop n = b) (he : Esc b u b')
    (hD : w.heap[bd]? = some (.cells dc 5 fz)) (hO : Ob B w v l) (hm : l.length ≤ 1000000000) (hB : B ≤ w.heap.size) :
    Calls PP 139 #[v, dv, .int .i64 (n : Int)] w fun e w' => ∃ v' m, e = .returned (.tuple #[v', .int .i64 ((m : Nat) : Int), .nilIface]) ∧ Ob B w' v' (l ++ u) ∧ Up B w w' ∧ l0.drop m = b' ∧ n < m ∧ m ≤ l0.length ∧ u.length ≤ m - n := by
  have hC := hv.C62
  have hle := hv.le
  have hEC := hv.EC
  have hlt : n < l0.length := by
    cases he with
    | ch h => exact (drop_cons hd).1
    | u h1 h2 h3 => exact (drop_cons (c := 117) hd).1
    | U h1 h2 h3 => exact (drop_cons (c := 85) hd).1
  have hval := hv.val (by omega)
  subst hval
  refine enter (L := [(0, v), (1, .slice (some ⟨bd, E - l0.length, none⟩) l0.length (C - (E - l0.length))), (2, .int .i64 (n : Int))]) Tryz.func139 rfl rfl rfl ⟨rfl, rfl, rfl, trivial⟩ ?_
  cases he with
  | @ch c x r h =>
    obtain ⟨h1, h2, h3⟩ := drop_cons hd
    have hc := hv.at hD h2
    rcases escCh_cases h with ⟨h5, hx⟩ | ⟨h5, hx⟩ | ⟨h5, hx⟩ | ⟨h5, hx⟩ | ⟨h5, hx⟩ | ⟨h5, hx⟩ | ⟨h5, hx⟩
    all_goals
      repeat (first | refine WL.pp rfl ?_ | refine WL.ns ?_ | refine WC.sr ?_ | refine WC.dT rfl (by first | omega | decide) ?_ | refine WC.dF rfl (by first | omega | decide) ?_ | refine WL.ix (i := n) rfl rfl rfl (by omega) rfl ?_ | refine WL.ld rfl rfl hc rfl ?_ | refine WC.block ?_)
      refine WL.bs rfl rfl (bs1 _) rfl (fun w1 hA => ?_)
      have hu := hA.up hB
      refine WL.apn (B := B) (l' := [x]) rfl rfl (hO.upS (hA.up (Nat.le_refl _))) rfl hA.at_ (alist (by subst hx; rfl)) (by simp; omega) (Nat.le_trans hB hu.size) (fun v' w2 h6 h7 => ⟨_, rfl, ?_⟩)
      repeat (first | refine WL.pp rfl ?_ | refine WL.ns ?_ | refine X.br ?_ | refine WC.ret ?_ | refine WL.ad rfl rfl (by omega) rfl ?_)
      exact X.ret_ rfl rfl ⟨_, n + 1, rfl, h6, hu.trans h7, h3, by omega, by omega, by simp⟩
  | @u ds r h1 h2 h3 =>
    obtain ⟨h5, h6, h7⟩ := drop_cons (c := 117) (r := ds ++ b') hd
    have hc := hv.at hD h6
    have hlen := drop_len h7 (by omega)
    repeat (first | refine WL.pp rfl ?_ | refine WL.ns ?_ | refine WC.sr ?_ | refine WC.dT rfl (by first | omega | decide) ?_ | refine WC.dF rfl (by first | omega | decide) ?_ | refine WL.ix (i := n) rfl rfl rfl (by omega) rfl ?_ | refine WL.ld rfl rfl hc rfl ?_ | refine WC.block ?_ | refine WL.ad rfl rfl (by omega) rfl ?_)
    refine WL.call rfl rfl rfl (unicode_any B v _ l l0 ds b' (n + 1) 4 w hv h7 h1 (by omega) (by omega) h2 h3 hD hO hm hB) ?_
    rintro e w2 ⟨v', rfl, h8, h9⟩
    refine ⟨_, _, rfl, rfl, ?_⟩
    repeat (first | refine WL.pp rfl ?_ | refine WL.ns ?_ | refine X.br ?_ | refine WC.ret ?_)
    refine X.ret_ rfl rfl ⟨_, n + 1 + 4, rfl, h8, h9, ?_, by omega, by omega, ?_⟩
    · rw [← List.drop_drop, h7, ← h1, List.drop_left]
    · have := utf8_len (hexs ds); omega
  | @U ds r h1 h2 h3 =>
    obtain ⟨h5, h6, h7⟩ := drop_cons (c := 85) (r := ds ++ b') hd
    have hc := hv.at hD h6
    have hlen := drop_len h7 (by omega)
    repeat (first | refine WL.pp rfl ?_ | refine WL.ns ?_ | refine WC.sr ?_ | refine WC.dT rfl (by first | omega | decide) ?_ | refine WC.dF rfl (by first | omega | decide) ?_ | refine WL.ix (i := n) rfl rfl rfl (by omega) rfl ?_ | refine WL.ld rfl rfl hc rfl ?_ | refine WC.block ?_ | refine WL.ad rfl rfl (by omega) rfl ?_)
    refine WL.call rfl rfl rfl (unicode_any B v _ l l0 ds b' (n + 1) 8 w hv h7 h1 (by omega) (by omega) h2 h3 hD hO hm hB) ?_
    rintro e w2 ⟨v', rfl, h8, h9⟩
    refine ⟨_, _, rfl, rfl, ?_⟩
    repeat (first | refine WL.pp rfl ?_ | refine WL.ns ?_ | refine X.br ?_ | refine WC.ret ?_)
    refine X.ret_ rfl rfl ⟨_, n + 1 + 8, rfl, h8, h9, ?_, by omega, by omega, ?_⟩
    · rw [← List.drop_drop, h7, ← h1, List.drop_left]
    · have := utf8_len (hexs ds); omega

set_option maxRecDepth 100000 in
set_option maxHeartbeats 4000000 in
/-- Where the string ends, or -1: a guess of how long its value may be. -/
theorem stringEnd_any (v : Value) (l0 : Bs) (n : Nat) (w : World) (hv : Suf bd C E dc v l0) (hn : n ≤ l0.length) (h0 : 0 < l0.length) (hD : w.heap[bd]? = some (.cells dc 5 fz)) :
    Calls PP 140 #[v, .int .i64 (n : Int)] w fun e w' => ∃ m : Int, e = .returned (.int .i64 m) ∧ (m = -1 ∨ ((n : Int) ≤ m ∧ m < l0.length)) ∧ w' = w := by
  have hC := hv.C62
  have hle := hv.le
  have hEC := hv.EC
  have hval := hv.val (by omega)
  subst hval
  refine enter (L := [(0, .slice (some ⟨bd, E - l0.length, none⟩) l0.length (C - (E - l0.length))), (1, .int .i64 (n : Int))]) Tryz.func140 rfl rfl rfl ⟨rfl, rfl, trivial⟩ ?_
  repeat (first | refine WL.pp rfl ?_ | refine WL.ns ?_ | refine WC.sr ?_ | refine WC.seq ?_ | refine WC.block ?_)
  refine WC.loop (σ := Nat) (I := fun j w' => w' = w ∧ n ≤ j) (m := fun j => l0.length - j) (Lf := fun j => [(0, .slice (some ⟨bd, E - l0.length, none⟩) l0.length (C - (E - l0.length))), (1, .int .i64 (j : Int))]) n ⟨rfl, Nat.le_refl _⟩ ⟨rfl, rfl, trivial⟩ ?_
  rintro j w1 ⟨rfl, hj⟩
  by_cases hlt : j < l0.length
  · have hc := hv.at hD (List.getElem?_eq_getElem hlt)
    generalize l0[j] = c at hc
    by_cases h1 : c.toNat = 34
    · repeat (first | refine WL.pp rfl ?_ | refine WL.ns ?_ | refine WC.sr ?_ | refine WC.dT rfl (by first | omega | decide) ?_ | refine WL.ix (i := j) rfl rfl rfl (by omega) rfl ?_ | refine WL.ld rfl rfl hc rfl ?_ | refine WC.seq ?_ | refine WC.block ?_ | refine X.sn ?_ | refine X.sr ?_ | refine X.br ?_ | refine WC.skip ?_ | refine WC.ret ?_)
      exact X.ret_ rfl rfl ⟨_, rfl, .inr ⟨by omega, by omega⟩, rfl⟩
    · by_cases h2 : c.toNat = 92
      · repeat (first | refine WL.pp rfl ?_ | refine WL.ns ?_ | refine WC.sr ?_ | refine WC.dT rfl (by first | omega | decide) ?_ | refine WC.dF rfl (by first | omega | decide) ?_ | refine WL.ix (i := j) rfl rfl rfl (by omega) rfl ?_ | refine WL.ld rfl rfl hc rfl ?_ | refine WC.seq ?_ | refine WC.reg ?_ | refine WC.block ?_ | refine WL.nil ?_ | refine X.sn ?_ | refine X.bn ?_ | refine WC.skip ?_ | refine WL.ad rfl rfl (by omega) rfl ?_)
        exact X.again (j + 2) ⟨rfl, by omega⟩ (by omega) ⟨rfl, rfl, trivial⟩
      · repeat (first | refine WL.pp rfl ?_ | refine WL.ns ?_ | refine WC.sr ?_ | refine WC.dT rfl (by first | omega | decide) ?_ | refine WC.dF rfl (by first | omega | decide) ?_ | refine WL.ix (i := j) rfl rfl rfl (by omega) rfl ?_ | refine WL.ld rfl rfl hc rfl ?_ | refine WC.seq ?_ | refine WC.reg ?_ | refine WC.block ?_ | refine WL.nil ?_ | refine X.sn ?_ | refine X.bn ?_ | refine WC.skip ?_ | refine WL.ad rfl rfl (by omega) rfl ?_)
        exact X.again (j + 1) ⟨rfl, by omega⟩ (by omega) ⟨rfl, rfl, trivial⟩
  · repeat (first | refine WL.pp rfl ?_ | refine WL.ns ?_ | refine WC.sr ?_ | refine WC.dF rfl (by first | omega | decide) ?_ | refine WC.seq ?_ | refine X.sn ?_ | refine X.sx ?_ | refine X.bx ?_ | refine WC.exit ?_ | refine WC.ret ?_)
    exact X.ret_ rfl rfl ⟨_, rfl, .inl rfl, rfl⟩
end
end Go.Proofs.YtaccphdkapmdhaaGreat

namespace Go.Proofs.YtaccphdkapmdhaaGreat
attribute [local irreducible] binOp IntKind.wrap Sem.run

theorem SBas.closed {t o r : Bs} (h : SBas (34 :: t) o r) : o = [] ∧ r = t := by
  cases h with
  | close => exact ⟨rfl, rfl⟩
  | sign n h1 _ _ _ => simp at h1

theorem SBas.escd {t o r : Bs} (h : SBas (92 :: t) o r) : ∃ u b' o', Esc t u b' ∧ SBas b' o' r ∧ o = u ++ o' := by
  cases h with
  | esc h1 h2 => exact ⟨_, _, _, h1, h2, rfl⟩
  | sign n _ h1 _ _ _ => simp at h1

theorem SBas.plain {c : UInt8} {t o r : Bs} (h : SBas (c :: t) o r) (hc : 32 ≤ c.toNat ∧ c.toNat < 127 ∨ c.toNat = 9) (h34 : c.toNat ≠ 34) (h92 : c.toNat ≠ 92) : ∃ o', SBas t o' r ∧ o = c :: o' := by
  cases h with
  | close => simp at h34
  | esc => simp at h92
  | sign n h1 h1' h2 h3 h4 =>
    rw [signLen_plain hc] at h2
    subst h2
    exact ⟨_, h4, rfl⟩

theorem SBas.mb {c : UInt8} {t o r : Bs} (h : SBas (c :: t) o r) (hc : 128 ≤ c.toNat) : ∃ n o', mbLen (c :: t) = n ∧ 0 < n ∧ SBas ((c :: t).drop n) o' r ∧ o = (c :: t).take n ++ o' := by
  cases h with
  | close => simp at hc
  | esc => simp at hc
  | sign n h1 h1' h2 h3 h4 =>
    rw [signLen_mb hc] at h2
    exact ⟨n, _, h2, h3, h4, rfl⟩

theorem SBas.other {c : UInt8} {t o r : Bs} (h : SBas (c :: t) o r) (h1 : ¬ (32 ≤ c.toNat ∧ c.toNat < 127 ∨ c.toNat = 9)) : 128 ≤ c.toNat := by
  cases h with
  | close => simp at h1
  | esc => simp at h1
  | sign n h3 h3' h4 h5 h6 =>
    apply Classical.byContradiction
    intro hh
    rw [signLen_none (by omega)] at h4
    omega

theorem SBas.nil {o r : Bs} (h : SBas [] o r) : False := by
  cases h with
  | sign n h1 h1' h2 h3 => simp [signLen] at h2; omega

theorem SBas.run {l o r : Bs} (h : SBas l o r) : ∃ m o', MR l m ∧ SBas (l.drop m) o' r ∧ o = l.take m ++ o' :=
  run_of (G := fun l o => SBas l o r) (fun _ _ _ h h128 => h.mb h128) l.length l o (Nat.le_refl _) h

theorem SBas.eight {x0 x1 x2 x3 x4 x5 x6 x7 : UInt8} {t o r : Bs} (h : SBas (x0 :: x1 :: x2 :: x3 :: x4 :: x5 :: x6 :: x7 :: t) o r)
    (hp : ∀ x ∈ [x0, x1, x2, x3, x4, x5, x6, x7], 32 ≤ x.toNat ∧ x.toNat < 128) (hq : ∀ x ∈ [x0, x1, x2, x3, x4, x5, x6, x7], x.toNat ≠ 127) (hs : ∀ x ∈ [x0, x1, x2, x3, x4, x5, x6, x7], x.toNat ≠ 34)
    (hs2 : ∀ x ∈ [x0, x1, x2, x3, x4, x5, x6, x7], x.toNat ≠ 92) :
    ∃ o', SBas t o' r ∧ o = x0 :: x1 :: x2 :: x3 :: x4 :: x5 :: x6 :: x7 :: o' := by
  have step : ∀ {x : UInt8} {t o : Bs}, SBas (x :: t) o r → 32 ≤ x.toNat ∧ x.toNat < 128 → x.toNat ≠ 127 → x.toNat ≠ 34 → x.toNat ≠ 92 → ∃ o', SBas t o' r ∧ o = x :: o' := fun h h1 h2 h3 h4 => h.plain (.inl ⟨h1.1, by omega⟩) h3 h4
  obtain ⟨o0, g0, rfl⟩ := step h (hp x0 (by simp)) (hq x0 (by simp)) (hs x0 (by simp)) (hs2 x0 (by simp))
  obtain ⟨o1, g1, rfl⟩ := step g0 (hp x1 (by simp)) (hq x1 (by simp)) (hs x1 (by simp)) (hs2 x1 (by simp))
  obtain ⟨o2, g2, rfl⟩ := step g1 (hp x2 (by simp)) (hq x2 (by simp)) (hs x2 (by simp)) (hs2 x2 (by simp))
  obtain ⟨o3, g3, rfl⟩ := step g2 (hp x3 (by simp)) (hq x3 (by simp)) (hs x3 (by simp)) (hs2 x3 (by simp))
  obtain ⟨o4, g4, rfl⟩ := step g3 (hp x4 (by simp)) (hq x4 (by simp)) (hs x4 (by simp)) (hs2 x4 (by simp))
  obtain ⟨o5, g5, rfl⟩ := step g4 (hp x5 (by simp)) (hq x5 (by simp)) (hs x5 (by simp)) (hs2 x5 (by simp))
  obtain ⟨o6, g6, rfl⟩ := step g5 (hp x6 (by simp)) (hq x6 (by simp)) (hs x6 (by simp)) (hs2 x6 (by simp))
  obtain ⟨o7, g7, rfl⟩ := step g6 (hp x7 (by simp)) (hq x7 (by simp)) (hs x7 (by simp)) (hs2 x7 (by simp))
  exact ⟨o7, g7, rfl⟩

theorem Esc.lt {b u b' : Bs} (h : Esc b u b') : 0 < b.length := by
  cases h <;> simp

theorem Ob.rb {B w v l} (h : Ob B w v l) : RB w v l := by
  rcases h.2 with ⟨rfl, hn⟩ | ⟨g, cap, cur, rfl, hb, hg, hc, hm, hs, ht⟩
  · exact ⟨none, 0, by rw [hn], fun hl => absurd (List.eq_nil_of_length_eq_zero hn) hl⟩
  · refine ⟨_, cap, rfl, fun _ => ⟨g, 0, cur, _, rfl, hg, fun i c hi => ?_⟩⟩
    rw [Nat.zero_add]
    have h1 : (cur.toList.take (l.length * 1))[i]? = some (u8 c) := by rw [ht, List.getElem?_map, hi]; rfl
    rw [List.getElem?_take] at h1
    split at h1
    · simpa using h1
    · cases h1

theorem RB.upS {w w' v l} (h : RB w v l) (hu : Up w.heap.size w w') : RB w' v l := by
  obtain ⟨ad, cap, h1, h2⟩ := h
  refine ⟨ad, cap, h1, fun hl => ?_⟩
  obtain ⟨b, o, dc, fz, h3, h4, h5⟩ := h2 hl
  exact ⟨b, o, dc, fz, h3, hu.at (lt_of_heap h4) h4, h5⟩

section
variable {bd C E : Nat} {dc : Array Value} {fz : Nat × Nat}

/-- A new row, then the first bytes copied into it. -/
theorem Ob.copied {B n c : Nat} {w w1 w2 : World} {l : Bs} {cur : Array Value} {cs : List Value} (hA : Al w (.cells cur 5 (0, 0)) w1) (hc : cur.size = c) (hS : St w1 w.heap.size (.cells (cs ++ cur.toList.drop cs.length).toArray 5 (0, 0)) w2)
    (hcs : cs = l.map u8) (hn : l.length = n) (hnc : n ≤ c) (hcm : c ≤ 1099511627776) (hB : B ≤ w.heap.size) : Ob B w2 (.slice (some ⟨w.heap.size, 0, none⟩) n c) l := by
  subst hcs hn
  refine ⟨by simp, .inr ⟨w.heap.size, c, _, rfl, hB, hS.at_, hnc, by simp only [maxLen]; omega, ?_, ?_⟩⟩
  · simp; omega
  · simp [List.take_append_of_le_length]

theorem cells_of_suf {v l0 i n} {w : World} (hv : Suf bd C E dc v l0) (hD : w.heap[bd]? = some (.cells dc 5 fz)) {ad : Option Addr} {a : Addr} (had : ad = some a) (hcap : 0 < C - (E - l0.length) - i) (hs : Sf bd (E - l0.length + i) (C - (E - l0.length) - i) ad) :
    ∀ j x, ((l0.drop i).take n)[j]? = some x → w.cell? (a.add j) = some (u8 x) := by
  intro j x hx
  have := hs.addr hcap
  rw [had] at this
  simp only [Option.some.injEq] at this
  subst this
  rw [addr_lit]
  refine cell_of hD ?_
  rw [List.getElem?_take] at hx
  split at hx
  · exact hv.cells.drop i j x hx
  · cases hx

theorem map_cells {cs : Bs} {w : World} {a : Addr} (h : ∀ j x, cs[j]? = some x → w.cell? (a.add j) = some (u8 x)) : ∀ j u, (cs.map u8)[j]? = some u → w.cell? (a.add j) = some u := by
  intro j u hu
  rw [List.getElem?_map] at hu
  cases hx : cs[j]? with
  | none => simp [hx] at hu
  | some x =>
    simp only [hx, Option.map_some, Option.some.injEq] at hu
    subst hu
    exact h j x hx

set_option maxRecDepth 100000 in
set_option maxHeartbeats 8000000 in
theorem escaped_any (p v : Value) (l0 o out r : Bs) (n : Nat) (w : World) (hv : Suf bd C E dc v l0) (hE : E ≤ 100000000) (hn : SBas (l0.drop n) o r) (hn1 : 1 ≤ n) (hnl : n < l0.length) (hout : out = (l0.take n).drop 1 ++ o) (hD : w.heap[bd]? = some (.cells dc 5 fz)) :
    Calls PP 130 #[p, v, .int .i64 (n : Int)] w fun e w' => ∃ v1 v2 v3, e = .returned (.tuple #[v1, v2, v3, .nilIface]) ∧ Rg C E v1 ∧ RB w' v2 out ∧ Suf bd C E dc v3 r ∧ Up w.heap.size w w' := by
  have hC := hv.C62
  have hle := hv.le
  have hEC := hv.EC
  have hval := hv.val (by omega)
  subst hval
  refine enter (L := [(0, p), (1, .slice (some ⟨bd, E - l0.length, none⟩) l0.length (C - (E - l0.length))), (2, .int .i64 (n : Int))]) Tryz.func130 rfl rfl rfl ⟨rfl, rfl, rfl, trivial⟩ ?_
  have hbd := lt_of_heap hD
  repeat (first | refine WL.pp rfl ?_ | refine WL.ns ?_ | refine WC.sr ?_ | refine WC.cut (x := .seq _ (.seq _ (.cond _ _ _))) (σ := Int) (fun c w' => w' = w ∧ (n : Int) - 1 ≤ c ∧ c < l0.length) (fun c => [(0, p), (1, .slice (some ⟨bd, E - l0.length, none⟩) l0.length (C - (E - l0.length))), (2, .int .i64 (n : Int)), (10, .int .i64 c)]) ?_ ?_ | refine WL.su rfl rfl (by omega) rfl ?_)
  · skip
    refine WL.call rfl rfl rfl (stringEnd_any _ l0 n w hv (by omega) (by omega) hD) ?_
    rintro e w1 ⟨m, rfl, hm, rfl⟩
    refine ⟨_, _, rfl, rfl, ?_⟩
    rcases hm with rfl | ⟨hm1, hm2⟩
    · repeat (first | refine WL.pp rfl ?_ | refine WL.ns ?_ | refine WC.sr ?_ | refine WC.dF rfl (by first | omega | decide) ?_ | refine WC.skip ?_)
      exact X.cut _ ⟨rfl, by omega, by omega⟩ ⟨rfl, rfl, rfl, rfl, trivial⟩
    · repeat (first | refine WL.pp rfl ?_ | refine WL.ns ?_ | refine WC.sr ?_ | refine WC.dT rfl (by first | omega | decide) ?_ | refine WC.reg ?_ | refine WL.nil ?_ | refine WL.su rfl rfl (by omega) rfl ?_)
      exact X.cut _ ⟨rfl, by omega, by omega⟩ ⟨rfl, rfl, rfl, rfl, trivial⟩
  · rintro c w2 ⟨rfl, hc1, hc2⟩
    obtain ⟨c, rfl⟩ := Int.eq_ofNat_of_zero_le (show 0 ≤ c by omega)
    repeat (first | refine WL.pp rfl ?_ | refine WC.sr ?_ | refine WL.su rfl rfl (by omega) rfl ?_)
    refine WL.mk (n - 1) c rfl rfl rfl (by omega) rfl (by omega) (by omega) rfl (fun w3 z hz1 _ hA => ?_)
    have hD3 := hA.keep hD
    repeat (first | refine WL.pp rfl ?_ | refine WL.ns ?_ | refine WC.sr ?_)
    refine WL.sS (n - 1) 1 rfl rfl (Sf.mk _ _ _) rfl (by simp; omega) (by omega) (fun _ => rfl) (fun ad' hs' => ?_)
    have had := hs'.addr (by omega)
    subst had
    refine WL.cp (((l0.drop 1).take (n - 1)).map u8) rfl rfl hA.at_ ?_ (map_cells (cells_of_suf hv hD3 rfl (by omega) hs')) ?_ ?_ rfl (fun w4 hS => ?_)
    · simp; omega
    · simp [size_madeCells]; omega
    · intro u hu
      obtain ⟨x, _, rfl⟩ := List.mem_map.1 hu
      rfl
    have hO := Ob.copied (B := w2.heap.size) (l := (l0.drop 1).take (n - 1)) (n := n - 1) hA (size_madeCells _ _) hS rfl (by simp; omega) (by omega) (by omega) (Nat.le_refl _)
    have hU : Up w2.heap.size w2 w4 := (hA.up (Nat.le_refl _)).trans (hS.up (Nat.le_refl _))
    rw [Nat.mul_one] at hO
    clear hS hA hz1 hs' hD3
    have hstart : out = (l0.drop 1).take (n - 1) ++ o := by rw [hout, List.drop_take]
    repeat (first | refine WL.ns ?_ | refine WC.seq ?_ | refine WC.block ?_)
    refine WC.loop (σ := Nat × Value) (I := fun s w' => Up w2.heap.size w2 w' ∧ n ≤ s.1 ∧ s.1 ≤ l0.length ∧ ∃ l o', Ob w2.heap.size w' s.2 l ∧ SBas (l0.drop s.1) o' r ∧ out = l ++ o' ∧ l.length ≤ s.1) (m := fun s => l0.length - s.1)
      (Lf := fun s => [(1, .slice (some ⟨bd, E - l0.length, none⟩) l0.length (C - (E - l0.length))), (2, .int .i64 (s.1 : Int)), (12, s.2)]) (n, _) ⟨hU, Nat.le_refl _, by omega, _, _, hO, hn, hstart, by simp; omega⟩ ⟨rfl, rfl, rfl, trivial⟩ ?_
    clear hO hU hn hstart hout
    rintro ⟨i, bv⟩ w5 ⟨hU, hi1, hi2, l, o', hO, hcm, hout, hll⟩
    dsimp only at hU hi1 hi2 hO hcm hll ⊢
    by_cases hlt : i < l0.length
    · have hD5 := hU.at hbd hD
      have hc : l0[i]? = some l0[i] := List.getElem?_eq_getElem hlt
      have hdr : l0.drop i = l0[i] :: l0.drop (i + 1) := List.drop_eq_getElem_cons hlt
      rw [hdr] at hcm
      have hat := fun {i : Nat} {c : UInt8} (h : l0[i]? = some c) => hv.at hD5 h
      have hsz := hU.size
      generalize l0[i] = c at hc hcm hdr
      by_cases h128 : 128 ≤ c.toNat
      · obtain ⟨m, o'', hm, hcm3, rfl⟩ := hcm.run
        have hpos := hm.pos h128
        rw [← hdr] at hm hcm3 hout
        rw [List.drop_drop] at hcm3
        have hmle := hm.le
        simp only [List.length_drop] at hmle
        repeat (first | refine WL.pp rfl ?_ | refine WL.ns ?_ | refine WC.sr ?_ | refine WC.dT rfl (by first | omega | decide) ?_ | refine WC.dF rfl (by first | omega | decide) ?_ | refine WL.ix (i := i) rfl rfl rfl (by omega) rfl ?_ | refine WL.ld rfl rfl (hat hc) rfl ?_ | refine WL.p rfl ?_ | refine WC.seq ?_ | refine WC.block ?_ | refine X.sn ?_ | refine WC.skip ?_ | refine WL.gT rfl rfl (by first | omega | decide) ?_ | refine WL.gF rfl rfl (by first | omega | decide) ?_)
        refine WL.call rfl rfl rfl (utf8Run_any _ l0 i m w5 hv hi2 hm hD5) ?_
        rintro e w6 ⟨rfl, rfl⟩
        refine ⟨_, _, rfl, rfl, ?_⟩
        repeat (first | refine WL.pp rfl ?_ | refine WL.ns ?_ | refine WC.sr ?_ | refine WC.bF rfl (by first | with_reducible rfl | exact Bool.not_true) ?_ | refine WC.seq ?_ | refine X.sn ?_ | refine WC.skip ?_)
        refine WL.sS m i rfl rfl (Sf.mk _ _ _) rfl rfl (by omega) (fun _ => rfl) (fun ad' hs' => ?_)
        have had := hs'.addr (by omega)
        subst had
        refine WL.apb ((l0.drop i).take m) rfl rfl hO (by simp; omega) (cells_of_suf hv hD5 rfl (by omega) hs') (by omega) hsz (fun v' w7 h4 h5 => ⟨_, rfl, ?_⟩)
        repeat (first | refine WL.pp rfl ?_ | refine WL.ns ?_ | refine WC.reg ?_ | refine WL.nil ?_ | refine X.bn ?_)
        refine X.again (i + m, v') ⟨hU.trans h5, by omega, by omega, _, _, h4, hcm3, ?_, ?_⟩ (by omega) ⟨rfl, rfl, rfl, trivial⟩
        · rw [hout, List.append_assoc]
        · simp; omega
      · by_cases h34 : c.toNat = 34
        · have h34' : c = 34 := UInt8.toNat_inj.1 h34
          subst h34'
          obtain ⟨rfl, hr⟩ := hcm.closed
          repeat (first | refine WL.pp rfl ?_ | refine WL.ns ?_ | refine WC.sr ?_ | refine WC.dT rfl (by first | omega | decide) ?_ | refine WL.ix (i := i) rfl rfl rfl (by omega) rfl ?_ | refine WL.ld rfl rfl (hat hc) rfl ?_ | refine WC.seq ?_ | refine WC.block ?_ | refine X.sn ?_ | refine WC.skip ?_)
          refine WC.drx (fun _ => True) ?_
          repeat (first | refine WX.p (by kernel_rfl) (by first | trivial | assumption) rfl ?_ | refine WX.ad (by kernel_rfl) (by first | trivial | assumption) rfl rfl (by omega) rfl ?_)
          refine WX.sS (i + 1) 0 (by kernel_rfl) trivial rfl rfl (Sf.mk _ _ _) rfl (by simp) (by omega) (fun _ => rfl) (fun ad1 hs1 => ?_)
          repeat (first | refine WX.p (by kernel_rfl) (by first | trivial | assumption) rfl ?_ | refine WX.ad (by kernel_rfl) (by first | trivial | assumption) rfl rfl (by omega) rfl ?_)
          refine WX.sS (l0.length - (i + 1)) (i + 1) (by kernel_rfl) trivial rfl rfl (Sf.mk _ _ _) (by simp) (by simp; omega) (by omega) (fun _ => rfl) (fun ad3 hs3 => ?_)
          repeat (refine WX.p (by kernel_rfl) (by first | trivial | assumption) rfl ?_)
          refine WX.nil ?_
          repeat (first | refine X.sn ?_ | refine X.sr ?_ | refine X.br ?_ | refine WC.ret ?_)
          refine X.ret_ rfl rfl ⟨_, _, _, rfl, hv.rg 0 (i + 1) (by omega) _, ?_, ?_, hU.drew⟩
          · have := hO.rb
            rw [hout, List.append_nil]
            exact this.sm (Sm.refl _).drew
          · have := hv.drop (i + 1) (by omega) hs3
            rw [hr]
            exact this
        · by_cases h92 : c.toNat = 92
          · have h92' : c = 92 := UInt8.toNat_inj.1 h92
            subst h92'
            obtain ⟨u, b', o'', he, hcm3, rfl⟩ := hcm.escd
            have hlt2 := he.lt
            simp only [List.length_drop] at hlt2
            repeat (first | refine WL.pp rfl ?_ | refine WL.ns ?_ | refine WC.sr ?_ | refine WC.dT rfl (by first | omega | decide) ?_ | refine WC.dF rfl (by first | omega | decide) ?_ | refine WL.ix (i := i) rfl rfl rfl (by omega) rfl ?_ | refine WL.ld rfl rfl (hat hc) rfl ?_ | refine WC.seq ?_ | refine WC.block ?_ | refine X.sn ?_ | refine WC.skip ?_ | refine WL.ad rfl rfl (by omega) rfl ?_)
            refine WL.call rfl rfl rfl (unescape_any w2.heap.size bv _ l l0 _ u b' (i + 1) w5 hv rfl he hD5 hO (by omega) hsz) ?_
            rintro e w6 ⟨v', m, rfl, h4, h5, h6, h7, h8, h9⟩
            refine ⟨_, _, rfl, rfl, ?_⟩
            repeat (first | refine WL.pp rfl ?_ | refine WL.ns ?_ | refine WC.sr ?_ | refine WC.bF rfl (by first | with_reducible rfl | exact Bool.not_true) ?_ | refine X.bn ?_ | refine WC.skip ?_)
            refine X.again (m, v') ⟨hU.trans h5, by omega, by omega, _, _, h4, by rw [h6]; exact hcm3, ?_, ?_⟩ (by omega) ⟨rfl, rfl, rfl, trivial⟩
            · rw [hout, List.append_assoc]
            · simp; omega
          · by_cases hp : 32 ≤ c.toNat ∧ c.toNat < 127 ∨ c.toNat = 9
            · obtain ⟨o'', hcm3, rfl⟩ := hcm.plain hp h34 h92
              rcases hp with ⟨hp1, hp2⟩ | hp
              all_goals
                repeat (first | refine WL.pp rfl ?_ | refine WL.ns ?_ | refine WC.sr ?_ | refine WC.bF rfl (by first | with_reducible rfl | exact Bool.not_true) ?_ | refine WC.dT rfl (by first | omega | decide) ?_ | refine WC.dF rfl (by first | omega | decide) ?_ | refine WL.ix (i := i) rfl rfl rfl (by omega) rfl ?_ | refine WL.ld rfl rfl (hat hc) rfl ?_ | refine WL.p rfl ?_ | refine WC.seq ?_ | refine WC.block ?_ | refine X.sn ?_ | refine WC.skip ?_ | refine WL.gT rfl rfl (by first | omega | decide) ?_ | refine WL.gF rfl rfl (by first | omega | decide) ?_)
                refine WL.bs rfl rfl (bs1 _) rfl (fun w6 hA => ?_)
                refine WL.apn (B := w2.heap.size) (l' := [c]) rfl rfl (hO.upS (hA.up (Nat.le_refl _))) rfl hA.at_ (alist rfl) (by simp; omega) (Nat.le_trans hsz (hA.up hsz).size) (fun v' w7 h4 h5 => ⟨_, rfl, ?_⟩)
                repeat (first | refine WL.pp rfl ?_ | refine WL.ns ?_ | refine WC.reg ?_ | refine WL.nil ?_ | refine X.bn ?_ | refine WL.ad rfl rfl (by omega) rfl ?_)
                refine X.again (i + 1, v') ⟨(hU.trans (hA.up hsz)).trans h5, by omega, by omega, _, _, h4, hcm3, ?_, ?_⟩ (by omega) ⟨rfl, rfl, rfl, trivial⟩
                · rw [hout, List.append_assoc]; rfl
                · simp; omega
            · exact absurd (hcm.other hp) (by omega)
    · have : i = l0.length := by omega
      subst this
      rw [List.drop_length] at hcm
      exact (hcm.nil).elim
end
end Go.Proofs.YtaccphdkapmdhaaGreat

namespace Go.Proofs.YtaccphdkapmdhaaGreat
attribute [local irreducible] binOp IntKind.wrap Sem.run
section
variable {bd C E : Nat} {dc : Array Value} {fz : Nat × Nat}

set_option maxRecDepth 100000 in
set_option maxHeartbeats 8000000 in
theorem basic_any (p v : Value) (l out r : Bs) (w : World) (hv : Suf bd C E dc v (34 :: l)) (hn : SBas l out r) (hE : E ≤ 100000000) (hD : w.heap[bd]? = some (.cells dc 5 fz)) :
    Calls PP 117 #[p, v] w fun e w' => ∃ v1 v2 v3, e = .returned (.tuple #[v1, v2, v3, .nilIface]) ∧ Rg C E v1 ∧ RB w' v2 out ∧ Suf bd C E dc v3 r ∧ Up w.heap.size w w' := by
  have hC := hv.C62
  have hle := hv.le
  have hEC := hv.EC
  have hval := hv.val (by simp)
  generalize hl : 34 :: l = l0 at *
  have hlen : 0 < l0.length := by rw [← hl]; simp
  have hn1 : SBas (l0.drop 1) out r ∧ out = (l0.take 1).drop 1 ++ out := by subst hl; exact ⟨hn, by simp⟩
  clear hn hl
  subst hval
  refine enter (L := [(0, p), (1, .slice (some ⟨bd, E - l0.length, none⟩) l0.length (C - (E - l0.length)))]) Tryz.func117 rfl rfl rfl ⟨rfl, rfl, trivial⟩ ?_
  repeat (first | refine WL.pp rfl ?_ | refine WL.ns ?_ | refine WC.sr ?_ | refine WC.block ?_)
  refine WC.loop (σ := Nat) (I := fun j w' => Sm w w' ∧ 1 ≤ j ∧ j ≤ l0.length ∧ ∃ o', SBas (l0.drop j) o' r ∧ out = (l0.take j).drop 1 ++ o') (m := fun j => l0.length - j) (Lf := fun j => [(0, p), (1, .slice (some ⟨bd, E - l0.length, none⟩) l0.length (C - (E - l0.length))), (8, .int .i64 (j : Int))]) 1 ⟨Sm.refl _, Nat.le_refl _, by omega, _, hn1⟩ ⟨rfl, rfl, rfl, trivial⟩ ?_
  rintro j w1 ⟨hS1, hj1, hj, hcm⟩
  repeat (first | refine WC.cut (x := .block _ (.loop _)) (σ := Nat) (fun i w' => Sm w w' ∧ j ≤ i ∧ i ≤ l0.length ∧ ∃ o', SBas (l0.drop i) o' r ∧ out = (l0.take i).drop 1 ++ o') (fun j => [(0, p), (1, .slice (some ⟨bd, E - l0.length, none⟩) l0.length (C - (E - l0.length))), (8, .int .i64 (j : Int))]) ?_ ?_ | refine WC.block ?_)
  · refine WC.loop (σ := Nat) (I := fun i w' => Sm w w' ∧ j ≤ i ∧ i ≤ l0.length ∧ ∃ o', SBas (l0.drop i) o' r ∧ out = (l0.take i).drop 1 ++ o') (m := fun j => l0.length - j) (Lf := fun j => [(0, p), (1, .slice (some ⟨bd, E - l0.length, none⟩) l0.length (C - (E - l0.length))), (8, .int .i64 (j : Int))]) j ⟨hS1, Nat.le_refl _, hj, hcm⟩ ⟨rfl, rfl, rfl, trivial⟩ ?_
    clear hcm
    rintro i w2 ⟨hS2, hji, hi, o', hcm2, hout⟩
    by_cases h8 : i + 8 ≤ l0.length
    · obtain ⟨x0, x1, x2, x3, x4, x5, x6, x7, t, ht, htd⟩ := eight h8
      have hBA := hv.cells.drop i
      rw [ht] at hBA
      repeat (first | refine WL.pp rfl ?_ | refine WL.ns ?_ | refine WC.sr ?_ | refine WC.dT rfl (by first | omega | decide) ?_ | refine WC.seq ?_ | refine WC.block ?_ | refine X.sn ?_ | refine WC.skip ?_ | refine WL.ad rfl rfl (by omega) rfl ?_)
      refine WL.sS (l0.length - i) i rfl rfl (Sf.mk _ _ _) rfl (by simp; omega) (by omega) (fun _ => rfl) (fun ad' hs' => ?_)
      have had := hs'.addr (by omega)
      subst had
      refine WL.call rfl rfl rfl (leUint64_any w2 (by omega) hBA (hS2.at hD)) ?_
      rintro e w3 ⟨rfl, hS3⟩
      refine ⟨_, _, rfl, rfl, ?_⟩
      have hx := le8_lt x0 x1 x2 x3 x4 x5 x6 x7
      repeat (first | refine WL.pp rfl ?_ | refine WL.ns ?_ | refine WC.sr ?_ | refine WC.seq ?_)
      refine WL.bo rfl rfl (and64 (b := MSB) hx msb_lt _ _) rfl ?_
      repeat (refine WL.pp rfl ?_)
      refine WL.call rfl rfl rfl (hasByteBelow_any _ 32 hx (by omega) w3) ?_
      rintro e w4 ⟨rfl, rfl⟩
      refine ⟨_, _, rfl, rfl, ?_⟩
      refine WL.bo rfl rfl (or64 (Nat.and_lt_two_pow _ msb_lt) (below_lt _ _) _ _) rfl ?_
      repeat (refine WL.pp rfl ?_)
      refine WL.call rfl rfl rfl (hasByteEqual_any _ 34 hx (by omega) w4) ?_
      rintro e w5 ⟨rfl, rfl⟩
      refine ⟨_, _, rfl, rfl, ?_⟩
      refine WL.bo rfl rfl (or64 (Nat.or_lt_two_pow (Nat.and_lt_two_pow _ msb_lt) (below_lt _ _)) (equal8_lt _ _) _ _) rfl ?_
      repeat (refine WL.pp rfl ?_)
      refine WL.call rfl rfl rfl (hasByteEqual_any _ 92 hx (by omega) w5) ?_
      rintro e w6 ⟨rfl, rfl⟩
      refine ⟨_, _, rfl, rfl, ?_⟩
      refine WL.bo rfl rfl (or64 (Nat.or_lt_two_pow (Nat.or_lt_two_pow (Nat.and_lt_two_pow _ msb_lt) (below_lt _ _)) (equal8_lt _ _)) (equal8_lt _ _) _ _) rfl ?_
      repeat (refine WL.pp rfl ?_)
      refine WL.call rfl rfl rfl (hasByteEqual_any _ 127 hx (by omega) w6) ?_
      rintro e w7 ⟨rfl, rfl⟩
      refine ⟨_, _, rfl, rfl, ?_⟩
      refine WL.bo rfl rfl (or64 (Nat.or_lt_two_pow (Nat.or_lt_two_pow (Nat.or_lt_two_pow (Nat.and_lt_two_pow _ msb_lt) (below_lt _ _)) (equal8_lt _ _)) (equal8_lt _ _)) (equal8_lt _ _) _ _) rfl ?_
      by_cases hz : le8 x0 x1 x2 x3 x4 x5 x6 x7 &&& MSB ||| below (le8 x0 x1 x2 x3 x4 x5 x6 x7) 32 ||| equal8 (le8 x0 x1 x2 x3 x4 x5 x6 x7) 34 ||| equal8 (le8 x0 x1 x2 x3 x4 x5 x6 x7) 92 ||| equal8 (le8 x0 x1 x2 x3 x4 x5 x6 x7) 127 = 0
      · obtain ⟨hz1, hz2⟩ := or_zero hz
        obtain ⟨hz1, hz4⟩ := or_zero hz1
        obtain ⟨hz1, hz3⟩ := or_zero hz1
        have hf := fast_of hz1
        have hq := equal_of (m := 127) (by omega) hf hz2
        have hq2 := equal_of (m := 34) (by omega) hf hz3
        have hq3 := equal_of (m := 92) (by omega) hf hz4
        rw [ht] at hcm2
        obtain ⟨o'', hcm3, rfl⟩ := hcm2.eight hf hq hq2 hq3
        have hout3 := taken_eight hout (by omega) hi ht
        rw [htd] at hcm3
        clear hq hf hq2 hq3 hBA
        generalize le8 x0 x1 x2 x3 x4 x5 x6 x7 &&& MSB ||| below (le8 x0 x1 x2 x3 x4 x5 x6 x7) 32 ||| equal8 (le8 x0 x1 x2 x3 x4 x5 x6 x7) 34 ||| equal8 (le8 x0 x1 x2 x3 x4 x5 x6 x7) 92 ||| equal8 (le8 x0 x1 x2 x3 x4 x5 x6 x7) 127 = z at hz ⊢
        subst hz
        repeat (first | refine WL.pp rfl ?_ | refine WL.ns ?_ | refine WC.dF rfl (by first | omega | decide) ?_ | refine WC.reg ?_ | refine WL.nil ?_ | refine X.sn ?_ | refine X.bn ?_ | refine WC.skip ?_ | refine WL.ad rfl rfl (by omega) rfl ?_)
        refine X.again (i + 8) ⟨hS2.trans hS3, by omega, h8, _, hcm3, hout3⟩ (by omega) ⟨rfl, rfl, rfl, trivial⟩
      · generalize le8 x0 x1 x2 x3 x4 x5 x6 x7 &&& MSB ||| below (le8 x0 x1 x2 x3 x4 x5 x6 x7) 32 ||| equal8 (le8 x0 x1 x2 x3 x4 x5 x6 x7) 34 ||| equal8 (le8 x0 x1 x2 x3 x4 x5 x6 x7) 92 ||| equal8 (le8 x0 x1 x2 x3 x4 x5 x6 x7) 127 = z at hz ⊢
        repeat (first | refine WL.pp rfl ?_ | refine WL.ns ?_ | refine WC.dT rfl (by first | omega | decide) ?_ | refine X.sx ?_ | refine X.bx ?_ | refine X.bo rfl ?_ | refine WC.exit ?_)
        refine X.cut i ⟨hS2.trans hS3, hji, hi, _, hcm2, hout⟩ ⟨rfl, rfl, rfl, trivial⟩
    · repeat (first | refine WL.pp rfl ?_ | refine WL.ns ?_ | refine WC.sr ?_ | refine WC.dF rfl (by first | omega | decide) ?_ | refine WC.seq ?_ | refine X.sx ?_ | refine X.bx ?_ | refine WC.exit ?_ | refine WL.ad rfl rfl (by omega) rfl ?_)
      refine X.cut i ⟨hS2, hji, hi, _, hcm2, hout⟩ ⟨rfl, rfl, rfl, trivial⟩
  · clear hcm hj hS1
    rintro i w2 ⟨hS2, hji, hi, o', hcm2, hout⟩
    by_cases hlt : i < l0.length
    · have hD2 := hS2.at hD
      have hc : l0[i]? = some l0[i] := List.getElem?_eq_getElem hlt
      have hdr : l0.drop i = l0[i] :: l0.drop (i + 1) := List.drop_eq_getElem_cons hlt
      rw [hdr] at hcm2
      have hat := fun {i : Nat} {c : UInt8} (h : l0[i]? = some c) => hv.at hD2 h
      generalize l0[i] = c at hc hcm2 hdr
      by_cases h128 : 128 ≤ c.toNat
      · obtain ⟨m, o'', hm, hcm3, rfl⟩ := hcm2.run
        have hpos := hm.pos h128
        rw [← hdr] at hm hcm3 hout
        rw [List.drop_drop] at hcm3
        have hmle := hm.le
        simp only [List.length_drop] at hmle
        have hout3 := taken_step hout (by omega) hi
        repeat (first | refine WL.pp rfl ?_ | refine WL.ns ?_ | refine WC.sr ?_ | refine WC.dF rfl (by first | omega | decide) ?_ | refine WL.ix (i := i) rfl rfl rfl (by omega) rfl ?_ | refine WL.ld rfl rfl (hat hc) rfl ?_ | refine WL.p rfl ?_ | refine WC.seq ?_ | refine WC.block ?_ | refine X.sn ?_ | refine WC.skip ?_ | refine WL.gT rfl rfl (by first | omega | decide) ?_ | refine WL.gF rfl rfl (by first | omega | decide) ?_)
        refine WL.call rfl rfl rfl (utf8Run_any _ l0 i m w2 hv hi hm hD2) ?_
        rintro e w3 ⟨rfl, rfl⟩
        refine ⟨_, _, rfl, rfl, ?_⟩
        repeat (first | refine WL.pp rfl ?_ | refine WL.ns ?_ | refine WC.sr ?_ | refine WC.bF rfl (by first | with_reducible rfl | exact Bool.not_true) ?_ | refine X.bn ?_ | refine WC.skip ?_)
        refine X.again (i + m) ⟨hS2, by omega, by omega, _, hcm3, hout3⟩ (by omega) ⟨rfl, rfl, rfl, trivial⟩
      · by_cases h34 : c.toNat = 34
        · have h34' : c = 34 := UInt8.toNat_inj.1 h34
          subst h34'
          obtain ⟨rfl, hr⟩ := hcm2.closed
          repeat (first | refine WL.pp rfl ?_ | refine WL.ns ?_ | refine WC.sr ?_ | refine WC.dT rfl (by first | omega | decide) ?_ | refine WC.dF rfl (by first | omega | decide) ?_ | refine WL.ix (i := i) rfl rfl rfl (by omega) rfl ?_ | refine WL.ld rfl rfl (hat hc) rfl ?_ | refine WC.seq ?_ | refine WC.block ?_ | refine X.sn ?_ | refine WC.skip ?_)
          refine WC.drx (fun _ => True) ?_
          repeat (first | refine WX.p (by kernel_rfl) (by first | trivial | assumption) rfl ?_ | refine WX.ad (by kernel_rfl) (by first | trivial | assumption) rfl rfl (by omega) rfl ?_)
          refine WX.sS (i + 1) 0 (by kernel_rfl) trivial rfl rfl (Sf.mk _ _ _) rfl (by simp) (by omega) (fun _ => rfl) (fun ad1 hs1 => ?_)
          repeat (refine WX.p (by kernel_rfl) (by first | trivial | assumption) rfl ?_)
          refine WX.sS (i - 1) 1 (by kernel_rfl) trivial rfl rfl (Sf.mk _ _ _) rfl (by simp; omega) (by omega) (fun _ => rfl) (fun ad2 hs2 => ?_)
          repeat (first | refine WX.p (by kernel_rfl) (by first | trivial | assumption) rfl ?_ | refine WX.ad (by kernel_rfl) (by first | trivial | assumption) rfl rfl (by omega) rfl ?_)
          refine WX.sS (l0.length - (i + 1)) (i + 1) (by kernel_rfl) trivial rfl rfl (Sf.mk _ _ _) (by simp) (by simp; omega) (by omega) (fun _ => rfl) (fun ad3 hs3 => ?_)
          repeat (refine WX.p (by kernel_rfl) (by first | trivial | assumption) rfl ?_)
          refine WX.nil ?_
          repeat (first | refine X.sn ?_ | refine X.sr ?_ | refine X.br ?_ | refine WC.ret ?_)
          refine X.ret_ rfl rfl ⟨_, _, _, rfl, hv.rg 0 (i + 1) (by omega) _, ?_, ?_, hS2.drew.up⟩
          · have := hv.sub (w := w2.drew) hD2 1 (i - 1) (by omega) hs2
            have e : (l0.drop 1).take (i - 1) = out := by rw [hout, List.append_nil, List.drop_take]
            rw [e] at this; exact this
          · have := hv.drop (i + 1) (by omega) hs3
            rw [hr]
            exact this
        · by_cases h92 : c.toNat = 92
          · have h92' : c = 92 := UInt8.toNat_inj.1 h92
            subst h92'
            rw [← hdr] at hcm2
            repeat (first | refine WL.pp rfl ?_ | refine WL.ns ?_ | refine WC.sr ?_ | refine WC.dT rfl (by first | omega | decide) ?_ | refine WC.dF rfl (by first | omega | decide) ?_ | refine WL.ix (i := i) rfl rfl rfl (by omega) rfl ?_ | refine WL.ld rfl rfl (hat hc) rfl ?_ | refine WC.seq ?_ | refine WC.block ?_ | refine X.sn ?_ | refine WC.skip ?_)
            refine WL.call rfl rfl rfl (escaped_any p _ l0 o' out r i w2 hv hE hcm2 (by omega) hlt hout hD2) ?_
            rintro e w3 ⟨v1, v2, v3, rfl, h4, h5, h6, h7⟩
            refine ⟨_, _, rfl, rfl, ?_⟩
            repeat (first | refine WL.pp rfl ?_ | refine WL.ns ?_ | refine X.sr ?_ | refine X.br ?_ | refine WC.ret ?_)
            refine X.ret_ rfl rfl ⟨_, _, _, rfl, h4, h5, h6, hS2.up.trans (h7.mono (by rw [hS2.heap]; exact Nat.le_refl _))⟩
          · by_cases hp : 32 ≤ c.toNat ∧ c.toNat < 127 ∨ c.toNat = 9
            · obtain ⟨o'', hcm3, rfl⟩ := hcm2.plain hp h34 h92
              have hout3 := taken_one hout (by omega) hi hdr
              rcases hp with ⟨hp1, hp2⟩ | hp
              all_goals
                repeat (first | refine WL.pp rfl ?_ | refine WL.ns ?_ | refine WC.sr ?_ | refine WC.bF rfl (by first | with_reducible rfl | exact Bool.not_true) ?_ | refine WC.dT rfl (by first | omega | decide) ?_ | refine WC.dF rfl (by first | omega | decide) ?_ | refine WL.ix (i := i) rfl rfl rfl (by omega) rfl ?_ | refine WL.ld rfl rfl (hat hc) rfl ?_ | refine WL.p rfl ?_ | refine WC.seq ?_ | refine WC.reg ?_ | refine WC.block ?_ | refine WL.nil ?_ | refine X.sn ?_ | refine X.bn ?_ | refine WC.skip ?_ | refine WL.ad rfl rfl (by omega) rfl ?_ | refine WL.gT rfl rfl (by first | omega | decide) ?_ | refine WL.gF rfl rfl (by first | omega | decide) ?_)
                refine X.again (i + 1) ⟨hS2, by omega, by omega, _, hcm3, hout3⟩ (by omega) ⟨rfl, rfl, rfl, trivial⟩
            · exact absurd (hcm2.other hp) (by omega)
    · have : i = l0.length := by omega
      subst this
      rw [List.drop_length] at hcm2
      exact (hcm2.nil).elim
end
end Go.Proofs.YtaccphdkapmdhaaGreat

namespace Go.Proofs.YtaccphdkapmdhaaGreat
attribute [local irreducible] binOp IntKind.wrap Sem.run

set_option maxHeartbeats 4000000 in
theorem bareChar_any (c : UInt8) (w : World) : Calls PP 137 #[u8 c] w fun e w' => e = .returned (.bool (isBare c)) ∧ w' = w := by
  refine enter (L := [(0, u8 c)]) Tryz.func137 rfl rfl rfl ⟨rfl, trivial⟩ ?_
  have key : c.toNat < 45 ∨ c.toNat = 45 ∨ (45 < c.toNat ∧ c.toNat < 48) ∨ (48 ≤ c.toNat ∧ c.toNat ≤ 57) ∨ (57 < c.toNat ∧ c.toNat < 65) ∨ (65 ≤ c.toNat ∧ c.toNat ≤ 90) ∨ (90 < c.toNat ∧ c.toNat < 95) ∨ c.toNat = 95 ∨ c.toNat = 96 ∨ (97 ≤ c.toNat ∧ c.toNat ≤ 122) ∨ 122 < c.toNat := by omega
  rcases key with h | h | h | h | h | h | h | h | h | h | h
  all_goals
    repeat (first | refine WL.pp rfl ?_ | refine WL.ns ?_ | refine WC.sr ?_ | refine WL.p rfl ?_ | refine WC.ret ?_ | refine WL.gT rfl rfl (by first | omega | decide) ?_ | refine WL.gF rfl rfl (by first | omega | decide) ?_)
    refine X.ret_ rfl rfl ⟨?_, rfl⟩
    refine congrArg Ending.returned (congrArg Value.bool ?_)
    first
      | (rw [dc_of (by omega)]; simp only [isBare]; symm; rw [decide_eq_true_eq]; omega)
      | (rw [dc_not (by omega)]; simp only [isBare]; symm; rw [decide_eq_false_iff_not]; omega)
      | (simp only [isBare]; symm; rw [decide_eq_true_eq]; omega)

section
variable {bd C E : Nat} {dc : Array Value} {fz : Nat × Nat}

theorem isBare_cases {c : UInt8} (h : isBare c = true) : c.toNat ≠ 39 ∧ c.toNat ≠ 34 := by
  simp only [isBare, decide_eq_true_eq] at h
  omega

set_option maxRecDepth 100000 in
set_option maxHeartbeats 4000000 in
theorem scanKey_any (p v : Value) (b k r : Bs) (w : World) (hv : Suf bd C E dc v b) (hE : E ≤ 100000000) (hk : KP b k r) (hD : w.heap[bd]? = some (.cells dc 5 fz)) :
    Calls PP 128 #[p, v] w fun e w' => ∃ v1 v2 v3, e = .returned (.tuple #[v1, v2, v3, .nilIface]) ∧ Rg C E v1 ∧ RB w' v2 k ∧ Suf bd C E dc v3 r ∧ Up w.heap.size w w' := by
  have hC := hv.C62
  have hle := hv.le
  have hEC := hv.EC
  refine enter (L := [(0, p), (1, v)]) Tryz.func128 rfl rfl rfl ⟨rfl, rfl, trivial⟩ ?_
  cases hk with
  | lit h =>
    have hcell := hv.cell hD
    have hv' := hv
    have hcons := hv.cons
    subst hcons
    simp only [List.length_cons] at hle
    repeat (first | refine WL.pp rfl ?_ | refine WL.ns ?_ | refine WC.sr ?_ | refine WC.dT rfl (by first | omega | decide) ?_ | refine WC.dF rfl (by first | omega | decide) ?_ | refine WL.ix (i := 0) rfl rfl rfl (by omega) rfl ?_ | refine WL.ld rfl rfl hcell rfl ?_ | refine WC.seq ?_ | refine WC.block ?_ | refine X.sn ?_ | refine WC.skip ?_)
    refine WL.call rfl rfl rfl (literal_any p _ _ _ _ w hv' h hD) ?_
    rintro e w2 ⟨v1, v2, v3, rfl, h1, h2, h3, h4⟩
    refine ⟨_, _, rfl, rfl, ?_⟩
    repeat (first | refine WL.pp rfl ?_ | refine WL.ns ?_ | refine X.br ?_ | refine WC.ret ?_)
    exact X.ret_ rfl rfl ⟨_, _, _, rfl, h1, h2, h3, h4.up⟩
  | bas h =>
    have hcell := hv.cell hD
    have hv' := hv
    have hcons := hv.cons
    subst hcons
    simp only [List.length_cons] at hle
    repeat (first | refine WL.pp rfl ?_ | refine WL.ns ?_ | refine WC.sr ?_ | refine WC.dT rfl (by first | omega | decide) ?_ | refine WC.dF rfl (by first | omega | decide) ?_ | refine WL.ix (i := 0) rfl rfl rfl (by omega) rfl ?_ | refine WL.ld rfl rfl hcell rfl ?_ | refine WC.seq ?_ | refine WC.block ?_ | refine X.sn ?_ | refine WC.skip ?_)
    refine WL.call rfl rfl rfl (basic_any p _ _ _ _ w hv' h hE hD) ?_
    rintro e w2 ⟨v1, v2, v3, rfl, h1, h2, h3, h4⟩
    refine ⟨_, _, rfl, rfl, ?_⟩
    repeat (first | refine WL.pp rfl ?_ | refine WL.ns ?_ | refine X.br ?_ | refine WC.ret ?_)
    exact X.ret_ rfl rfl ⟨_, _, _, rfl, h1, h2, h3, h4⟩
  | bare h1 h2 h3 =>
    have hlen : (k ++ r).length = k.length + r.length := by simp
    have hk0 : 0 < k.length := List.length_pos_iff.2 h1
    have hval := hv.val (by omega)
    obtain ⟨c, hc⟩ : ∃ c, (k ++ r)[0]? = some c := ⟨_, List.getElem?_eq_getElem (by omega)⟩
    have hcell := hv.at hD hc
    have hcb : isBare c = true := h2 c (by
      rw [List.getElem?_append_left hk0] at hc
      exact List.mem_of_getElem? hc)
    obtain ⟨hn1, hn2⟩ := isBare_cases hcb
    generalize hl0 : k ++ r = l0 at *
    subst hval
    repeat (first | refine WL.pp rfl ?_ | refine WL.ns ?_ | refine WC.sr ?_ | refine WC.dF rfl (by first | omega | decide) ?_ | refine WL.ix (i := 0) rfl rfl rfl (by omega) rfl ?_ | refine WL.ld rfl rfl hcell rfl ?_ | refine WC.cut (x := .block _ (.loop _)) (σ := Unit) (fun _ w' => w' = w) (fun _ => [(1, .slice (some ⟨bd, E - l0.length, none⟩) l0.length (C - (E - l0.length))), (8, .int .i64 (k.length : Int))]) ?_ ?_ | refine WC.seq ?_ | refine WC.block ?_ | refine X.sn ?_ | refine WC.skip ?_)
    · skip
      refine WC.loop (σ := Nat) (I := fun j w' => w' = w ∧ j ≤ k.length) (m := fun j => k.length - j) (Lf := fun j => [(1, .slice (some ⟨bd, E - l0.length, none⟩) l0.length (C - (E - l0.length))), (8, .int .i64 (j : Int))]) 0 ⟨rfl, Nat.zero_le _⟩ ⟨rfl, rfl, trivial⟩ ?_
      rintro j w1 ⟨rfl, hj⟩
      by_cases hjk : j < k.length
      · have hcj : l0[j]? = some k[j] := by rw [← hl0, List.getElem?_append_left hjk, List.getElem?_eq_getElem hjk]
        have hcj2 := hv.at hD hcj
        have hb := h2 k[j] (by simp)
        generalize k[j] = c at hcj2 hb
        repeat (first | refine WL.pp rfl ?_ | refine WC.sr ?_ | refine WL.ix (i := j) rfl rfl rfl (by omega) rfl ?_ | refine WL.ld rfl rfl hcj2 rfl ?_ | refine WL.p rfl ?_ | refine WC.seq ?_ | refine WL.gT rfl rfl (by first | omega | decide) ?_)
        refine WL.call rfl rfl rfl (bareChar_any c w1) ?_
        rintro e w2 ⟨rfl, rfl⟩
        rw [hb]
        refine ⟨_, _, rfl, rfl, ?_⟩
        repeat (first | refine WL.pp rfl ?_ | refine WL.ns ?_ | refine WC.bT rfl (by first | with_reducible rfl | exact Bool.not_false) ?_ | refine WL.p rfl ?_ | refine WC.reg ?_ | refine WC.block ?_ | refine WL.nil ?_ | refine X.sn ?_ | refine X.bn ?_ | refine WC.skip ?_ | refine WL.ad rfl rfl (by omega) rfl ?_)
        exact X.again (j + 1) ⟨rfl, by omega⟩ (by omega) ⟨rfl, rfl, trivial⟩
      · have hjk' : j = k.length := by omega
        subst hjk'
        cases r with
        | nil =>
          simp only [List.length_nil, Nat.add_zero] at hlen
          repeat (first | refine WL.pp rfl ?_ | refine WL.ns ?_ | refine WC.sr ?_ | refine WC.bF rfl (by first | with_reducible rfl | exact Bool.not_true) ?_ | refine WL.p rfl ?_ | refine WC.seq ?_ | refine X.sx ?_ | refine X.bx ?_ | refine WC.exit ?_ | refine WL.gF rfl rfl (by first | omega | decide) ?_)
          exact X.cut () rfl ⟨rfl, rfl, trivial⟩
        | cons c r =>
          simp only [List.length_cons] at hlen
          have hcj : l0[k.length]? = some c := by rw [← hl0, List.getElem?_append_right (Nat.le_refl _)]; simp
          have hcj2 := hv.at hD hcj
          have hb := h3 c rfl
          repeat (first | refine WL.pp rfl ?_ | refine WC.sr ?_ | refine WL.ix (i := k.length) rfl rfl rfl (by omega) rfl ?_ | refine WL.ld rfl rfl hcj2 rfl ?_ | refine WL.p rfl ?_ | refine WC.seq ?_ | refine WL.gT rfl rfl (by first | omega | decide) ?_)
          refine WL.call rfl rfl rfl (bareChar_any c w1) ?_
          rintro e w2 ⟨rfl, rfl⟩
          rw [hb]
          refine ⟨_, _, rfl, rfl, ?_⟩
          repeat (first | refine WL.ns ?_ | refine WC.bF rfl (by first | with_reducible rfl | exact Bool.not_true) ?_ | refine WL.p rfl ?_ | refine X.sx ?_ | refine X.bx ?_ | refine WC.exit ?_)
          exact X.cut () rfl ⟨rfl, rfl, trivial⟩
    · rintro _ w1 rfl
      repeat (first | refine WL.pp rfl ?_ | refine WL.ns ?_ | refine WC.sr ?_ | refine WC.dF rfl (by first | omega | decide) ?_ | refine WC.seq ?_ | refine X.sn ?_ | refine WC.skip ?_)
      refine WC.drx (fun _ => True) ?_
      repeat (refine WX.p (by kernel_rfl) (by first | trivial | assumption) rfl ?_)
      refine WX.sS k.length 0 (by kernel_rfl) trivial rfl rfl (Sf.mk _ _ _) rfl (by simp) (by omega) (fun _ => rfl) (fun ad1 hs1 => ?_)
      repeat (refine WX.p (by kernel_rfl) (by first | trivial | assumption) rfl ?_)
      refine WX.sS k.length 0 (by kernel_rfl) trivial rfl rfl (Sf.mk _ _ _) rfl (by simp) (by omega) (fun _ => rfl) (fun ad2 hs2 => ?_)
      repeat (refine WX.p (by kernel_rfl) (by first | trivial | assumption) rfl ?_)
      refine WX.sS (l0.length - k.length) k.length (by kernel_rfl) trivial rfl rfl (Sf.mk _ _ _) (by simp) (by simp; omega) (by omega) (fun _ => rfl) (fun ad3 hs3 => ?_)
      repeat (refine WX.p (by kernel_rfl) (by first | trivial | assumption) rfl ?_)
      refine WX.nil ?_
      repeat (first | refine X.sn ?_ | refine X.br ?_ | refine WC.ret ?_)
      refine X.ret_ rfl rfl ⟨_, _, _, rfl, hv.rg 0 k.length (by omega) _, ?_, ?_, (Up.refl _ _).drew⟩
      · have := hv.sub (w := w1.drew) hD 0 k.length (by omega) hs2
        have e : (l0.drop 0).take k.length = k := by rw [List.drop_zero, ← hl0, List.take_left]
        rw [e] at this; exact this
      · have := hv.drop k.length (by omega) hs3
        rw [← hl0, List.drop_left] at this
        rw [hl0] at this
        exact this
end
end Go.Proofs.YtaccphdkapmdhaaGreat

namespace Go.Proofs.YtaccphdkapmdhaaGreat

section
attribute [local semireducible] WL WC X WD
variable {all : List Oper} {Q : Exit → Act → World → Prop} {N : Nat} {L L' : Env} {o : Oper} {rest : List Oper} {w : World} {S : World → Prop} {fuel : Nat} {listed : Array Bool}

theorem WD.weaken (L' : Env) (ha : Agree L' L) (k : WD all Q N S fuel listed L' w) : WD all Q N S fuel listed L w := fun a hf => k a (hf.weaken ha)

/-- Two that may come up: either may. -/
theorem WD.br {i j : Nat} {oi oj : Oper} {vi vj : Value} {wi wj : World} {Li Lj : Env} (hr : Region.ready .any all.toArray listed = [i, j]) (hi : all[i]? = some oi) (hj : all[j]? = some oj)
    (gi : grd all L oi = some true) (gj : grd all L oj = some true) (ri : ∀ a, Fr N L a → (execOp a.eval oi).run PP w = .ok (.value vi) wi) (rj : ∀ a, Fr N L a → (execOp a.eval oj).run PP w = .ok (.value vj) wj)
    (si : S wi) (sj : S wj) (di : dstE N oi vi L = some Li) (dj : dstE N oj vj L = some Lj)
    (ki : WD all Q N S fuel (listed.setIfInBounds i true) Li wi) (kj : WD all Q N S fuel (listed.setIfInBounds j true) Lj wj) : WD all Q N S (fuel + 1) listed L w := fun a hf => by
  refine wpAnyH_all hr (by simp) fun m hm => ?_
  have hm' : m = i ∨ m = j := by simpa using hm
  rcases hm' with rfl | rfl
  · unfold wpOp
    have hi' : (all.toArray)[m]? = some oi := by simpa using hi
    simp only [hi', grd_ok hf gi, if_true]
    refine .inl ?_
    unfold Oper.wp
    rw [ri a hf]
    exact ⟨si, ki _ (dstE_ok hf di)⟩
  · unfold wpOp
    have hj' : (all.toArray)[m]? = some oj := by simpa using hj
    simp only [hj', grd_ok hf gj, if_true]
    refine .inl ?_
    unfold Oper.wp
    rw [rj a hf]
    exact ⟨sj, kj _ (dstE_ok hf dj)⟩

theorem apRun {B t e s n m c : Nat} {v : Value} {xs : List Value} {ad : Addr} (news : List Value) (h : apA L o.op = some (t, v, .slice (some ad) m c))
    (ht : rowT t = some (e, s)) (hown : w.ownsRow B e s v n xs) (hl : news.length = m * s) (hnews : ∀ j u, news[j]? = some u → w.cell? (ad.add j) = some u) (h1 : ∀ u ∈ news, oneV u = true)
    (hm : n + m ≤ 1099511627776) (hB : B ≤ w.heap.size) :
    ∃ v' w', (∀ a, Fr N L a → (execOp a.eval o).run PP w = .ok (.value v') w') ∧ w'.ownsRow B e s v' (n + m) (xs ++ news) ∧ Up B w w' ∧ w.grownBy w' v.ownBlock := by
  obtain ⟨i, z, hu, hi, hz, hsz, hby, hzs, h0⟩ := row_parts ht
  have hone : ∀ u ∈ news, u.oneCell' = true := fun u hu => by
    have := h1 u hu
    cases u <;> first | rfl | (simp [oneV] at this)
  have hbb : (n + m) * i.bytes ≤ 140737488355328 := by
    have := Nat.mul_le_mul hm hby
    omega
  obtain ⟨v', w', hr, h2, h3, h4⟩ := run_append_own (P := PP) w B t o.type e i z s i.bytes hu hi hz hsz rfl hzs h0 v n xs hown ad m c news hl hnews hone (by simp only [maxLen]; omega) hbb hB
  exact ⟨v', w', fun a hf => by rw [apA_run hf h]; simp [hr], h2, Up.of_grown h3 (fun k hk => (hown.lt k hk).1) hB, h3⟩
end

/-! ### Nodes -/
def isSl : Value → Prop
  | .slice _ _ _ => True
  | _ => False

/-- The cells of nodes. -/
structure NodeIs (w : World) (pp : Nat) (n : ANode) (xs : List Value) (k : Nat) : Prop where
  kind : xs[k]? = some (.int .i64 n.kind)
  raw : ∃ a b : Int, xs[k + 1]? = some (.int .u32 a) ∧ xs[k + 2]? = some (.int .u32 b)
  data : ∃ d, xs[k + 3]? = some d ∧ isSl d ∧ ∀ s, n.data = some s → RB w d s
  parser : xs[k + 4]? = some (.pointer (some ⟨pp, 0, none⟩))
  next : xs[k + 5]? = some (.int .i32 n.next)
  child : xs[k + 6]? = some (.int .i32 n.child)

def NL (w : World) (pp : Nat) (ns : List ANode) (xs : List Value) : Prop := ∀ (i : Nat) (n : ANode), ns[i]? = some n → NodeIs w pp n xs (i * 7)

theorem NodeIs.fm {B T w w' pp n xs k} (h : NodeIs w pp n xs k) (hf : Fm B T w w') (hT : 5 ∉ T) : NodeIs w' pp n xs k := by
  obtain ⟨d, h1, h2, h3⟩ := h.data
  exact ⟨h.kind, h.raw, ⟨d, h1, h2, fun s hs => (h3 s hs).fm hf hT⟩, h.parser, h.next, h.child⟩

theorem NL.fm {B T w w' pp ns xs} (h : NL w pp ns xs) (hf : Fm B T w w') (hT : 5 ∉ T) : NL w' pp ns xs := fun i n hn => (h i n hn).fm hf hT

theorem NodeIs.app {w pp n xs ys k} (h : NodeIs w pp n xs k) : NodeIs w pp n (xs ++ ys) k := by
  have key : ∀ (j : Nat) (v : Value), xs[j]? = some v → (xs ++ ys)[j]? = some v := fun j v hj => by
    rw [List.getElem?_append_left (List.getElem?_eq_some_iff.1 hj).1]; exact hj
  obtain ⟨a, b, h1, h2⟩ := h.raw
  obtain ⟨d, h3, h4, h5⟩ := h.data
  exact ⟨key _ _ h.kind, ⟨a, b, key _ _ h1, key _ _ h2⟩, ⟨d, key _ _ h3, h4, h5⟩, key _ _ h.parser, key _ _ h.next, key _ _ h.child⟩

theorem NL.snoc {w pp ns xs n ys} (h : NL w pp ns xs) (hl : xs.length = ns.length * 7) (hn : NodeIs w pp n ys 0) : NL w pp (ns ++ [n]) (xs ++ ys) := by
  intro i m hm
  by_cases hi : i < ns.length
  · rw [List.getElem?_append_left hi] at hm
    exact (h i m hm).app
  · have hi' : i = ns.length := by
      have := (List.getElem?_eq_some_iff.1 hm).1
      simp at this; omega
    subst hi'
    rw [List.getElem?_append_right (Nat.le_refl _), Nat.sub_self] at hm
    simp only [List.getElem?_cons_zero, Option.some.injEq] at hm
    subst hm
    have key : ∀ (j : Nat) (v : Value), ys[j]? = some v → (xs ++ ys)[ns.length * 7 + j]? = some v := fun j v hj => by
      rw [List.getElem?_append_right (by omega), hl, Nat.add_sub_cancel_left]; exact hj
    obtain ⟨a, b, h1, h2⟩ := hn.raw
    obtain ⟨d, h3, h4, h5⟩ := hn.data
    simp only [Nat.zero_add] at h1 h2 h3
    have h6 := hn.parser
    have h7 := hn.next
    have h8 := hn.child
    simp only [Nat.zero_add] at h6 h7 h8
    exact ⟨key 0 _ hn.kind, ⟨a, b, key 1 _ h1, key 2 _ h2⟩, ⟨d, key 3 _ h3, h4, h5⟩, key 4 _ h6, key 5 _ h7, key 6 _ h8⟩

/-- Each cell of nodes is one cell. -/
theorem NL.one {w pp ns xs} (h : NL w pp ns xs) (hl : xs.length = ns.length * 7) : ∀ u ∈ xs, oneV u = true := by
  intro u hu
  obtain ⟨j, hj, rfl⟩ := List.getElem_of_mem hu
  have hi : j / 7 < ns.length := by omega
  have hn := h (j / 7) ns[j / 7] (List.getElem?_eq_getElem hi)
  have hj' : xs[j]? = some xs[j] := List.getElem?_eq_getElem hj
  have key : ∀ (k : Nat) (v : Value), j % 7 = k → xs[j / 7 * 7 + k]? = some v → xs[j] = v := fun k v hk hv => by
    have e : j / 7 * 7 + k = j := by omega
    rw [e, hj'] at hv
    simpa using hv
  obtain ⟨a, b, h1, h2⟩ := hn.raw
  obtain ⟨d, h3, h4, h5⟩ := hn.data
  have hm : j % 7 = 0 ∨ j % 7 = 1 ∨ j % 7 = 2 ∨ j % 7 = 3 ∨ j % 7 = 4 ∨ j % 7 = 5 ∨ j % 7 = 6 := by omega
  rcases hm with e | e | e | e | e | e | e
  · rw [key 0 _ e hn.kind]; rfl
  · rw [key 1 _ e h1]; rfl
  · rw [key 2 _ e h2]; rfl
  · rw [key 3 _ e h3]; cases d <;> first | rfl | (exact h4.elim)
  · rw [key 4 _ e hn.parser]; rfl
  · rw [key 5 _ e hn.next]; rfl
  · rw [key 6 _ e hn.child]; rfl

theorem getElem_set5 {xs : List Value} {i j k f : Nat} {v u : Value} (hk : k < 7) (hf : f < 7) (hne : i ≠ j ∨ k ≠ f) (h : xs[i * 7 + k]? = some u) : (xs.set (j * 7 + f) v)[i * 7 + k]? = some u := by
  rw [List.getElem?_set_ne (by omega)]; exact h

theorem NL.setNext {w pp ns xs} (h : NL w pp ns xs) (j v : Nat) {n : ANode} (hj : ns[j]? = some n) : NL w pp (ns.set j { n with next := v }) (xs.set (j * 7 + 5) (.int .i32 v)) := by
  intro i m hm
  by_cases hij : i = j
  · subst hij
    have hlt := (List.getElem?_eq_some_iff.1 hj).1
    rw [List.getElem?_set_self hlt] at hm
    simp only [Option.some.injEq] at hm
    subst hm
    have h0 := h i n hj
    obtain ⟨a, b, h1, h2⟩ := h0.raw
    obtain ⟨d, h3, h4, h5⟩ := h0.data
    refine ⟨getElem_set5 (k := 0) (by omega) (by omega) (.inr (by omega)) h0.kind, ⟨a, b, getElem_set5 (by omega) (by omega) (.inr (by omega)) h1, getElem_set5 (by omega) (by omega) (.inr (by omega)) h2⟩,
      ⟨d, getElem_set5 (by omega) (by omega) (.inr (by omega)) h3, h4, h5⟩, getElem_set5 (by omega) (by omega) (.inr (by omega)) h0.parser, ?_, getElem_set5 (by omega) (by omega) (.inr (by omega)) h0.child⟩
    rw [List.getElem?_set_self (List.getElem?_eq_some_iff.1 h0.next).1]
  · rw [List.getElem?_set_ne (Ne.symm hij)] at hm
    have h0 := h i m hm
    obtain ⟨a, b, h1, h2⟩ := h0.raw
    obtain ⟨d, h3, h4, h5⟩ := h0.data
    exact ⟨getElem_set5 (k := 0) (by omega) (by omega) (.inl hij) h0.kind, ⟨a, b, getElem_set5 (by omega) (by omega) (.inl hij) h1, getElem_set5 (by omega) (by omega) (.inl hij) h2⟩,
      ⟨d, getElem_set5 (by omega) (by omega) (.inl hij) h3, h4, h5⟩, getElem_set5 (by omega) (by omega) (.inl hij) h0.parser, getElem_set5 (by omega) (by omega) (.inl hij) h0.next, getElem_set5 (by omega) (by omega) (.inl hij) h0.child⟩

theorem NL.setChild {w pp ns xs} (h : NL w pp ns xs) (j v : Nat) {n : ANode} (hj : ns[j]? = some n) : NL w pp (ns.set j { n with child := v }) (xs.set (j * 7 + 6) (.int .i32 v)) := by
  intro i m hm
  by_cases hij : i = j
  · subst hij
    have hlt := (List.getElem?_eq_some_iff.1 hj).1
    rw [List.getElem?_set_self hlt] at hm
    simp only [Option.some.injEq] at hm
    subst hm
    have h0 := h i n hj
    obtain ⟨a, b, h1, h2⟩ := h0.raw
    obtain ⟨d, h3, h4, h5⟩ := h0.data
    refine ⟨getElem_set5 (k := 0) (by omega) (by omega) (.inr (by omega)) h0.kind, ⟨a, b, getElem_set5 (by omega) (by omega) (.inr (by omega)) h1, getElem_set5 (by omega) (by omega) (.inr (by omega)) h2⟩,
      ⟨d, getElem_set5 (by omega) (by omega) (.inr (by omega)) h3, h4, h5⟩, getElem_set5 (by omega) (by omega) (.inr (by omega)) h0.parser, getElem_set5 (by omega) (by omega) (.inr (by omega)) h0.next, ?_⟩
    rw [List.getElem?_set_self (List.getElem?_eq_some_iff.1 h0.child).1]
  · rw [List.getElem?_set_ne (Ne.symm hij)] at hm
    have h0 := h i m hm
    obtain ⟨a, b, h1, h2⟩ := h0.raw
    obtain ⟨d, h3, h4, h5⟩ := h0.data
    exact ⟨getElem_set5 (k := 0) (by omega) (by omega) (.inl hij) h0.kind, ⟨a, b, getElem_set5 (by omega) (by omega) (.inl hij) h1, getElem_set5 (by omega) (by omega) (.inl hij) h2⟩,
      ⟨d, getElem_set5 (by omega) (by omega) (.inl hij) h3, h4, h5⟩, getElem_set5 (by omega) (by omega) (.inl hij) h0.parser, getElem_set5 (by omega) (by omega) (.inl hij) h0.next, getElem_set5 (by omega) (by omega) (.inl hij) h0.child⟩

/-- The raw place of a node, set anew. -/
theorem NL.setRaw {w pp ns xs} (h : NL w pp ns xs) (j : Nat) (a b : Int) {n : ANode} (hj : ns[j]? = some n) : NL w pp ns ((xs.set (j * 7 + 1) (.int .u32 a)).set (j * 7 + 2) (.int .u32 b)) := by
  intro i m hm
  have h0 := h i m hm
  obtain ⟨a', b', h1, h2⟩ := h0.raw
  obtain ⟨d, h3, h4, h5⟩ := h0.data
  have two : ∀ {k : Nat} {u : Value}, k < 7 → k ≠ 1 → k ≠ 2 → xs[i * 7 + k]? = some u → ((xs.set (j * 7 + 1) (.int .u32 a)).set (j * 7 + 2) (.int .u32 b))[i * 7 + k]? = some u := fun hk h1 h2 h =>
    getElem_set5 hk (by omega) (.inr h2) (getElem_set5 hk (by omega) (.inr h1) h)
  refine ⟨two (k := 0) (by omega) (by omega) (by omega) h0.kind, ?_, ⟨d, two (by omega) (by omega) (by omega) h3, h4, h5⟩, two (by omega) (by omega) (by omega) h0.parser, two (by omega) (by omega) (by omega) h0.next, two (by omega) (by omega) (by omega) h0.child⟩
  by_cases hij : i = j
  · subst hij
    refine ⟨a, b, ?_, ?_⟩
    · rw [List.getElem?_set_ne (by omega), List.getElem?_set_self (List.getElem?_eq_some_iff.1 h1).1]
    · rw [List.getElem?_set_self (by rw [List.length_set]; exact (List.getElem?_eq_some_iff.1 h2).1)]
  · exact ⟨a', b', getElem_set5 (by omega) (by omega) (.inl hij) (getElem_set5 (by omega) (by omega) (.inl hij) h1), getElem_set5 (by omega) (by omega) (.inl hij) (getElem_set5 (by omega) (by omega) (.inl hij) h2)⟩

/-- The parser at block pp: its text, what is left, how deep, its nodes. -/
def PS (w : World) (pp : Nat) (data left : Value) (nest : Int) (ns : List ANode) : Prop :=
  ∃ nv xs, w.heap[pp]? = some (.cells ⟨[.bool false, data, left, nv, .nilIface, .int .i64 nest]⟩ 52 (0, 0)) ∧ w.ownsRow (pp + 1) 104 7 nv ns.length xs ∧ NL w pp ns xs

theorem own_same {w w' : World} {B e s n : Nat} {v : Value} {xs : List Value} (h : w.ownsRow B e s v n xs) (hk : ∀ k o, v.ownBlock = some k → w.heap[k]? = some o → w'.heap[k]? = some o) : w'.ownsRow B e s v n xs := by
  refine ⟨h.1, ?_⟩
  rcases h.2 with hn | ⟨g, cap, cur, rfl, hb, hgg, rest⟩
  · exact .inl hn
  · exact .inr ⟨g, cap, cur, rfl, hb, hk g _ rfl hgg, rest⟩

/-- Nothing has been done to the parser. -/
theorem PS.fm {B T w w' pp data left nest ns} (h : PS w pp data left nest ns) (hf : Fm B T w w') (h5 : 5 ∉ T) (h52 : 52 ∉ T) (h104 : 104 ∉ T) : PS w' pp data left nest ns := by
  obtain ⟨nv, xs, h1, h2, h3⟩ := h
  refine ⟨nv, xs, hf.keep _ _ h1 h52, ?_, h3.fm hf h5⟩
  refine ⟨h2.1, ?_⟩
  rcases h2.2 with hn | ⟨g, cap, cur, rfl, hb, hgg, rest⟩
  · exact .inl hn
  · exact .inr ⟨g, cap, cur, rfl, hb, hf.keep _ _ hgg h104, rest⟩
theorem PS.sm {w w' pp data left nest ns} (h : PS w pp data left nest ns) (hs : Sm w w') : PS w' pp data left nest ns := h.fm (B := 0) (T := []) hs.fm (by simp) (by simp) (by simp)
theorem PS.up {w w' pp data left nest ns} (h : PS w pp data left nest ns) (hs : Up w.heap.size w w') : PS w' pp data left nest ns := h.fm (B := 0) (T := []) (hs.fm (Nat.le_refl _) (Nat.zero_le _)) (by simp) (by simp) (by simp)
/-- A store into a block that was not there at first. -/
theorem Fm.stN {B T w w1 w' b o} (h : Fm B T w w1) (hS : St w1 b o w') (hb : w.heap.size ≤ b) (hB : B ≤ b) : Fm B T w w' :=
  ⟨hS.os.trans h.os, hS.tape.trans h.tape, hS.output.trans h.output, by rw [hS.size]; exact h.size, fun k hk => (hS.oth k (by omega)).trans (h.old k hk),
    fun k o ho ht => hS.keep (h.keep k o ho ht) (by have := lt_of_heap ho; omega), fun k o ho => by
      obtain ⟨o', h1, h2⟩ := h.tags k o ho
      exact ⟨o', hS.keep h1 (by have := lt_of_heap ho; omega), h2⟩⟩
theorem PS.lt {w pp data left nest ns} (h : PS w pp data left nest ns) : pp < w.heap.size := by
  obtain ⟨nv, xs, h1, _⟩ := h
  exact lt_of_heap h1

/-- The arena, where it holds a node. -/
theorem PS.open {w pp data left nest ns} (h : PS w pp data left nest ns) (h0 : 0 < ns.length) :
    ∃ g cap cur xs, w.heap[pp]? = some (.cells ⟨[.bool false, data, left, .slice (some ⟨g, 0, none⟩) ns.length cap, .nilIface, .int .i64 nest]⟩ 52 (0, 0)) ∧ pp < g ∧ w.heap[g]? = some (.cells cur 104 (0, 0)) ∧
      ns.length ≤ cap ∧ cap ≤ maxLen ∧ cur.size = cap * 7 ∧ cur.toList.take (ns.length * 7) = xs ∧ xs.length = ns.length * 7 ∧ NL w pp ns xs := by
  obtain ⟨nv, xs, h1, h2, h3⟩ := h
  rcases h2.2 with ⟨_, hn⟩ | ⟨g, cap, cur, rfl, hb, hg, hc, hm, hs, ht⟩
  · omega
  · exact ⟨g, cap, cur, xs, h1, hb, hg, hc, hm, hs, ht, h2.1, h3⟩

theorem take_set {cur : Array Value} {n i : Nat} {v : Value} : (cur.setIfInBounds i v).toList.take n = (cur.toList.take n).set i v := by
  rw [Array.toList_setIfInBounds, List.take_set]

/-- A store into the arena. -/
theorem PS.stored {w w' : World} {pp : Nat} {data left : Value} {nest : Int} {ns ns' : List ANode} {g cap : Nat} {cur cur' : Array Value} (h1 : w.heap[pp]? = some (.cells ⟨[.bool false, data, left, .slice (some ⟨g, 0, none⟩) ns.length cap, .nilIface, .int .i64 nest]⟩ 52 (0, 0)))
    (hg : pp < g) (hgb : w.heap[g]? = some (.cells cur 104 (0, 0))) (hc : ns.length ≤ cap) (hm : cap ≤ maxLen) (hs : cur'.size = cap * 7) (hl : ns'.length = ns.length)
    (hS : St w g (.cells cur' 104 (0, 0)) w') (hN : NL w pp ns' (cur'.toList.take (ns.length * 7))) : PS w' pp data left nest ns' := by
  have hf : Fm 0 [104] w w' := hS.fm hgb (Nat.zero_le _) (by simp [tag]) rfl
  refine ⟨_, cur'.toList.take (ns.length * 7), hS.keep h1 (by omega), ⟨?_, .inr ⟨g, cap, cur', ?_, hg, hS.at_, by omega, hm, hs, ?_⟩⟩, hN.fm hf (by decide)⟩
  · have e : cur'.toList.length = cap * 7 := by simpa using hs
    have := Nat.mul_le_mul_right 7 hc
    rw [List.length_take, hl, e]
    omega
  · rw [hl]
  · rw [hl]

end Go.Proofs.YtaccphdkapmdhaaGreat

