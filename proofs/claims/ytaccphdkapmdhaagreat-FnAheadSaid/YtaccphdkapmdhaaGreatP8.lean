/- What stands behind a stroke in a string; code points as bytes. What stands behind a stroke in a string. What stands behind a stroke; strings between double quotes. Strings between double quotes. Strings between double quotes. No condition. -/
import Derived.Test.YtaccphdkapmdhaaGreatP6
import Derived.Test.YtaccphdkapmdhaaGreatP7
namespace Go.Proofs.YtaccphdkapmdhaaGreat

theorem wrap8 (n : Nat) : IntKind.u8.wrap (n : Int) = ((n % 256 : Nat) : Int) := by
  have e : IntKind.u8.wrap (n : Int) = (n : Int) % 256 := by simp [IntKind.wrap, IntKind.bits, IntKind.signed]
  rw [e]; omega
theorem and63 (n t : Nat) (w : World) : (binOp .and t (.int .u8 ((n % 256 : Nat) : Int)) (.int .u8 63)).run PP w = .ok (.int .u8 ((n % 64 : Nat) : Int)) w := by
  have h := and8 (a := n % 256) (b := 63) (by omega) (by omega) t w
  rw [show n % 256 &&& 63 = n % 64 by rw [show (63 : Nat) = 2 ^ 6 - 1 by rfl, Nat.and_two_pow_sub_one_eq_mod]; omega] at h
  exact h
set_option maxRecDepth 10000 in
theorem or_128 {n : Nat} (h : n < 64) : 128 ||| n = 128 + n := by
  have key : ∀ m : Fin 64, 128 ||| m.val = 128 + m.val := by decide
  exact key ⟨n, h⟩
theorem or_192 {n : Nat} (h : n < 32) : 192 ||| n = 192 + n := by
  have key : ∀ m : Fin 32, 192 ||| m.val = 192 + m.val := by decide
  exact key ⟨n, h⟩
theorem or_224 {n : Nat} (h : n < 16) : 224 ||| n = 224 + n := by
  have key : ∀ m : Fin 16, 224 ||| m.val = 224 + m.val := by decide
  exact key ⟨n, h⟩
theorem or_240 {n : Nat} (h : n < 8) : 240 ||| n = 240 + n := by
  have key : ∀ m : Fin 8, 240 ||| m.val = 240 + m.val := by decide
  exact key ⟨n, h⟩
theorem or128 (n t : Nat) (w : World) : (binOp .or t (.int .u8 128) (.int .u8 ((n % 64 : Nat) : Int))).run PP w = .ok (.int .u8 ((128 + n % 64 : Nat) : Int)) w := or8 (a := 128) (by omega) (by omega) (or_128 (by omega)) t w
theorem or192 {n : Nat} (h : n < 32) (t : Nat) (w : World) : (binOp .or t (.int .u8 192) (.int .u8 (n : Int))).run PP w = .ok (.int .u8 ((192 + n : Nat) : Int)) w := or8 (a := 192) (by omega) (by omega) (or_192 h) t w
theorem or224 {n : Nat} (h : n < 16) (t : Nat) (w : World) : (binOp .or t (.int .u8 224) (.int .u8 (n : Int))).run PP w = .ok (.int .u8 ((224 + n : Nat) : Int)) w := or8 (a := 224) (by omega) (by omega) (or_224 h) t w
theorem or240 {n : Nat} (h : n < 8) (t : Nat) (w : World) : (binOp .or t (.int .u8 240) (.int .u8 (n : Int))).run PP w = .ok (.int .u8 ((240 + n : Nat) : Int)) w := or8 (a := 240) (by omega) (by omega) (or_240 h) t w

theorem u8_ofNat {n : Nat} (h : n < 256) : u8 (UInt8.ofNat n) = .int .u8 (n : Int) := by
  unfold u8
  rw [UInt8.toNat_ofNat', Nat.mod_eq_of_lt (by omega)]

theorem utf8_1 {r : Nat} (h : r < 128) : (utf8 r).map u8 = [.int .u8 (r : Int)] := by
  simp only [utf8, if_pos h, List.map_cons, List.map_nil, u8_ofNat (show r < 256 by omega)]
theorem utf8_2 {r : Nat} (h : 128 ≤ r) (h2 : r < 2048) : (utf8 r).map u8 = [.int .u8 ((192 + r / 2 ^ 6 : Nat) : Int), .int .u8 ((128 + r % 64 : Nat) : Int)] := by
  simp only [utf8, if_neg (show ¬ r < 0x80 by omega), if_pos (show r < 0x800 by omega), List.map_cons, List.map_nil]
  rw [u8_ofNat (by omega), u8_ofNat (by omega)]
theorem utf8_3 {r : Nat} (h : 2048 ≤ r) (h2 : r < 65536) : (utf8 r).map u8 = [.int .u8 ((224 + r / 2 ^ 12 : Nat) : Int), .int .u8 ((128 + r / 2 ^ 6 % 64 : Nat) : Int), .int .u8 ((128 + r % 64 : Nat) : Int)] := by
  simp only [utf8, if_neg (show ¬ r < 0x80 by omega), if_neg (show ¬ r < 0x800 by omega), if_pos (show r < 0x10000 by omega), List.map_cons, List.map_nil]
  rw [u8_ofNat (by omega), u8_ofNat (by omega), u8_ofNat (by omega)]
theorem utf8_4 {r : Nat} (h : 65536 ≤ r) (h2 : r < 1114112) : (utf8 r).map u8 = [.int .u8 ((240 + r / 2 ^ 18 : Nat) : Int), .int .u8 ((128 + r / 2 ^ 12 % 64 : Nat) : Int), .int .u8 ((128 + r / 2 ^ 6 % 64 : Nat) : Int), .int .u8 ((128 + r % 64 : Nat) : Int)] := by
  simp only [utf8, if_neg (show ¬ r < 0x80 by omega), if_neg (show ¬ r < 0x800 by omega), if_neg (show ¬ r < 0x10000 by omega), List.map_cons, List.map_nil]
  rw [u8_ofNat (by omega), u8_ofNat (by omega), u8_ofNat (by omega), u8_ofNat (by omega)]
theorem utf8_len (r : Nat) : (utf8 r).length ≤ 4 := by unfold utf8; split <;> (try split) <;> (try split) <;> simp

attribute [local irreducible] binOp IntKind.wrap Sem.run

theorem alist {l : List Value} {a : Array Value} (h : l = a.toList) : a = l.toArray := by subst h; simp

set_option maxRecDepth 100000 in
set_option maxHeartbeats 4000000 in
theorem runeMore_any (B : Nat) (v : Value) (l : Bs) (r : Nat) (w : World) (hr : okRune r) (h128 : 128 ≤ r) (hO : Ob B w v l) (hm : l.length ≤ 1000000000) (hB : B ≤ w.heap.size) :
    Calls PP 149 #[v, .int .i32 (r : Int)] w fun e w' => ∃ v', e = .returned v' ∧ Ob B w' v' (l ++ utf8 r) ∧ Up B w w' := by
  obtain ⟨hr1, hr2⟩ := hr
  refine enter (L := [(0, v), (1, .int .i32 (r : Int))]) Tryz.func149 rfl rfl rfl ⟨rfl, rfl, trivial⟩ ?_
  rcases Nat.lt_or_ge r 2048 with h1 | h1
  · repeat (first | refine WL.pp rfl ?_ | refine WL.ns ?_ | refine WC.sr ?_ | refine WC.dT rfl (by first | omega | decide) ?_ | refine WL.bo rfl rfl (shr32 r 6 (by omega) _ _) rfl ?_ | refine WL.cz rfl rfl (wrap8 r) rfl ?_ | refine WL.bo rfl rfl (and63 _ _ _) rfl ?_ | refine WL.bo rfl rfl (or128 _ _ _) rfl ?_ | refine WL.bo rfl rfl (or192 (by omega) _ _) rfl ?_ | refine WC.block ?_ | refine WL.cv rfl rfl (wrap_u32 (by omega)) rfl ?_ | refine WL.cv rfl rfl (wrap_u8 (by omega)) rfl ?_)
    refine WL.bs rfl rfl (bs2 _ _) rfl (fun w1 hA => ?_)
    have hu := hA.up hB
    refine WL.apn (utf8 r) rfl rfl (hO.upS (hA.up (Nat.le_refl _))) (by have := congrArg List.length (utf8_2 h128 h1); simpa using this) hA.at_ (alist (utf8_2 h128 h1)) (by omega) (Nat.le_trans hB hu.size) (fun v' w2 h4 h5 => ⟨_, rfl, ?_⟩)
    repeat (first | refine WL.pp rfl ?_ | refine WL.ns ?_ | refine X.br ?_ | refine WC.ret ?_)
    exact X.ret_ rfl rfl ⟨_, rfl, h4, hu.trans h5⟩
  · have key : (2048 ≤ r ∧ r < 55296) ∨ (57343 < r ∧ r < 65536) ∨ 65536 ≤ r := by omega
    rcases key with h2 | h2 | h2
    case inr.inr =>
      repeat (first | refine WL.pp rfl ?_ | refine WL.ns ?_ | refine WC.sr ?_ | refine WC.dT rfl (by first | omega | decide) ?_ | refine WC.dF rfl (by first | omega | decide) ?_ | refine WL.bo rfl rfl (shr32 r 6 (by omega) _ _) rfl ?_ | refine WL.bo rfl rfl (shr32 r 12 (by omega) _ _) rfl ?_ | refine WL.bo rfl rfl (shr32 r 18 (by omega) _ _) rfl ?_ | refine WL.bo rfl rfl (and63 _ _ _) rfl ?_ | refine WL.bo rfl rfl (or128 _ _ _) rfl ?_ | refine WL.bo rfl rfl (or240 (by omega) _ _) rfl ?_ | refine WL.cz rfl rfl (wrap8 r) rfl ?_ | refine WL.cz rfl rfl (wrap8 (r / 2 ^ 6)) rfl ?_ | refine WL.cz rfl rfl (wrap8 (r / 2 ^ 12)) rfl ?_ | refine WL.p rfl ?_ | refine WC.seq ?_ | refine WC.reg ?_ | refine WC.block ?_ | refine WL.gT rfl rfl (by first | omega | decide) ?_ | refine WL.cv rfl rfl (wrap_u32 (by omega)) rfl ?_ | refine WL.cv rfl rfl (wrap_u8 (by omega)) rfl ?_)
      refine WL.bs rfl rfl (bs4 _ _ _ _) rfl (fun w1 hA => ?_)
      have hu := hA.up hB
      refine WL.apn (utf8 r) rfl rfl (hO.upS (hA.up (Nat.le_refl _))) (by have := congrArg List.length (utf8_4 h2 (by omega)); simpa using this) hA.at_ (alist (utf8_4 h2 (by omega))) (by omega) (Nat.le_trans hB hu.size) (fun v' w2 h4 h5 => ⟨_, rfl, ?_⟩)
      repeat (first | refine WL.pp rfl ?_ | refine WL.ns ?_ | refine X.br ?_ | refine WC.ret ?_)
      exact X.ret_ rfl rfl ⟨_, rfl, h4, hu.trans h5⟩
    all_goals
      repeat (first | refine WL.pp rfl ?_ | refine WL.ns ?_ | refine WC.sr ?_ | refine WC.dT rfl (by first | omega | decide) ?_ | refine WC.dF rfl (by first | omega | decide) ?_ | refine WL.bo rfl rfl (shr32 r 6 (by omega) _ _) rfl ?_ | refine WL.bo rfl rfl (shr32 r 12 (by omega) _ _) rfl ?_ | refine WL.bo rfl rfl (and63 _ _ _) rfl ?_ | refine WL.bo rfl rfl (or128 _ _ _) rfl ?_ | refine WL.bo rfl rfl (or224 (by omega) _ _) rfl ?_ | refine WL.cz rfl rfl (wrap8 r) rfl ?_ | refine WL.cz rfl rfl (wrap8 (r / 2 ^ 6)) rfl ?_ | refine WL.p rfl ?_ | refine WC.seq ?_ | refine WC.reg ?_ | refine WC.block ?_ | refine X.sn ?_ | refine WC.skip ?_ | refine WL.gT rfl rfl (by first | omega | decide) ?_ | refine WL.cv rfl rfl (wrap_u32 (by omega)) rfl ?_ | refine WL.cv rfl rfl (wrap_u8 (by omega)) rfl ?_)
      refine WL.bs rfl rfl (bs3 _ _ _) rfl (fun w1 hA => ?_)
      have hu := hA.up hB
      refine WL.apn (utf8 r) rfl rfl (hO.upS (hA.up (Nat.le_refl _))) (by have := congrArg List.length (utf8_3 (r := r) (by omega) (by omega)); simpa using this) hA.at_ (alist (utf8_3 (by omega) (by omega))) (by omega) (Nat.le_trans hB hu.size) (fun v' w2 h4 h5 => ⟨_, rfl, ?_⟩)
      repeat (first | refine WL.pp rfl ?_ | refine WL.ns ?_ | refine X.br ?_ | refine WC.ret ?_)
      exact X.ret_ rfl rfl ⟨_, rfl, h4, hu.trans h5⟩

set_option maxRecDepth 100000 in
set_option maxHeartbeats 4000000 in
theorem rune_any (B : Nat) (v : Value) (l : Bs) (r : Nat) (w : World) (hr : okRune r) (hO : Ob B w v l) (hm : l.length ≤ 1000000000) (hB : B ≤ w.heap.size) :
    Calls PP 148 #[v, .int .i32 (r : Int)] w fun e w' => ∃ v', e = .returned v' ∧ Ob B w' v' (l ++ utf8 r) ∧ Up B w w' := by
  have hr' := hr
  obtain ⟨hr1, hr2⟩ := hr'
  refine enter (L := [(0, v), (1, .int .i32 (r : Int))]) Tryz.func148 rfl rfl rfl ⟨rfl, rfl, trivial⟩ ?_
  rcases Nat.lt_or_ge r 128 with h1 | h1
  · repeat (first | refine WL.pp rfl ?_ | refine WL.ns ?_ | refine WC.sr ?_ | refine WC.dT rfl (by first | omega | decide) ?_ | refine WC.seq ?_ | refine WL.cv rfl rfl (wrap_u32 (by omega)) rfl ?_ | refine WL.cv rfl rfl (wrap_u8 (by omega)) rfl ?_)
    refine WL.bs rfl rfl (bs1 _) rfl (fun w1 hA => ?_)
    have hu := hA.up hB
    refine WL.apn (utf8 r) rfl rfl (hO.upS (hA.up (Nat.le_refl _))) (by have := congrArg List.length (utf8_1 h1); simpa using this) hA.at_ (alist (utf8_1 h1)) (by omega) (Nat.le_trans hB hu.size) (fun v' w2 h4 h5 => ⟨_, rfl, ?_⟩)
    repeat (first | refine WL.pp rfl ?_ | refine WL.ns ?_ | refine X.sr ?_ | refine WC.ret ?_)
    exact X.ret_ rfl rfl ⟨_, rfl, h4, hu.trans h5⟩
  · repeat (first | refine WL.pp rfl ?_ | refine WL.ns ?_ | refine WC.sr ?_ | refine WC.dF rfl (by first | omega | decide) ?_ | refine WC.seq ?_ | refine X.sn ?_ | refine WC.skip ?_ | refine WL.cv rfl rfl (wrap_u32 (by omega)) rfl ?_)
    refine WL.call rfl rfl rfl (runeMore_any B v l r w hr h1 hO hm hB) ?_
    rintro e w1 ⟨v', rfl, h4, h5⟩
    refine ⟨_, _, rfl, rfl, ?_⟩
    repeat (first | refine WL.pp rfl ?_ | refine WL.ns ?_ | refine WC.ret ?_)
    exact X.ret_ rfl rfl ⟨_, rfl, h4, h5⟩

end Go.Proofs.YtaccphdkapmdhaaGreat

namespace Go.Proofs.YtaccphdkapmdhaaGreat
attribute [local irreducible] binOp IntKind.wrap Sem.run

theorem hexs_snoc (l : Bs) (c : UInt8) : hexs (l ++ [c]) = hexs l * 16 + hexv c := by simp [hexs]
theorem hexs_lt (l : Bs) (h : ∀ c ∈ l, hexv c < 16) : hexs l < 16 ^ l.length := by
  have key : ∀ (l : Bs) (a : Nat), (∀ c ∈ l, hexv c < 16) → l.foldl (fun v c => v * 16 + hexv c) a < (a + 1) * 16 ^ l.length := by
    intro l
    induction l with
    | nil => intro a _; simp
    | cons c l ih =>
      intro a h
      have h1 := ih (a * 16 + hexv c) (fun x hx => h x (by simp [hx]))
      have h2 := h c (by simp)
      simp only [List.foldl_cons, List.length_cons]
      refine Nat.lt_of_lt_of_le h1 ?_
      rw [Nat.pow_succ, Nat.mul_comm (16 ^ l.length) 16, ← Nat.mul_assoc]
      exact Nat.mul_le_mul_right _ (by omega)
  have := key l 0 h
  simpa [hexs] using this

theorem hexv_cases {c : UInt8} (h : hexv c < 16) : (48 ≤ c.toNat ∧ c.toNat ≤ 57 ∧ hexv c = c.toNat - 48) ∨ (97 ≤ c.toNat ∧ c.toNat ≤ 102 ∧ hexv c = c.toNat - 87) ∨ (65 ≤ c.toNat ∧ c.toNat ≤ 70 ∧ hexv c = c.toNat - 55) := by
  unfold hexv at *
  split at h
  · rename_i h1; exact .inl ⟨h1.1, h1.2, by rw [if_pos h1]⟩
  · split at h
    · rename_i h1 h2; exact .inr (.inl ⟨h2.1, h2.2, by rw [if_neg h1, if_pos h2]⟩)
    · split at h
      · rename_i h1 h2 h3; exact .inr (.inr ⟨h3.1, h3.2, by rw [if_neg h1, if_neg h2, if_pos h3]⟩)
      · omega

theorem or16 {a d : Nat} (ha : a < 268435456) (hd : d < 16) {y : Int} (hy : y = (d : Int)) (t : Nat) (w : World) : (binOp .or t (.int .u32 ((a * 2 ^ 4 : Nat) : Int)) (.int .u32 y)).run PP w = .ok (.int .u32 ((a * 16 + d : Nat) : Int)) w := by
  subst hy
  refine or32 (by omega) (by omega) ?_ t w
  have := Nat.two_pow_add_eq_or_of_lt (i := 4) (b := d) (by omega) a
  rw [Nat.mul_comm] at this
  rw [← this]

section
variable {bd C E : Nat} {dc : Array Value} {fz : Nat × Nat}

theorem get_drop {l0 ds r : Bs} {n j : Nat} (hd : l0.drop n = ds ++ r) (hj : j < ds.length) : ∃ h : n + j < l0.length, l0[n + j] = ds[j] := by
  have h1 : (l0.drop n)[j]? = some ds[j] := by rw [hd, List.getElem?_append_left hj, List.getElem?_eq_getElem hj]
  rw [List.getElem?_drop] at h1
  obtain ⟨h2, h3⟩ := List.getElem?_eq_some_iff.1 h1
  exact ⟨h2, h3⟩

theorem drop_len {l0 ds r : Bs} {n : Nat} (hd : l0.drop n = ds ++ r) (h0 : 0 < ds.length) : n + ds.length + r.length = l0.length := by
  have := congrArg List.length hd
  simp only [List.length_drop, List.length_append] at this
  omega

set_option maxRecDepth 100000 in
set_option maxHeartbeats 4000000 in
theorem unicode_any (B : Nat) (v dv : Value) (l l0 ds r : Bs) (n k : Nat) (w : World) (hv : Suf bd C E dc dv l0) (hd : l0.drop n = ds ++ r) (hk : ds.length = k) (hk0 : 0 < k) (hk8 : k ≤ 8) (hh : ∀ c ∈ ds, hexv c < 16) (hr : okRune (hexs ds))
    (hD : w.heap[bd]? = some (.cells dc 5 fz)) (hO : Ob B w v l) (hm : l.length ≤ 1000000000) (hB : B ≤ w.heap.size) :
    Calls PP 147 #[v, dv, .int .i64 (n : Int), .int .i64 (k : Int)] w fun e w' => ∃ v', e = .returned (.tuple #[v', .int .i64 ((n + k : Nat) : Int), .nilIface]) ∧ Ob B w' v' (l ++ utf8 (hexs ds)) ∧ Up B w w' := by
  have hlen := drop_len hd (by omega)
  have hC := hv.C62
  have hle := hv.le
  have hEC := hv.EC
  have hval := hv.val (by omega)
  subst hval
  refine enter (L := [(0, v), (1, .slice (some ⟨bd, E - l0.length, none⟩) l0.length (C - (E - l0.length))), (2, .int .i64 (n : Int)), (3, .int .i64 (k : Int))]) Tryz.func147 rfl rfl rfl ⟨rfl, rfl, rfl, rfl, trivial⟩ ?_
  repeat (first | refine WL.pp rfl ?_ | refine WL.ns ?_ | refine WC.sr ?_ | refine WC.dF rfl (by first | omega | decide) ?_ | refine WC.seq ?_ | refine WC.block ?_ | refine X.sn ?_ | refine WC.skip ?_ | refine WL.ad rfl rfl (by omega) rfl ?_)
  refine WC.loop (σ := Nat) (I := fun j w' => w' = w ∧ j ≤ k) (m := fun j => k - j) (Lf := fun j => [(0, v), (1, .slice (some ⟨bd, E - l0.length, none⟩) l0.length (C - (E - l0.length))), (2, .int .i64 (n : Int)), (3, .int .i64 (k : Int)), (11, .int .u32 (hexs (ds.take j) : Int)), (12, .int .i64 (j : Int))]) 0 ⟨rfl, Nat.zero_le _⟩ ⟨rfl, rfl, rfl, rfl, rfl, rfl, trivial⟩ ?_
  rintro j w1 ⟨rfl, hj⟩
  by_cases hjk : j < k
  · obtain ⟨hb, hbe⟩ := get_drop (j := j) hd (by omega)
    have hcell : dc[E - l0.length + (n + j)]? = some (u8 ds[j]) := hv.cells _ _ (by rw [List.getElem?_eq_getElem hb, hbe])
    have hx := hh ds[j] (by simp)
    have hp : hexs (ds.take j) < 268435456 := by
      have h1 := hexs_lt (ds.take j) (fun c hc => hh c (List.mem_of_mem_take hc))
      rw [List.length_take, Nat.min_eq_left (by omega)] at h1
      refine Nat.lt_of_lt_of_le h1 ?_
      exact Nat.pow_le_pow_right (n := 16) (by omega) (show j ≤ 7 by omega)
    have hnext : hexs (ds.take (j + 1)) = hexs (ds.take j) * 16 + hexv ds[j] := by
      rw [← hexs_snoc, List.take_append_getElem (by omega)]
    have hc256 := UInt8.toNat_lt ds[j]
    rcases hexv_cases hx with ⟨h1, h2, h3⟩ | ⟨h1, h2, h3⟩ | ⟨h1, h2, h3⟩
    all_goals
      repeat (first | refine WL.pp rfl ?_ | refine WL.ns ?_ | refine WC.sr ?_ | refine WC.bF rfl (by first | with_reducible rfl | exact Bool.not_true) ?_ | refine WC.dT rfl (by first | omega | decide) ?_ | refine WC.dF rfl (by first | omega | decide) ?_ | refine WL.ix (i := n + j) rfl rfl (by omega) (by omega) rfl ?_ | refine WL.ldB rfl rfl hD (by simpa using hcell) rfl ?_ | refine WL.su8 rfl rfl (by omega) rfl ?_ | refine WL.adu rfl rfl (by omega) rfl ?_ | refine WL.bo rfl rfl (shl32 (n := 4) (by omega) (by omega) _ _) rfl ?_ | refine WL.bo rfl rfl (or16 hp hx (by omega) _ _) rfl ?_ | refine WL.p rfl ?_ | refine WC.seq ?_ | refine WC.reg ?_ | refine WC.block ?_ | refine WL.nil ?_ | refine X.sn ?_ | refine X.bn ?_ | refine WC.skip ?_ | refine WL.ad rfl rfl (by omega) rfl ?_ | refine WL.gT rfl rfl (by first | omega | decide) ?_ | refine WL.gF rfl rfl (by first | omega | decide) ?_ | refine WL.cv rfl rfl (wrap_u32 (by omega)) rfl ?_)
      exact X.again (j + 1) ⟨rfl, by omega⟩ (by omega) ⟨rfl, rfl, rfl, rfl, by rw [hnext]; rfl, rfl, trivial⟩
  · have hjk' : j = k := by omega
    subst hjk'
    have ht : ds.take j = ds := List.take_of_length_le (by omega)
    rw [ht]
    have hr' := hr
    obtain ⟨hr1, hr2⟩ := hr'
    have key : hexs ds < 55296 ∨ 57343 < hexs ds := by omega
    rcases key with h1 | h1
    all_goals
      repeat (first | refine WL.pp rfl ?_ | refine WL.ns ?_ | refine WC.sr ?_ | refine WC.bF rfl (by first | with_reducible rfl | exact Bool.not_true) ?_ | refine WC.dF rfl (by first | omega | decide) ?_ | refine WL.p rfl ?_ | refine WC.seq ?_ | refine X.sn ?_ | refine X.sx ?_ | refine X.bx ?_ | refine WC.skip ?_ | refine WC.exit ?_ | refine WL.gT rfl rfl (by first | omega | decide) ?_ | refine WL.gF rfl rfl (by first | omega | decide) ?_ | refine WL.cv rfl rfl (wrap_i32 (by omega)) rfl ?_)
      refine WL.call rfl rfl rfl (rune_any B v l (hexs ds) w1 hr hO hm hB) ?_
      rintro e w2 ⟨v', rfl, h4, h5⟩
      refine ⟨_, _, rfl, rfl, ?_⟩
      repeat (first | refine WL.pp rfl ?_ | refine WL.ns ?_ | refine WC.ret ?_ | refine WL.ad rfl rfl (by omega) rfl ?_)
      exact X.ret_ rfl rfl ⟨_, rfl, h4, h5⟩
end
end Go.Proofs.YtaccphdkapmdhaaGreat

namespace Go.Proofs.YtaccphdkapmdhaaGreat
attribute [local irreducible] binOp IntKind.wrap Sem.run

theorem escCh_cases {c x : UInt8} (h : escCh c = some x) : (c.toNat = 98 ∧ x = 8) ∨ (c.toNat = 116 ∧ x = 9) ∨ (c.toNat = 110 ∧ x = 10) ∨ (c.toNat = 102 ∧ x = 12) ∨ (c.toNat = 114 ∧ x = 13) ∨ (c.toNat = 34 ∧ x = 34) ∨ (c.toNat = 92 ∧ x = 92) := by
  unfold escCh at h
  (repeat' split at h) <;> first
    | (cases h; done)
    | (simp only [Option.some.injEq] at h; subst h; rename_i e; subst e; decide)

theorem drop_cons {l0 r : Bs} {n : Nat} {c : UInt8} (h : l0.drop n = c :: r) : n < l0.length ∧ l0[n]? = some c ∧ l0.drop (n + 1) = r := by
  have h1 : (l0.drop n)[0]? = some c := by rw [h]; rfl
  rw [List.getElem?_drop, Nat.add_zero] at h1
  refine ⟨(List.getElem?_eq_some_iff.1 h1).1, h1, ?_⟩
  rw [← List.drop_drop, h, List.drop_one, List.tail_cons]

section
variable {bd C E : Nat} {dc : Array Value} {fz : Nat × Nat}

set_option maxRecDepth 100000 in
set_option maxHeartbeats 4000000 in
theorem unescape_any (B : Nat) (v dv : Value) (l l0 b u b' : Bs) (n : Nat) (w : World) (hv : Suf bd C E dc dv l0) (hd : l0.drop n = b) (he : Esc b u b')
    (hD : w.heap[bd]? = some (.cells dc 5 fz)) (hO : Ob B w v l) (hm : l.length ≤ 1000000000) (hB : B ≤ w.heap.size) :
    Calls PP 139 #[v, dv, .int .i64 (n : Int)] w fun e w' => ∃ v' m, e = .returned (.tuple #[v', .int .i64 ((m : Nat) : Int), .nilIface]) ∧ Ob B w' v' (l ++ u) ∧ Up B w w' ∧ l0.drop m = b' ∧ n < m ∧ m ≤ l0.length ∧ u.length ≤ m - n := by
  have hC := hv.C62
  have hle := hv.le
  have hEC := hv.EC
  have hlt : n < l0.length := by
    cases he with
    | ch h => exact (drop_cons hd).1
    | u h1 h2 h3 => exact (drop_cons (c := 117) hd).1
    | U h1 h2 h3 => exact (drop_cons (c := 85) hd).1
  have hval := hv.val (by omega)
  subst hval
  refine enter (L := [(0, v), (1, .slice (some ⟨bd, E - l0.length, none⟩) l0.length (C - (E - l0.length))), (2, .int .i64 (n : Int))]) Tryz.func139 rfl rfl rfl ⟨rfl, rfl, rfl, trivial⟩ ?_
  cases he with
  | @ch c x r h =>
    obtain ⟨h1, h2, h3⟩ := drop_cons hd
    have hc := hv.at hD h2
    rcases escCh_cases h with ⟨h5, hx⟩ | ⟨h5, hx⟩ | ⟨h5, hx⟩ | ⟨h5, hx⟩ | ⟨h5, hx⟩ | ⟨h5, hx⟩ | ⟨h5, hx⟩
    all_goals
      repeat (first | refine WL.pp rfl ?_ | refine WL.ns ?_ | refine WC.sr ?_ | refine WC.dT rfl (by first | omega | decide) ?_ | refine WC.dF rfl (by first | omega | decide) ?_ | refine WL.ix (i := n) rfl rfl rfl (by omega) rfl ?_ | refine WL.ld rfl rfl hc rfl ?_ | refine WC.block ?_)
      refine WL.bs rfl rfl (bs1 _) rfl (fun w1 hA => ?_)
      have hu := hA.up hB
      refine WL.apn (B := B) (l' := [x]) rfl rfl (hO.upS (hA.up (Nat.le_refl _))) rfl hA.at_ (alist (by subst hx; rfl)) (by simp; omega) (Nat.le_trans hB hu.size) (fun v' w2 h6 h7 => ⟨_, rfl, ?_⟩)
      repeat (first | refine WL.pp rfl ?_ | refine WL.ns ?_ | refine X.br ?_ | refine WC.ret ?_ | refine WL.ad rfl rfl (by omega) rfl ?_)
      exact X.ret_ rfl rfl ⟨_, n + 1, rfl, h6, hu.trans h7, h3, by omega, by omega, by simp⟩
  | @u ds r h1 h2 h3 =>
    obtain ⟨h5, h6, h7⟩ := drop_cons (c := 117) (r := ds ++ b') hd
    have hc := hv.at hD h6
    have hlen := drop_len h7 (by omega)
    repeat (first | refine WL.pp rfl ?_ | refine WL.ns ?_ | refine WC.sr ?_ | refine WC.dT rfl (by first | omega | decide) ?_ | refine WC.dF rfl (by first | omega | decide) ?_ | refine WL.ix (i := n) rfl rfl rfl (by omega) rfl ?_ | refine WL.ld rfl rfl hc rfl ?_ | refine WC.block ?_ | refine WL.ad rfl rfl (by omega) rfl ?_)
    refine WL.call rfl rfl rfl (unicode_any B v _ l l0 ds b' (n + 1) 4 w hv h7 h1 (by omega) (by omega) h2 h3 hD hO hm hB) ?_
    rintro e w2 ⟨v', rfl, h8, h9⟩
    refine ⟨_, _, rfl, rfl, ?_⟩
    repeat (first | refine WL.pp rfl ?_ | refine WL.ns ?_ | refine X.br ?_ | refine WC.ret ?_)
    refine X.ret_ rfl rfl ⟨_, n + 1 + 4, rfl, h8, h9, ?_, by omega, by omega, ?_⟩
    · rw [← List.drop_drop, h7, ← h1, List.drop_left]
    · have := utf8_len (hexs ds); omega
  | @U ds r h1 h2 h3 =>
    obtain ⟨h5, h6, h7⟩ := drop_cons (c := 85) (r := ds ++ b') hd
    have hc := hv.at hD h6
    have hlen := drop_len h7 (by omega)
    repeat (first | refine WL.pp rfl ?_ | refine WL.ns ?_ | refine WC.sr ?_ | refine WC.dT rfl (by first | omega | decide) ?_ | refine WC.dF rfl (by first | omega | decide) ?_ | refine WL.ix (i := n) rfl rfl rfl (by omega) rfl ?_ | refine WL.ld rfl rfl hc rfl ?_ | refine WC.block ?_ | refine WL.ad rfl rfl (by omega) rfl ?_)
    refine WL.call rfl rfl rfl (unicode_any B v _ l l0 ds b' (n + 1) 8 w hv h7 h1 (by omega) (by omega) h2 h3 hD hO hm hB) ?_
    rintro e w2 ⟨v', rfl, h8, h9⟩
    refine ⟨_, _, rfl, rfl, ?_⟩
    repeat (first | refine WL.pp rfl ?_ | refine WL.ns ?_ | refine X.br ?_ | refine WC.ret ?_)
    refine X.ret_ rfl rfl ⟨_, n + 1 + 8, rfl, h8, h9, ?_, by omega, by omega, ?_⟩
    · rw [← List.drop_drop, h7, ← h1, List.drop_left]
    · have := utf8_len (hexs ds); omega

set_option maxRecDepth 100000 in
set_option maxHeartbeats 4000000 in
/-- Where the string ends, or -1: a guess of how long its value may be. -/
theorem stringEnd_any (v : Value) (l0 : Bs) (n : Nat) (w : World) (hv : Suf bd C E dc v l0) (hn : n ≤ l0.length) (h0 : 0 < l0.length) (hD : w.heap[bd]? = some (.cells dc 5 fz)) :
    Calls PP 140 #[v, .int .i64 (n : Int)] w fun e w' => ∃ m : Int, e = .returned (.int .i64 m) ∧ (m = -1 ∨ ((n : Int) ≤ m ∧ m < l0.length)) ∧ w' = w := by
  have hC := hv.C62
  have hle := hv.le
  have hEC := hv.EC
  have hval := hv.val (by omega)
  subst hval
  refine enter (L := [(0, .slice (some ⟨bd, E - l0.length, none⟩) l0.length (C - (E - l0.length))), (1, .int .i64 (n : Int))]) Tryz.func140 rfl rfl rfl ⟨rfl, rfl, trivial⟩ ?_
  repeat (first | refine WL.pp rfl ?_ | refine WL.ns ?_ | refine WC.sr ?_ | refine WC.seq ?_ | refine WC.block ?_)
  refine WC.loop (σ := Nat) (I := fun j w' => w' = w ∧ n ≤ j) (m := fun j => l0.length - j) (Lf := fun j => [(0, .slice (some ⟨bd, E - l0.length, none⟩) l0.length (C - (E - l0.length))), (1, .int .i64 (j : Int))]) n ⟨rfl, Nat.le_refl _⟩ ⟨rfl, rfl, trivial⟩ ?_
  rintro j w1 ⟨rfl, hj⟩
  by_cases hlt : j < l0.length
  · have hc := hv.at hD (List.getElem?_eq_getElem hlt)
    generalize l0[j] = c at hc
    by_cases h1 : c.toNat = 34
    · repeat (first | refine WL.pp rfl ?_ | refine WL.ns ?_ | refine WC.sr ?_ | refine WC.dT rfl (by first | omega | decide) ?_ | refine WL.ix (i := j) rfl rfl rfl (by omega) rfl ?_ | refine WL.ld rfl rfl hc rfl ?_ | refine WC.seq ?_ | refine WC.block ?_ | refine X.sn ?_ | refine X.sr ?_ | refine X.br ?_ | refine WC.skip ?_ | refine WC.ret ?_)
      exact X.ret_ rfl rfl ⟨_, rfl, .inr ⟨by omega, by omega⟩, rfl⟩
    · by_cases h2 : c.toNat = 92
      · repeat (first | refine WL.pp rfl ?_ | refine WL.ns ?_ | refine WC.sr ?_ | refine WC.dT rfl (by first | omega | decide) ?_ | refine WC.dF rfl (by first | omega | decide) ?_ | refine WL.ix (i := j) rfl rfl rfl (by omega) rfl ?_ | refine WL.ld rfl rfl hc rfl ?_ | refine WC.seq ?_ | refine WC.reg ?_ | refine WC.block ?_ | refine WL.nil ?_ | refine X.sn ?_ | refine X.bn ?_ | refine WC.skip ?_ | refine WL.ad rfl rfl (by omega) rfl ?_)
        exact X.again (j + 2) ⟨rfl, by omega⟩ (by omega) ⟨rfl, rfl, trivial⟩
      · repeat (first | refine WL.pp rfl ?_ | refine WL.ns ?_ | refine WC.sr ?_ | refine WC.dT rfl (by first | omega | decide) ?_ | refine WC.dF rfl (by first | omega | decide) ?_ | refine WL.ix (i := j) rfl rfl rfl (by omega) rfl ?_ | refine WL.ld rfl rfl hc rfl ?_ | refine WC.seq ?_ | refine WC.reg ?_ | refine WC.block ?_ | refine WL.nil ?_ | refine X.sn ?_ | refine X.bn ?_ | refine WC.skip ?_ | refine WL.ad rfl rfl (by omega) rfl ?_)
        exact X.again (j + 1) ⟨rfl, by omega⟩ (by omega) ⟨rfl, rfl, trivial⟩
  · repeat (first | refine WL.pp rfl ?_ | refine WL.ns ?_ | refine WC.sr ?_ | refine WC.dF rfl (by first | omega | decide) ?_ | refine WC.seq ?_ | refine X.sn ?_ | refine X.sx ?_ | refine X.bx ?_ | refine WC.exit ?_ | refine WC.ret ?_)
    exact X.ret_ rfl rfl ⟨_, rfl, .inl rfl, rfl⟩
end
end Go.Proofs.YtaccphdkapmdhaaGreat

namespace Go.Proofs.YtaccphdkapmdhaaGreat
attribute [local irreducible] binOp IntKind.wrap Sem.run

theorem SBas.closed {t o r : Bs} (h : SBas (34 :: t) o r) : o = [] ∧ r = t := by
  cases h with
  | close => exact ⟨rfl, rfl⟩
  | sign n h1 _ _ _ => simp at h1

theorem SBas.escd {t o r : Bs} (h : SBas (92 :: t) o r) : ∃ u b' o', Esc t u b' ∧ SBas b' o' r ∧ o = u ++ o' := by
  cases h with
  | esc h1 h2 => exact ⟨_, _, _, h1, h2, rfl⟩
  | sign n _ h1 _ _ _ => simp at h1

theorem SBas.plain {c : UInt8} {t o r : Bs} (h : SBas (c :: t) o r) (hc : 32 ≤ c.toNat ∧ c.toNat < 127 ∨ c.toNat = 9) (h34 : c.toNat ≠ 34) (h92 : c.toNat ≠ 92) : ∃ o', SBas t o' r ∧ o = c :: o' := by
  cases h with
  | close => simp at h34
  | esc => simp at h92
  | sign n h1 h1' h2 h3 h4 =>
    rw [signLen_plain hc] at h2
    subst h2
    exact ⟨_, h4, rfl⟩

theorem SBas.mb {c : UInt8} {t o r : Bs} (h : SBas (c :: t) o r) (hc : 128 ≤ c.toNat) : ∃ n o', mbLen (c :: t) = n ∧ 0 < n ∧ SBas ((c :: t).drop n) o' r ∧ o = (c :: t).take n ++ o' := by
  cases h with
  | close => simp at hc
  | esc => simp at hc
  | sign n h1 h1' h2 h3 h4 =>
    rw [signLen_mb hc] at h2
    exact ⟨n, _, h2, h3, h4, rfl⟩

theorem SBas.other {c : UInt8} {t o r : Bs} (h : SBas (c :: t) o r) (h1 : ¬ (32 ≤ c.toNat ∧ c.toNat < 127 ∨ c.toNat = 9)) : 128 ≤ c.toNat := by
  cases h with
  | close => simp at h1
  | esc => simp at h1
  | sign n h3 h3' h4 h5 h6 =>
    apply Classical.byContradiction
    intro hh
    rw [signLen_none (by omega)] at h4
    omega

theorem SBas.nil {o r : Bs} (h : SBas [] o r) : False := by
  cases h with
  | sign n h1 h1' h2 h3 => simp [signLen] at h2; omega

theorem SBas.run {l o r : Bs} (h : SBas l o r) : ∃ m o', MR l m ∧ SBas (l.drop m) o' r ∧ o = l.take m ++ o' :=
  run_of (G := fun l o => SBas l o r) (fun _ _ _ h h128 => h.mb h128) l.length l o (Nat.le_refl _) h

theorem SBas.eight {x0 x1 x2 x3 x4 x5 x6 x7 : UInt8} {t o r : Bs} (h : SBas (x0 :: x1 :: x2 :: x3 :: x4 :: x5 :: x6 :: x7 :: t) o r)
    (hp : ∀ x ∈ [x0, x1, x2, x3, x4, x5, x6, x7], 32 ≤ x.toNat ∧ x.toNat < 128) (hq : ∀ x ∈ [x0, x1, x2, x3, x4, x5, x6, x7], x.toNat ≠ 127) (hs : ∀ x ∈ [x0, x1, x2, x3, x4, x5, x6, x7], x.toNat ≠ 34)
    (hs2 : ∀ x ∈ [x0, x1, x2, x3, x4, x5, x6, x7], x.toNat ≠ 92) :
    ∃ o', SBas t o' r ∧ o = x0 :: x1 :: x2 :: x3 :: x4 :: x5 :: x6 :: x7 :: o' := by
  have step : ∀ {x : UInt8} {t o : Bs}, SBas (x :: t) o r → 32 ≤ x.toNat ∧ x.toNat < 128 → x.toNat ≠ 127 → x.toNat ≠ 34 → x.toNat ≠ 92 → ∃ o', SBas t o' r ∧ o = x :: o' := fun h h1 h2 h3 h4 => h.plain (.inl ⟨h1.1, by omega⟩) h3 h4
  obtain ⟨o0, g0, rfl⟩ := step h (hp x0 (by simp)) (hq x0 (by simp)) (hs x0 (by simp)) (hs2 x0 (by simp))
  obtain ⟨o1, g1, rfl⟩ := step g0 (hp x1 (by simp)) (hq x1 (by simp)) (hs x1 (by simp)) (hs2 x1 (by simp))
  obtain ⟨o2, g2, rfl⟩ := step g1 (hp x2 (by simp)) (hq x2 (by simp)) (hs x2 (by simp)) (hs2 x2 (by simp))
  obtain ⟨o3, g3, rfl⟩ := step g2 (hp x3 (by simp)) (hq x3 (by simp)) (hs x3 (by simp)) (hs2 x3 (by simp))
  obtain ⟨o4, g4, rfl⟩ := step g3 (hp x4 (by simp)) (hq x4 (by simp)) (hs x4 (by simp)) (hs2 x4 (by simp))
  obtain ⟨o5, g5, rfl⟩ := step g4 (hp x5 (by simp)) (hq x5 (by simp)) (hs x5 (by simp)) (hs2 x5 (by simp))
  obtain ⟨o6, g6, rfl⟩ := step g5 (hp x6 (by simp)) (hq x6 (by simp)) (hs x6 (by simp)) (hs2 x6 (by simp))
  obtain ⟨o7, g7, rfl⟩ := step g6 (hp x7 (by simp)) (hq x7 (by simp)) (hs x7 (by simp)) (hs2 x7 (by simp))
  exact ⟨o7, g7, rfl⟩

theorem Esc.lt {b u b' : Bs} (h : Esc b u b') : 0 < b.length := by
  cases h <;> simp

theorem Ob.rb {B w v l} (h : Ob B w v l) : RB w v l := by
  rcases h.2 with ⟨rfl, hn⟩ | ⟨g, cap, cur, rfl, hb, hg, hc, hm, hs, ht⟩
  · exact ⟨none, 0, by rw [hn], fun hl => absurd (List.eq_nil_of_length_eq_zero hn) hl⟩
  · refine ⟨_, cap, rfl, fun _ => ⟨g, 0, cur, _, rfl, hg, fun i c hi => ?_⟩⟩
    rw [Nat.zero_add]
    have h1 : (cur.toList.take (l.length * 1))[i]? = some (u8 c) := by rw [ht, List.getElem?_map, hi]; rfl
    rw [List.getElem?_take] at h1
    split at h1
    · simpa using h1
    · cases h1

theorem RB.upS {w w' v l} (h : RB w v l) (hu : Up w.heap.size w w') : RB w' v l := by
  obtain ⟨ad, cap, h1, h2⟩ := h
  refine ⟨ad, cap, h1, fun hl => ?_⟩
  obtain ⟨b, o, dc, fz, h3, h4, h5⟩ := h2 hl
  exact ⟨b, o, dc, fz, h3, hu.at (lt_of_heap h4) h4, h5⟩

section
variable {bd C E : Nat} {dc : Array Value} {fz : Nat × Nat}

/-- A new row, then the first bytes copied into it. -/
theorem Ob.copied {B n c : Nat} {w w1 w2 : World} {l : Bs} {cur : Array Value} {cs : List Value} (hA : Al w (.cells cur 5 (0, 0)) w1) (hc : cur.size = c) (hS : St w1 w.heap.size (.cells (cs ++ cur.toList.drop cs.length).toArray 5 (0, 0)) w2)
    (hcs : cs = l.map u8) (hn : l.length = n) (hnc : n ≤ c) (hcm : c ≤ 1099511627776) (hB : B ≤ w.heap.size) : Ob B w2 (.slice (some ⟨w.heap.size, 0, none⟩) n c) l := by
  subst hcs hn
  refine ⟨by simp, .inr ⟨w.heap.size, c, _, rfl, hB, hS.at_, hnc, by simp only [maxLen]; omega, ?_, ?_⟩⟩
  · simp; omega
  · simp [List.take_append_of_le_length]

theorem cells_of_suf {v l0 i n} {w : World} (hv : Suf bd C E dc v l0) (hD : w.heap[bd]? = some (.cells dc 5 fz)) {ad : Option Addr} {a : Addr} (had : ad = some a) (hcap : 0 < C - (E - l0.length) - i) (hs : Sf bd (E - l0.length + i) (C - (E - l0.length) - i) ad) :
    ∀ j x, ((l0.drop i).take n)[j]? = some x → w.cell? (a.add j) = some (u8 x) := by
  intro j x hx
  have := hs.addr hcap
  rw [had] at this
  simp only [Option.some.injEq] at this
  subst this
  rw [addr_lit]
  refine cell_of hD ?_
  rw [List.getElem?_take] at hx
  split at hx
  · exact hv.cells.drop i j x hx
  · cases hx

theorem map_cells {cs : Bs} {w : World} {a : Addr} (h : ∀ j x, cs[j]? = some x → w.cell? (a.add j) = some (u8 x)) : ∀ j u, (cs.map u8)[j]? = some u → w.cell? (a.add j) = some u := by
  intro j u hu
  rw [List.getElem?_map] at hu
  cases hx : cs[j]? with
  | none => simp [hx] at hu
  | some x =>
    simp only [hx, Option.map_some, Option.some.injEq] at hu
    subst hu
    exact h j x hx

set_option maxRecDepth 100000 in
set_option maxHeartbeats 8000000 in
theorem escaped_any (p v : Value) (l0 o out r : Bs) (n : Nat) (w : World) (hv : Suf bd C E dc v l0) (hE : E ≤ 100000000) (hn : SBas (l0.drop n) o r) (hn1 : 1 ≤ n) (hnl : n < l0.length) (hout : out = (l0.take n).drop 1 ++ o) (hD : w.heap[bd]? = some (.cells dc 5 fz)) :
    Calls PP 130 #[p, v, .int .i64 (n : Int)] w fun e w' => ∃ v1 v2 v3, e = .returned (.tuple #[v1, v2, v3, .nilIface]) ∧ Rg C E v1 ∧ RB w' v2 out ∧ Suf bd C E dc v3 r ∧ Up w.heap.size w w' := by
  have hC := hv.C62
  have hle := hv.le
  have hEC := hv.EC
  have hval := hv.val (by omega)
  subst hval
  refine enter (L := [(0, p), (1, .slice (some ⟨bd, E - l0.length, none⟩) l0.length (C - (E - l0.length))), (2, .int .i64 (n : Int))]) Tryz.func130 rfl rfl rfl ⟨rfl, rfl, rfl, trivial⟩ ?_
  have hbd := lt_of_heap hD
  repeat (first | refine WL.pp rfl ?_ | refine WL.ns ?_ | refine WC.sr ?_ | refine WC.cut (x := .seq _ (.seq _ (.cond _ _ _))) (σ := Int) (fun c w' => w' = w ∧ (n : Int) - 1 ≤ c ∧ c < l0.length) (fun c => [(0, p), (1, .slice (some ⟨bd, E - l0.length, none⟩) l0.length (C - (E - l0.length))), (2, .int .i64 (n : Int)), (10, .int .i64 c)]) ?_ ?_ | refine WL.su rfl rfl (by omega) rfl ?_)
  · skip
    refine WL.call rfl rfl rfl (stringEnd_any _ l0 n w hv (by omega) (by omega) hD) ?_
    rintro e w1 ⟨m, rfl, hm, rfl⟩
    refine ⟨_, _, rfl, rfl, ?_⟩
    rcases hm with rfl | ⟨hm1, hm2⟩
    · repeat (first | refine WL.pp rfl ?_ | refine WL.ns ?_ | refine WC.sr ?_ | refine WC.dF rfl (by first | omega | decide) ?_ | refine WC.skip ?_)
      exact X.cut _ ⟨rfl, by omega, by omega⟩ ⟨rfl, rfl, rfl, rfl, trivial⟩
    · repeat (first | refine WL.pp rfl ?_ | refine WL.ns ?_ | refine WC.sr ?_ | refine WC.dT rfl (by first | omega | decide) ?_ | refine WC.reg ?_ | refine WL.nil ?_ | refine WL.su rfl rfl (by omega) rfl ?_)
      exact X.cut _ ⟨rfl, by omega, by omega⟩ ⟨rfl, rfl, rfl, rfl, trivial⟩
  · rintro c w2 ⟨rfl, hc1, hc2⟩
    obtain ⟨c, rfl⟩ := Int.eq_ofNat_of_zero_le (show 0 ≤ c by omega)
    repeat (first | refine WL.pp rfl ?_ | refine WC.sr ?_ | refine WL.su rfl rfl (by omega) rfl ?_)
    refine WL.mk (n - 1) c rfl rfl rfl (by omega) rfl (by omega) (by omega) rfl (fun w3 z hz1 _ hA => ?_)
    have hD3 := hA.keep hD
    repeat (first | refine WL.pp rfl ?_ | refine WL.ns ?_ | refine WC.sr ?_)
    refine WL.sS (n - 1) 1 rfl rfl (Sf.mk _ _ _) rfl (by simp; omega) (by omega) (fun _ => rfl) (fun ad' hs' => ?_)
    have had := hs'.addr (by omega)
    subst had
    refine WL.cp (((l0.drop 1).take (n - 1)).map u8) rfl rfl hA.at_ ?_ (map_cells (cells_of_suf hv hD3 rfl (by omega) hs')) ?_ ?_ rfl (fun w4 hS => ?_)
    · simp; omega
    · simp [size_madeCells]; omega
    · intro u hu
      obtain ⟨x, _, rfl⟩ := List.mem_map.1 hu
      rfl
    have hO := Ob.copied (B := w2.heap.size) (l := (l0.drop 1).take (n - 1)) (n := n - 1) hA (size_madeCells _ _) hS rfl (by simp; omega) (by omega) (by omega) (Nat.le_refl _)
    have hU : Up w2.heap.size w2 w4 := (hA.up (Nat.le_refl _)).trans (hS.up (Nat.le_refl _))
    rw [Nat.mul_one] at hO
    clear hS hA hz1 hs' hD3
    have hstart : out = (l0.drop 1).take (n - 1) ++ o := by rw [hout, List.drop_take]
    repeat (first | refine WL.ns ?_ | refine WC.seq ?_ | refine WC.block ?_)
    refine WC.loop (σ := Nat × Value) (I := fun s w' => Up w2.heap.size w2 w' ∧ n ≤ s.1 ∧ s.1 ≤ l0.length ∧ ∃ l o', Ob w2.heap.size w' s.2 l ∧ SBas (l0.drop s.1) o' r ∧ out = l ++ o' ∧ l.length ≤ s.1) (m := fun s => l0.length - s.1)
      (Lf := fun s => [(1, .slice (some ⟨bd, E - l0.length, none⟩) l0.length (C - (E - l0.length))), (2, .int .i64 (s.1 : Int)), (12, s.2)]) (n, _) ⟨hU, Nat.le_refl _, by omega, _, _, hO, hn, hstart, by simp; omega⟩ ⟨rfl, rfl, rfl, trivial⟩ ?_
    clear hO hU hn hstart hout
    rintro ⟨i, bv⟩ w5 ⟨hU, hi1, hi2, l, o', hO, hcm, hout, hll⟩
    dsimp only at hU hi1 hi2 hO hcm hll ⊢
    by_cases hlt : i < l0.length
    · have hD5 := hU.at hbd hD
      have hc : l0[i]? = some l0[i] := List.getElem?_eq_getElem hlt
      have hdr : l0.drop i = l0[i] :: l0.drop (i + 1) := List.drop_eq_getElem_cons hlt
      rw [hdr] at hcm
      have hat := fun {i : Nat} {c : UInt8} (h : l0[i]? = some c) => hv.at hD5 h
      have hsz := hU.size
      generalize l0[i] = c at hc hcm hdr
      by_cases h128 : 128 ≤ c.toNat
      · obtain ⟨m, o'', hm, hcm3, rfl⟩ := hcm.run
        have hpos := hm.pos h128
        rw [← hdr] at hm hcm3 hout
        rw [List.drop_drop] at hcm3
        have hmle := hm.le
        simp only [List.length_drop] at hmle
        repeat (first | refine WL.pp rfl ?_ | refine WL.ns ?_ | refine WC.sr ?_ | refine WC.dT rfl (by first | omega | decide) ?_ | refine WC.dF rfl (by first | omega | decide) ?_ | refine WL.ix (i := i) rfl rfl rfl (by omega) rfl ?_ | refine WL.ld rfl rfl (hat hc) rfl ?_ | refine WL.p rfl ?_ | refine WC.seq ?_ | refine WC.block ?_ | refine X.sn ?_ | refine WC.skip ?_ | refine WL.gT rfl rfl (by first | omega | decide) ?_ | refine WL.gF rfl rfl (by first | omega | decide) ?_)
        refine WL.call rfl rfl rfl (utf8Run_any _ l0 i m w5 hv hi2 hm hD5) ?_
        rintro e w6 ⟨rfl, rfl⟩
        refine ⟨_, _, rfl, rfl, ?_⟩
        repeat (first | refine WL.pp rfl ?_ | refine WL.ns ?_ | refine WC.sr ?_ | refine WC.bF rfl (by first | with_reducible rfl | exact Bool.not_true) ?_ | refine WC.seq ?_ | refine X.sn ?_ | refine WC.skip ?_)
        refine WL.sS m i rfl rfl (Sf.mk _ _ _) rfl rfl (by omega) (fun _ => rfl) (fun ad' hs' => ?_)
        have had := hs'.addr (by omega)
        subst had
        refine WL.apb ((l0.drop i).take m) rfl rfl hO (by simp; omega) (cells_of_suf hv hD5 rfl (by omega) hs') (by omega) hsz (fun v' w7 h4 h5 => ⟨_, rfl, ?_⟩)
        repeat (first | refine WL.pp rfl ?_ | refine WL.ns ?_ | refine WC.reg ?_ | refine WL.nil ?_ | refine X.bn ?_)
        refine X.again (i + m, v') ⟨hU.trans h5, by omega, by omega, _, _, h4, hcm3, ?_, ?_⟩ (by omega) ⟨rfl, rfl, rfl, trivial⟩
        · rw [hout, List.append_assoc]
        · simp; omega
      · by_cases h34 : c.toNat = 34
        · have h34' : c = 34 := UInt8.toNat_inj.1 h34
          subst h34'
          obtain ⟨rfl, hr⟩ := hcm.closed
          repeat (first | refine WL.pp rfl ?_ | refine WL.ns ?_ | refine WC.sr ?_ | refine WC.dT rfl (by first | omega | decide) ?_ | refine WL.ix (i := i) rfl rfl rfl (by omega) rfl ?_ | refine WL.ld rfl rfl (hat hc) rfl ?_ | refine WC.seq ?_ | refine WC.block ?_ | refine X.sn ?_ | refine WC.skip ?_)
          refine WC.drx (fun _ => True) ?_
          repeat (first | refine WX.p (by kernel_rfl) (by first | trivial | assumption) rfl ?_ | refine WX.ad (by kernel_rfl) (by first | trivial | assumption) rfl rfl (by omega) rfl ?_)
          refine WX.sS (i + 1) 0 (by kernel_rfl) trivial rfl rfl (Sf.mk _ _ _) rfl (by simp) (by omega) (fun _ => rfl) (fun ad1 hs1 => ?_)
          repeat (first | refine WX.p (by kernel_rfl) (by first | trivial | assumption) rfl ?_ | refine WX.ad (by kernel_rfl) (by first | trivial | assumption) rfl rfl (by omega) rfl ?_)
          refine WX.sS (l0.length - (i + 1)) (i + 1) (by kernel_rfl) trivial rfl rfl (Sf.mk _ _ _) (by simp) (by simp; omega) (by omega) (fun _ => rfl) (fun ad3 hs3 => ?_)
          repeat (refine WX.p (by kernel_rfl) (by first | trivial | assumption) rfl ?_)
          refine WX.nil ?_
          repeat (first | refine X.sn ?_ | refine X.sr ?_ | refine X.br ?_ | refine WC.ret ?_)
          refine X.ret_ rfl rfl ⟨_, _, _, rfl, hv.rg 0 (i + 1) (by omega) _, ?_, ?_, hU.drew⟩
          · have := hO.rb
            rw [hout, List.append_nil]
            exact this.sm (Sm.refl _).drew
          · have := hv.drop (i + 1) (by omega) hs3
            rw [hr]
            exact this
        · by_cases h92 : c.toNat = 92
          · have h92' : c = 92 := UInt8.toNat_inj.1 h92
            subst h92'
            obtain ⟨u, b', o'', he, hcm3, rfl⟩ := hcm.escd
            have hlt2 := he.lt
            simp only [List.length_drop] at hlt2
            repeat (first | refine WL.pp rfl ?_ | refine WL.ns ?_ | refine WC.sr ?_ | refine WC.dT rfl (by first | omega | decide) ?_ | refine WC.dF rfl (by first | omega | decide) ?_ | refine WL.ix (i := i) rfl rfl rfl (by omega) rfl ?_ | refine WL.ld rfl rfl (hat hc) rfl ?_ | refine WC.seq ?_ | refine WC.block ?_ | refine X.sn ?_ | refine WC.skip ?_ | refine WL.ad rfl rfl (by omega) rfl ?_)
            refine WL.call rfl rfl rfl (unescape_any w2.heap.size bv _ l l0 _ u b' (i + 1) w5 hv rfl he hD5 hO (by omega) hsz) ?_
            rintro e w6 ⟨v', m, rfl, h4, h5, h6, h7, h8, h9⟩
            refine ⟨_, _, rfl, rfl, ?_⟩
            repeat (first | refine WL.pp rfl ?_ | refine WL.ns ?_ | refine WC.sr ?_ | refine WC.bF rfl (by first | with_reducible rfl | exact Bool.not_true) ?_ | refine X.bn ?_ | refine WC.skip ?_)
            refine X.again (m, v') ⟨hU.trans h5, by omega, by omega, _, _, h4, by rw [h6]; exact hcm3, ?_, ?_⟩ (by omega) ⟨rfl, rfl, rfl, trivial⟩
            · rw [hout, List.append_assoc]
            · simp; omega
          · by_cases hp : 32 ≤ c.toNat ∧ c.toNat < 127 ∨ c.toNat = 9
            · obtain ⟨o'', hcm3, rfl⟩ := hcm.plain hp h34 h92
              rcases hp with ⟨hp1, hp2⟩ | hp
              all_goals
                repeat (first | refine WL.pp rfl ?_ | refine WL.ns ?_ | refine WC.sr ?_ | refine WC.bF rfl (by first | with_reducible rfl | exact Bool.not_true) ?_ | refine WC.dT rfl (by first | omega | decide) ?_ | refine WC.dF rfl (by first | omega | decide) ?_ | refine WL.ix (i := i) rfl rfl rfl (by omega) rfl ?_ | refine WL.ld rfl rfl (hat hc) rfl ?_ | refine WL.p rfl ?_ | refine WC.seq ?_ | refine WC.block ?_ | refine X.sn ?_ | refine WC.skip ?_ | refine WL.gT rfl rfl (by first | omega | decide) ?_ | refine WL.gF rfl rfl (by first | omega | decide) ?_)
                refine WL.bs rfl rfl (bs1 _) rfl (fun w6 hA => ?_)
                refine WL.apn (B := w2.heap.size) (l' := [c]) rfl rfl (hO.upS (hA.up (Nat.le_refl _))) rfl hA.at_ (alist rfl) (by simp; omega) (Nat.le_trans hsz (hA.up hsz).size) (fun v' w7 h4 h5 => ⟨_, rfl, ?_⟩)
                repeat (first | refine WL.pp rfl ?_ | refine WL.ns ?_ | refine WC.reg ?_ | refine WL.nil ?_ | refine X.bn ?_ | refine WL.ad rfl rfl (by omega) rfl ?_)
                refine X.again (i + 1, v') ⟨(hU.trans (hA.up hsz)).trans h5, by omega, by omega, _, _, h4, hcm3, ?_, ?_⟩ (by omega) ⟨rfl, rfl, rfl, trivial⟩
                · rw [hout, List.append_assoc]; rfl
                · simp; omega
            · exact absurd (hcm.other hp) (by omega)
    · have : i = l0.length := by omega
      subst this
      rw [List.drop_length] at hcm
      exact (hcm.nil).elim
end
end Go.Proofs.YtaccphdkapmdhaaGreat

namespace Go.Proofs.YtaccphdkapmdhaaGreat
attribute [local irreducible] binOp IntKind.wrap Sem.run
section
variable {bd C E : Nat} {dc : Array Value} {fz : Nat × Nat}

set_option maxRecDepth 100000 in
set_option maxHeartbeats 8000000 in
theorem basic_any (p v : Value) (l out r : Bs) (w : World) (hv : Suf bd C E dc v (34 :: l)) (hn : SBas l out r) (hE : E ≤ 100000000) (hD : w.heap[bd]? = some (.cells dc 5 fz)) :
    Calls PP 117 #[p, v] w fun e w' => ∃ v1 v2 v3, e = .returned (.tuple #[v1, v2, v3, .nilIface]) ∧ Rg C E v1 ∧ RB w' v2 out ∧ Suf bd C E dc v3 r ∧ Up w.heap.size w w' := by
  have hC := hv.C62
  have hle := hv.le
  have hEC := hv.EC
  have hval := hv.val (by simp)
  generalize hl : 34 :: l = l0 at *
  have hlen : 0 < l0.length := by rw [← hl]; simp
  have hn1 : SBas (l0.drop 1) out r ∧ out = (l0.take 1).drop 1 ++ out := by subst hl; exact ⟨hn, by simp⟩
  clear hn hl
  subst hval
  refine enter (L := [(0, p), (1, .slice (some ⟨bd, E - l0.length, none⟩) l0.length (C - (E - l0.length)))]) Tryz.func117 rfl rfl rfl ⟨rfl, rfl, trivial⟩ ?_
  repeat (first | refine WL.pp rfl ?_ | refine WL.ns ?_ | refine WC.sr ?_ | refine WC.block ?_)
  refine WC.loop (σ := Nat) (I := fun j w' => Sm w w' ∧ 1 ≤ j ∧ j ≤ l0.length ∧ ∃ o', SBas (l0.drop j) o' r ∧ out = (l0.take j).drop 1 ++ o') (m := fun j => l0.length - j) (Lf := fun j => [(0, p), (1, .slice (some ⟨bd, E - l0.length, none⟩) l0.length (C - (E - l0.length))), (8, .int .i64 (j : Int))]) 1 ⟨Sm.refl _, Nat.le_refl _, by omega, _, hn1⟩ ⟨rfl, rfl, rfl, trivial⟩ ?_
  rintro j w1 ⟨hS1, hj1, hj, hcm⟩
  repeat (first | refine WC.cut (x := .block _ (.loop _)) (σ := Nat) (fun i w' => Sm w w' ∧ j ≤ i ∧ i ≤ l0.length ∧ ∃ o', SBas (l0.drop i) o' r ∧ out = (l0.take i).drop 1 ++ o') (fun j => [(0, p), (1, .slice (some ⟨bd, E - l0.length, none⟩) l0.length (C - (E - l0.length))), (8, .int .i64 (j : Int))]) ?_ ?_ | refine WC.block ?_)
  · refine WC.loop (σ := Nat) (I := fun i w' => Sm w w' ∧ j ≤ i ∧ i ≤ l0.length ∧ ∃ o', SBas (l0.drop i) o' r ∧ out = (l0.take i).drop 1 ++ o') (m := fun j => l0.length - j) (Lf := fun j => [(0, p), (1, .slice (some ⟨bd, E - l0.length, none⟩) l0.length (C - (E - l0.length))), (8, .int .i64 (j : Int))]) j ⟨hS1, Nat.le_refl _, hj, hcm⟩ ⟨rfl, rfl, rfl, trivial⟩ ?_
    clear hcm
    rintro i w2 ⟨hS2, hji, hi, o', hcm2, hout⟩
    by_cases h8 : i + 8 ≤ l0.length
    · obtain ⟨x0, x1, x2, x3, x4, x5, x6, x7, t, ht, htd⟩ := eight h8
      have hBA := hv.cells.drop i
      rw [ht] at hBA
      repeat (first | refine WL.pp rfl ?_ | refine WL.ns ?_ | refine WC.sr ?_ | refine WC.dT rfl (by first | omega | decide) ?_ | refine WC.seq ?_ | refine WC.block ?_ | refine X.sn ?_ | refine WC.skip ?_ | refine WL.ad rfl rfl (by omega) rfl ?_)
      refine WL.sS (l0.length - i) i rfl rfl (Sf.mk _ _ _) rfl (by simp; omega) (by omega) (fun _ => rfl) (fun ad' hs' => ?_)
      have had := hs'.addr (by omega)
      subst had
      refine WL.call rfl rfl rfl (leUint64_any w2 (by omega) hBA (hS2.at hD)) ?_
      rintro e w3 ⟨rfl, hS3⟩
      refine ⟨_, _, rfl, rfl, ?_⟩
      have hx := le8_lt x0 x1 x2 x3 x4 x5 x6 x7
      repeat (first | refine WL.pp rfl ?_ | refine WL.ns ?_ | refine WC.sr ?_ | refine WC.seq ?_)
      refine WL.bo rfl rfl (and64 (b := MSB) hx msb_lt _ _) rfl ?_
      repeat (refine WL.pp rfl ?_)
      refine WL.call rfl rfl rfl (hasByteBelow_any _ 32 hx (by omega) w3) ?_
      rintro e w4 ⟨rfl, rfl⟩
      refine ⟨_, _, rfl, rfl, ?_⟩
      refine WL.bo rfl rfl (or64 (Nat.and_lt_two_pow _ msb_lt) (below_lt _ _) _ _) rfl ?_
      repeat (refine WL.pp rfl ?_)
      refine WL.call rfl rfl rfl (hasByteEqual_any _ 34 hx (by omega) w4) ?_
      rintro e w5 ⟨rfl, rfl⟩
      refine ⟨_, _, rfl, rfl, ?_⟩
      refine WL.bo rfl rfl (or64 (Nat.or_lt_two_pow (Nat.and_lt_two_pow _ msb_lt) (below_lt _ _)) (equal8_lt _ _) _ _) rfl ?_
      repeat (refine WL.pp rfl ?_)
      refine WL.call rfl rfl rfl (hasByteEqual_any _ 92 hx (by omega) w5) ?_
      rintro e w6 ⟨rfl, rfl⟩
      refine ⟨_, _, rfl, rfl, ?_⟩
      refine WL.bo rfl rfl (or64 (Nat.or_lt_two_pow (Nat.or_lt_two_pow (Nat.and_lt_two_pow _ msb_lt) (below_lt _ _)) (equal8_lt _ _)) (equal8_lt _ _) _ _) rfl ?_
      repeat (refine WL.pp rfl ?_)
      refine WL.call rfl rfl rfl (hasByteEqual_any _ 127 hx (by omega) w6) ?_
      rintro e w7 ⟨rfl, rfl⟩
      refine ⟨_, _, rfl, rfl, ?_⟩
      refine WL.bo rfl rfl (or64 (Nat.or_lt_two_pow (Nat.or_lt_two_pow (Nat.or_lt_two_pow (Nat.and_lt_two_pow _ msb_lt) (below_lt _ _)) (equal8_lt _ _)) (equal8_lt _ _)) (equal8_lt _ _) _ _) rfl ?_
      by_cases hz : le8 x0 x1 x2 x3 x4 x5 x6 x7 &&& MSB ||| below (le8 x0 x1 x2 x3 x4 x5 x6 x7) 32 ||| equal8 (le8 x0 x1 x2 x3 x4 x5 x6 x7) 34 ||| equal8 (le8 x0 x1 x2 x3 x4 x5 x6 x7) 92 ||| equal8 (le8 x0 x1 x2 x3 x4 x5 x6 x7) 127 = 0
      · obtain ⟨hz1, hz2⟩ := or_zero hz
        obtain ⟨hz1, hz4⟩ := or_zero hz1
        obtain ⟨hz1, hz3⟩ := or_zero hz1
        have hf := fast_of hz1
        have hq := equal_of (m := 127) (by omega) hf hz2
        have hq2 := equal_of (m := 34) (by omega) hf hz3
        have hq3 := equal_of (m := 92) (by omega) hf hz4
        rw [ht] at hcm2
        obtain ⟨o'', hcm3, rfl⟩ := hcm2.eight hf hq hq2 hq3
        have hout3 := taken_eight hout (by omega) hi ht
        rw [htd] at hcm3
        clear hq hf hq2 hq3 hBA
        generalize le8 x0 x1 x2 x3 x4 x5 x6 x7 &&& MSB ||| below (le8 x0 x1 x2 x3 x4 x5 x6 x7) 32 ||| equal8 (le8 x0 x1 x2 x3 x4 x5 x6 x7) 34 ||| equal8 (le8 x0 x1 x2 x3 x4 x5 x6 x7) 92 ||| equal8 (le8 x0 x1 x2 x3 x4 x5 x6 x7) 127 = z at hz ⊢
        subst hz
        repeat (first | refine WL.pp rfl ?_ | refine WL.ns ?_ | refine WC.dF rfl (by first | omega | decide) ?_ | refine WC.reg ?_ | refine WL.nil ?_ | refine X.sn ?_ | refine X.bn ?_ | refine WC.skip ?_ | refine WL.ad rfl rfl (by omega) rfl ?_)
        refine X.again (i + 8) ⟨hS2.trans hS3, by omega, h8, _, hcm3, hout3⟩ (by omega) ⟨rfl, rfl, rfl, trivial⟩
      · generalize le8 x0 x1 x2 x3 x4 x5 x6 x7 &&& MSB ||| below (le8 x0 x1 x2 x3 x4 x5 x6 x7) 32 ||| equal8 (le8 x0 x1 x2 x3 x4 x5 x6 x7) 34 ||| equal8 (le8 x0 x1 x2 x3 x4 x5 x6 x7) 92 ||| equal8 (le8 x0 x1 x2 x3 x4 x5 x6 x7) 127 = z at hz ⊢
        repeat (first | refine WL.pp rfl ?_ | refine WL.ns ?_ | refine WC.dT rfl (by first | omega | decide) ?_ | refine X.sx ?_ | refine X.bx ?_ | refine X.bo rfl ?_ | refine WC.exit ?_)
        refine X.cut i ⟨hS2.trans hS3, hji, hi, _, hcm2, hout⟩ ⟨rfl, rfl, rfl, trivial⟩
    · repeat (first | refine WL.pp rfl ?_ | refine WL.ns ?_ | refine WC.sr ?_ | refine WC.dF rfl (by first | omega | decide) ?_ | refine WC.seq ?_ | refine X.sx ?_ | refine X.bx ?_ | refine WC.exit ?_ | refine WL.ad rfl rfl (by omega) rfl ?_)
      refine X.cut i ⟨hS2, hji, hi, _, hcm2, hout⟩ ⟨rfl, rfl, rfl, trivial⟩
  · clear hcm hj hS1
    rintro i w2 ⟨hS2, hji, hi, o', hcm2, hout⟩
    by_cases hlt : i < l0.length
    · have hD2 := hS2.at hD
      have hc : l0[i]? = some l0[i] := List.getElem?_eq_getElem hlt
      have hdr : l0.drop i = l0[i] :: l0.drop (i + 1) := List.drop_eq_getElem_cons hlt
      rw [hdr] at hcm2
      have hat := fun {i : Nat} {c : UInt8} (h : l0[i]? = some c) => hv.at hD2 h
      generalize l0[i] = c at hc hcm2 hdr
      by_cases h128 : 128 ≤ c.toNat
      · obtain ⟨m, o'', hm, hcm3, rfl⟩ := hcm2.run
        have hpos := hm.pos h128
        rw [← hdr] at hm hcm3 hout
        rw [List.drop_drop] at hcm3
        have hmle := hm.le
        simp only [List.length_drop] at hmle
        have hout3 := taken_step hout (by omega) hi
        repeat (first | refine WL.pp rfl ?_ | refine WL.ns ?_ | refine WC.sr ?_ | refine WC.dF rfl (by first | omega | decide) ?_ | refine WL.ix (i := i) rfl rfl rfl (by omega) rfl ?_ | refine WL.ld rfl rfl (hat hc) rfl ?_ | refine WL.p rfl ?_ | refine WC.seq ?_ | refine WC.block ?_ | refine X.sn ?_ | refine WC.skip ?_ | refine WL.gT rfl rfl (by first | omega | decide) ?_ | refine WL.gF rfl rfl (by first | omega | decide) ?_)
        refine WL.call rfl rfl rfl (utf8Run_any _ l0 i m w2 hv hi hm hD2) ?_
        rintro e w3 ⟨rfl, rfl⟩
        refine ⟨_, _, rfl, rfl, ?_⟩
        repeat (first | refine WL.pp rfl ?_ | refine WL.ns ?_ | refine WC.sr ?_ | refine WC.bF rfl (by first | with_reducible rfl | exact Bool.not_true) ?_ | refine X.bn ?_ | refine WC.skip ?_)
        refine X.again (i + m) ⟨hS2, by omega, by omega, _, hcm3, hout3⟩ (by omega) ⟨rfl, rfl, rfl, trivial⟩
      · by_cases h34 : c.toNat = 34
        · have h34' : c = 34 := UInt8.toNat_inj.1 h34
          subst h34'
          obtain ⟨rfl, hr⟩ := hcm2.closed
          repeat (first | refine WL.pp rfl ?_ | refine WL.ns ?_ | refine WC.sr ?_ | refine WC.dT rfl (by first | omega | decide) ?_ | refine WC.dF rfl (by first | omega | decide) ?_ | refine WL.ix (i := i) rfl rfl rfl (by omega) rfl ?_ | refine WL.ld rfl rfl (hat hc) rfl ?_ | refine WC.seq ?_ | refine WC.block ?_ | refine X.sn ?_ | refine WC.skip ?_)
          refine WC.drx (fun _ => True) ?_
          repeat (first | refine WX.p (by kernel_rfl) (by first | trivial | assumption) rfl ?_ | refine WX.ad (by kernel_rfl) (by first | trivial | assumption) rfl rfl (by omega) rfl ?_)
          refine WX.sS (i + 1) 0 (by kernel_rfl) trivial rfl rfl (Sf.mk _ _ _) rfl (by simp) (by omega) (fun _ => rfl) (fun ad1 hs1 => ?_)
          repeat (refine WX.p (by kernel_rfl) (by first | trivial | assumption) rfl ?_)
          refine WX.sS (i - 1) 1 (by kernel_rfl) trivial rfl rfl (Sf.mk _ _ _) rfl (by simp; omega) (by omega) (fun _ => rfl) (fun ad2 hs2 => ?_)
          repeat (first | refine WX.p (by kernel_rfl) (by first | trivial | assumption) rfl ?_ | refine WX.ad (by kernel_rfl) (by first | trivial | assumption) rfl rfl (by omega) rfl ?_)
          refine WX.sS (l0.length - (i + 1)) (i + 1) (by kernel_rfl) trivial rfl rfl (Sf.mk _ _ _) (by simp) (by simp; omega) (by omega) (fun _ => rfl) (fun ad3 hs3 => ?_)
          repeat (refine WX.p (by kernel_rfl) (by first | trivial | assumption) rfl ?_)
          refine WX.nil ?_
          repeat (first | refine X.sn ?_ | refine X.sr ?_ | refine X.br ?_ | refine WC.ret ?_)
          refine X.ret_ rfl rfl ⟨_, _, _, rfl, hv.rg 0 (i + 1) (by omega) _, ?_, ?_, hS2.drew.up⟩
          · have := hv.sub (w := w2.drew) hD2 1 (i - 1) (by omega) hs2
            have e : (l0.drop 1).take (i - 1) = out := by rw [hout, List.append_nil, List.drop_take]
            rw [e] at this; exact this
          · have := hv.drop (i + 1) (by omega) hs3
            rw [hr]
            exact this
        · by_cases h92 : c.toNat = 92
          · have h92' : c = 92 := UInt8.toNat_inj.1 h92
            subst h92'
            rw [← hdr] at hcm2
            repeat (first | refine WL.pp rfl ?_ | refine WL.ns ?_ | refine WC.sr ?_ | refine WC.dT rfl (by first | omega | decide) ?_ | refine WC.dF rfl (by first | omega | decide) ?_ | refine WL.ix (i := i) rfl rfl rfl (by omega) rfl ?_ | refine WL.ld rfl rfl (hat hc) rfl ?_ | refine WC.seq ?_ | refine WC.block ?_ | refine X.sn ?_ | refine WC.skip ?_)
            refine WL.call rfl rfl rfl (escaped_any p _ l0 o' out r i w2 hv hE hcm2 (by omega) hlt hout hD2) ?_
            rintro e w3 ⟨v1, v2, v3, rfl, h4, h5, h6, h7⟩
            refine ⟨_, _, rfl, rfl, ?_⟩
            repeat (first | refine WL.pp rfl ?_ | refine WL.ns ?_ | refine X.sr ?_ | refine X.br ?_ | refine WC.ret ?_)
            refine X.ret_ rfl rfl ⟨_, _, _, rfl, h4, h5, h6, hS2.up.trans (h7.mono (by rw [hS2.heap]; exact Nat.le_refl _))⟩
          · by_cases hp : 32 ≤ c.toNat ∧ c.toNat < 127 ∨ c.toNat = 9
            · obtain ⟨o'', hcm3, rfl⟩ := hcm2.plain hp h34 h92
              have hout3 := taken_one hout (by omega) hi hdr
              rcases hp with ⟨hp1, hp2⟩ | hp
              all_goals
                repeat (first | refine WL.pp rfl ?_ | refine WL.ns ?_ | refine WC.sr ?_ | refine WC.bF rfl (by first | with_reducible rfl | exact Bool.not_true) ?_ | refine WC.dT rfl (by first | omega | decide) ?_ | refine WC.dF rfl (by first | omega | decide) ?_ | refine WL.ix (i := i) rfl rfl rfl (by omega) rfl ?_ | refine WL.ld rfl rfl (hat hc) rfl ?_ | refine WL.p rfl ?_ | refine WC.seq ?_ | refine WC.reg ?_ | refine WC.block ?_ | refine WL.nil ?_ | refine X.sn ?_ | refine X.bn ?_ | refine WC.skip ?_ | refine WL.ad rfl rfl (by omega) rfl ?_ | refine WL.gT rfl rfl (by first | omega | decide) ?_ | refine WL.gF rfl rfl (by first | omega | decide) ?_)
                refine X.again (i + 1) ⟨hS2, by omega, by omega, _, hcm3, hout3⟩ (by omega) ⟨rfl, rfl, rfl, trivial⟩
            · exact absurd (hcm2.other hp) (by omega)
    · have : i = l0.length := by omega
      subst this
      rw [List.drop_length] at hcm2
      exact (hcm2.nil).elim
end
end Go.Proofs.YtaccphdkapmdhaaGreat

