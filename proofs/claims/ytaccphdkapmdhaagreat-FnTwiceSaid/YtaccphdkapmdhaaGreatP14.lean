/- The writer: letters in keys. The writer: keys. Values of the reference in memory. No condition. -/
import Derived.Test.YtaccphdkapmdhaaGreatP13
namespace Go.Proofs.YtaccphdkapmdhaaGreat
theorem and15 (a : Nat) (ha : a < 2 ^ 62) (t : Nat) (w : World) : (binOp .and t (.int .i64 (a : Int)) (.int .i64 15)).run PP w = .ok (.int .i64 ((a % 16 : Nat) : Int)) w := by
  have h : (BitVec.ofInt 64 (a : Int) &&& BitVec.ofInt 64 (15 : Int)).toNat = a % 16 := by
    have e : BitVec.ofInt 64 (15 : Int) = BitVec.ofNat 64 15 := by decide
    rw [ofInt_nat, e, BitVec.toNat_and, BitVec.toNat_ofNat, BitVec.toNat_ofNat, Nat.mod_eq_of_lt (by omega), Nat.mod_eq_of_lt (by omega)]
    exact Nat.and_two_pow_sub_one_eq_mod a 4
  show (Op.intBits .and .i64 (a : Int) (15 : Int)).run PP w = _
  unfold Op.intBits
  simp only [Sem.run_pure]
  rw [show (BitVec.ofInt IntKind.i64.bits (a : Int) &&& BitVec.ofInt IntKind.i64.bits (15 : Int)).toNat = a % 16 from h, wrap_i64 (by omega)]

attribute [local irreducible] binOp IntKind.wrap Sem.run

set_option maxHeartbeats 4000000 in
theorem bare_any (c : UInt8) (w : World) : Calls PP 53 #[u8 c] w fun e w' => e = .returned (.bool (isBare c)) ∧ w' = w := by
  refine enter (L := [(0, u8 c)]) Tryz.func53 rfl rfl rfl ⟨rfl, trivial⟩ ?_
  have key : c.toNat < 45 ∨ c.toNat = 45 ∨ (45 < c.toNat ∧ c.toNat < 48) ∨ (48 ≤ c.toNat ∧ c.toNat ≤ 57) ∨ (57 < c.toNat ∧ c.toNat < 65) ∨ (65 ≤ c.toNat ∧ c.toNat ≤ 90) ∨ (90 < c.toNat ∧ c.toNat < 95) ∨ c.toNat = 95 ∨ c.toNat = 96 ∨ (97 ≤ c.toNat ∧ c.toNat ≤ 122) ∨ 122 < c.toNat := by omega
  rcases key with h | h | h | h | h | h | h | h | h | h | h
  all_goals
    repeat (first | refine WL.pp rfl ?_ | refine WL.ns ?_ | refine WC.sr ?_ | refine WL.p rfl ?_ | refine WC.ret ?_ | refine WL.gT rfl rfl (by first | omega | decide) ?_ | refine WL.gF rfl rfl (by first | omega | decide) ?_)
    refine X.ret_ rfl rfl ⟨?_, rfl⟩
    refine congrArg Ending.returned (congrArg Value.bool ?_)
    first
      | (rw [dc_of (by omega)]; simp only [isBare]; symm; rw [decide_eq_true_eq]; omega)
      | (rw [dc_not (by omega)]; simp only [isBare]; symm; rw [decide_eq_false_iff_not]; omega)
      | (simp only [isBare]; symm; rw [decide_eq_true_eq]; omega)

theorem Low.at {k : Bs} (h : Low k) {i : Nat} {c : UInt8} (hc : k[i]? = some c) : 97 ≤ c.toNat ∧ c.toNat ≤ 122 := h c (List.mem_of_getElem? hc)

set_option maxRecDepth 10000 in
set_option maxHeartbeats 8000000 in
theorem plain_any (k : Bs) (w : World) (hk : Low k) : Calls PP 54 #[str k, .bool false] w fun e w' => e = .returned (.bool true) ∧ Up w.heap.size w w' := by
  refine enter (L := [(0, str k), (1, .bool false)]) Tryz.func54 rfl rfl rfl ⟨rfl, rfl, trivial⟩ ?_
  repeat (first | refine WL.pp rfl ?_ | refine WL.ns ?_ | refine WC.sr ?_ | refine WC.seq ?_)
  refine WL.rg rfl rfl rfl (fun w1 hA => ?_)
  have hit := hA.at_
  have hU : Up w.heap.size w w1 := hA.up (Nat.le_refl _)
  generalize hb : w.heap.size = b at *
  repeat (first | refine WL.ns ?_ | refine WC.block ?_)
  refine WC.loop (σ := Nat) (I := fun i w' => w'.heap[b]? = some (.stringIter ⟨k.toArray⟩ i) ∧ i ≤ k.length ∧ Up b w w') (m := fun i => k.length - i) (Lf := fun _ => [(0, str k), (1, .bool false), (8, .pointer (some ⟨b, 0, none⟩))]) 0 ⟨hit, Nat.zero_le _, hU⟩ ⟨rfl, rfl, rfl, trivial⟩ ?_
  clear hit hU hA
  rintro i w2 ⟨hit, hi, hU⟩
  by_cases hlt : i < k.length
  · obtain ⟨c, hc⟩ : ∃ c, k[i]? = some c := ⟨_, List.getElem?_eq_getElem hlt⟩
    have hl := hk.at hc
    refine WC.seq ?_
    refine WC.reg ?_
    refine WL.nx rfl rfl hit hc (by omega) rfl (fun w3 hS3 => ?_)
    repeat (first | refine WL.pp rfl ?_ | refine WL.ns ?_ | refine WC.sr ?_ | refine WC.bT rfl (by first | with_reducible rfl | exact Bool.not_false) ?_ | refine WC.dF rfl (by first | omega | decide) ?_ | refine WL.p rfl ?_ | refine WC.seq ?_ | refine WC.block ?_ | refine X.sn ?_ | refine X.bn ?_ | refine WC.skip ?_ | refine WL.gF rfl rfl (by first | omega | decide) ?_)
    exact X.again (i + 1) ⟨hS3.at_, by omega, hU.trans (hS3.up (Nat.le_refl _))⟩ (by omega) ⟨rfl, rfl, rfl, trivial⟩
  · refine WC.seq ?_
    refine WC.reg ?_
    refine WL.nxe rfl rfl hit (by omega) rfl ?_
    repeat (first | refine WL.pp rfl ?_ | refine WL.ns ?_ | refine WC.sr ?_ | refine WC.bF rfl (by first | with_reducible rfl | exact Bool.not_true) ?_ | refine WC.seq ?_ | refine X.sn ?_ | refine X.sx ?_ | refine X.bx ?_ | refine WC.exit ?_ | refine WC.ret ?_)
    exact X.ret_ rfl rfl ⟨rfl, hU⟩

def hexTab : Bs := [48, 49, 50, 51, 52, 53, 54, 55, 56, 57, 97, 98, 99, 100, 101, 102, 65, 66, 67, 68, 69, 70]

theorem hexTab_ok : ∀ d : Fin 16, ∃ c, hexTab[d.val]? = some c ∧ hexv c = d.val := by decide

theorem hex_step (v k m : Nat) : (v / 2 ^ (4 * (k + 1))) % 16 ^ m * 16 + (v / 2 ^ (4 * k)) % 16 = (v / 2 ^ (4 * k)) % 16 ^ (m + 1) := by
  have h1 : v / 2 ^ (4 * (k + 1)) = v / 2 ^ (4 * k) / 16 := by
    rw [Nat.div_div_eq_div_mul]
    congr 1
    rw [show 4 * (k + 1) = 4 * k + 4 by omega, Nat.pow_add]
  rw [h1]
  generalize v / 2 ^ (4 * k) = u
  have h2 := Nat.mod_mul (x := u) (a := 16) (b := 16 ^ m)
  rw [Nat.pow_succ, Nat.mul_comm (16 ^ m) 16, h2]
  omega

set_option maxRecDepth 10000 in
set_option maxHeartbeats 8000000 in
theorem hex_any (v n : Nat) (w : World) (hv : v < 2147483648) (hn : n ≤ 8) :
    Calls PP 89 #[.int .i64 (v : Int), .int .i64 (n : Int)] w fun e w' => ∃ ds, e = .returned (str ds) ∧ ds.length = n ∧ (∀ x ∈ ds, hexv x < 16) ∧ hexs ds = v % 16 ^ n ∧ Up w.heap.size w w' := by
  refine enter (L := [(0, .int .i64 (v : Int)), (1, .int .i64 (n : Int))]) Tryz.func89 rfl rfl rfl ⟨rfl, rfl, trivial⟩ ?_
  repeat (first | refine WL.pp rfl ?_ | refine WL.ns ?_ | refine WC.sr ?_)
  refine WL.bs rfl rfl bs0 rfl (fun w1 hA => ?_)
  have hO : Ob w.heap.size w1 (.slice (some ⟨w.heap.size, 0, none⟩) 0 0) [] := Ob.lit hA rfl rfl (Nat.le_refl _) (by omega)
  have hU : Up w.heap.size w w1 := hA.up (Nat.le_refl _)
  repeat (first | refine WL.pp rfl ?_ | refine WL.ns ?_ | refine WC.sr ?_ | refine WC.seq ?_ | refine WC.block ?_ | refine WL.su rfl rfl (by omega) rfl ?_)
  refine WC.loop (σ := Nat × Bs × Value) (I := fun s w' => s.1 ≤ n ∧ Ob w.heap.size w' s.2.2 s.2.1 ∧ s.2.1.length = s.1 ∧ (∀ x ∈ s.2.1, hexv x < 16) ∧ hexs s.2.1 = (v / 2 ^ (4 * (n - s.1))) % 16 ^ s.1 ∧ Up w.heap.size w w')
    (m := fun s => n - s.1) (Lf := fun s => [(0, .int .i64 (v : Int)), (1, .int .i64 (n : Int)), (5, s.2.2), (6, .int .i64 ((n : Int) - 1 - s.1))])
    (0, [], .slice (some ⟨w.heap.size, 0, none⟩) 0 0) ⟨Nat.zero_le _, hO, rfl, fun x hx => by simp at hx, by simp [hexs, Nat.mod_one], hU⟩ ⟨rfl, rfl, rfl, by simp; rfl, trivial⟩ ?_
  clear hO hU hA
  rintro ⟨m, ds, dv⟩ w2 ⟨hm, hO, hl, hx, hh, hU⟩
  dsimp only at hm hO hl hx hh ⊢
  by_cases hlt : m < n
  · obtain ⟨k, hk⟩ : ∃ k, n = m + 1 + k := ⟨n - (m + 1), by omega⟩
    have e1 : (n : Int) - 1 - m = (k : Int) := by omega
    rw [e1]
    obtain ⟨c, hc, hcv⟩ := hexTab_ok ⟨(v / 2 ^ (4 * k)) % 16, Nat.mod_lt _ (by omega)⟩
    have hvk : v / 2 ^ (4 * k) ≤ v := Nat.div_le_self _ _
    repeat (first | refine WL.pp rfl ?_ | refine WL.ns ?_ | refine WC.sr ?_ | refine WC.dT rfl (by first | omega | decide) ?_ | refine WL.mu rfl rfl (by omega) rfl ?_ | refine WC.seq ?_ | refine WC.reg ?_ | refine WC.block ?_ | refine X.sn ?_ | refine WC.skip ?_)
    refine WL.bo rfl rfl (by have := shrU .i64 v (4 * k) (by omega) (by decide) 3 w2 .i64; rw [Int.natCast_mul] at this; exact this) rfl ?_
    refine WL.bo rfl rfl (and15 _ (by omega) _ _) rfl ?_
    refine WL.is rfl rfl rfl hc rfl ?_
    refine WL.bs rfl rfl (bs1 _) rfl (fun w3 hA => ?_)
    have hO3 : Ob w.heap.size w3 dv ds := hO.upS (hA.up (Nat.le_refl _))
    refine WL.apn [c] rfl rfl hO3 rfl hA.at_ rfl (by omega) (by have := hU.size; rw [hA.size]; omega) (fun dv' w4 hO4 hU4 => ⟨_, rfl, ?_⟩)
    repeat (first | refine WL.pp rfl ?_ | refine WC.reg ?_ | refine WL.nil ?_ | refine X.sn ?_ | refine X.bn ?_ | refine WL.su rfl rfl (by omega) rfl ?_)
    refine X.again (m + 1, ds ++ [c], dv') ⟨by dsimp only; omega, hO4, by simp [hl], fun x hx' => ?_, ?_, (hU.trans (hA.up hU.size)).trans hU4⟩ (by dsimp only; omega) ⟨rfl, rfl, rfl, ?_, trivial⟩
    · rcases List.mem_append.1 hx' with h | h
      · exact hx x h
      · simp only [List.mem_singleton] at h
        subst h
        rw [hcv]
        exact Nat.mod_lt _ (by omega)
    · dsimp only
      rw [hexs_snoc, hh, hcv]
      have e2 : n - m = k + 1 := by omega
      have e3 : n - (m + 1) = k := by omega
      rw [e2, e3]
      exact hex_step v k m
    · dsimp only
      rw [show (n : Int) - 1 - ((m + 1 : Nat) : Int) = (k : Int) - 1 by omega]
      rfl
  · have hmn : m = n := by omega
    subst hmn
    rw [Nat.sub_self] at hh
    repeat (first | refine WL.pp rfl ?_ | refine WL.ns ?_ | refine WC.sr ?_ | refine WC.dF rfl (by first | omega | decide) ?_ | refine WC.seq ?_ | refine X.sn ?_ | refine X.sx ?_ | refine X.bx ?_ | refine WC.exit ?_)
    refine WL.cbs ds rfl rfl hO.rb rfl ?_
    repeat (first | refine WL.pp rfl ?_ | refine WL.ns ?_ | refine WC.ret ?_)
    refine X.ret_ rfl rfl ⟨ds, rfl, hl, hx, by simpa using hh, hU⟩

set_option maxRecDepth 10000 in
set_option maxHeartbeats 16000000 in
theorem escapedW_any (sp : Nat) (code : Bs) (i : Nat) (c : UInt8) (w : World) (hS : SB w sp code i) (hi : i ≤ 999999980) (hc : 97 ≤ c.toNat ∧ c.toNat ≤ 122) :
    Calls PP 55 #[.pointer (some ⟨sp, 0, none⟩), .int .i32 (c.toNat : Int), .bool false] w (Wro sp code i 12 (EscS c) w) := by
  have hlt := hS.lt
  refine enter (L := [(0, .pointer (some ⟨sp, 0, none⟩)), (1, .int .i32 (c.toNat : Int)), (2, .bool false)]) Tryz.func55 rfl rfl rfl ⟨rfl, rfl, rfl, trivial⟩ ?_
  repeat (first | refine WL.pp rfl ?_ | refine WL.ns ?_ | refine WC.sr ?_ | refine WC.seq ?_)
  refine WL.rg rfl rfl rfl (fun w1 hA => ?_)
  have hit := hA.at_
  have hF : Fm sp [68] w w1 := hA.fm (by omega)
  have hS1 := hS.fm (hA.fm (B := 0) (T := []) (Nat.zero_le _)) (by simp) (by simp)
  generalize hb : w.heap.size = b at *
  have hsb : sp < b := by omega
  clear hS hA
  repeat (first | refine WL.ns ?_ | refine WC.block ?_)
  refine WC.loop (σ := Nat) (I := fun k w' => w'.heap[b]? = some (.stringIter ⟨([8, 9, 12, 13, 34, 92] : Bs).toArray⟩ k) ∧ k ≤ 6 ∧ SB w' sp code i ∧ Fm sp [68] w w') (m := fun k => 6 - k) (Lf := fun _ => [(0, .pointer (some ⟨sp, 0, none⟩)), (1, .int .i32 (c.toNat : Int)), (2, .bool false), (9, .pointer (some ⟨b, 0, none⟩))]) 0 ⟨hit, by omega, hS1, hF⟩ ⟨rfl, rfl, rfl, rfl, trivial⟩ ?_
  clear hit hS1 hF
  rintro k w2 ⟨hit, hk, hS, hF⟩
  by_cases hk6 : k < 6
  · obtain ⟨x, hx, hxl⟩ : ∃ x : UInt8, ([8, 9, 12, 13, 34, 92] : Bs)[k]? = some x ∧ x.toNat ≤ 92 := by
      rcases (by omega : k = 0 ∨ k = 1 ∨ k = 2 ∨ k = 3 ∨ k = 4 ∨ k = 5) with rfl | rfl | rfl | rfl | rfl | rfl <;> exact ⟨_, rfl, by decide⟩
    refine WC.seq ?_
    refine WC.reg ?_
    refine WL.nx rfl rfl hit hx (by omega) rfl (fun w3 hS3 => ?_)
    have hF3 : Fm 0 [1001] w2 w3 := hS3.fm hit (Nat.zero_le _) (by simp [tag]) rfl
    repeat (first | refine WL.pp rfl ?_ | refine WL.ns ?_ | refine WC.sr ?_ | refine WC.bT rfl (by first | with_reducible rfl | exact Bool.not_false) ?_ | refine WC.dF rfl (by first | omega | decide) ?_ | refine WC.seq ?_ | refine WC.block ?_ | refine X.sn ?_ | refine X.bn ?_ | refine WC.skip ?_)
    exact X.again (k + 1) ⟨hS3.at_, by omega, hS.fms (hS3.fm (T := [1001]) hit (Nat.le_of_lt hsb) (by simp [tag]) rfl) (by simp), hF.stN hS3 (by omega) (by omega)⟩ (by omega) ⟨rfl, rfl, rfl, rfl, trivial⟩
  · refine WC.seq ?_
    refine WC.reg ?_
    refine WL.nxe rfl rfl hit (by simp; omega) rfl ?_
    repeat (first | refine WL.pp rfl ?_ | refine WL.ns ?_ | refine WC.sr ?_ | refine WC.bF rfl (by first | with_reducible rfl | exact Bool.not_true) ?_ | refine WC.dF rfl (by first | omega | decide) ?_ | refine WL.p rfl ?_ | refine WC.seq ?_ | refine WC.block ?_ | refine X.sn ?_ | refine X.sx ?_ | refine X.bx ?_ | refine WC.exit ?_ | refine WL.gF rfl rfl (by first | omega | decide) ?_)
    refine WL.call rfl rfl rfl (pick_any sp code i 9 w2 hS (by omega) (by omega)) ?_
    rintro e w3 ⟨rfl, hS3, hF3⟩
    refine ⟨_, _, rfl, rfl, ?_⟩
    have p1 := Pot.to code (show i + 1 = i + 1 from rfl)
    have hF3' := hF.trans hF3
    by_cases h0 : pkv code i % 9 = 0
    · repeat (first | refine WL.pp rfl ?_ | refine WL.ns ?_ | refine WC.sr ?_ | refine WC.dT rfl (by first | omega | decide) ?_ | refine WL.p rfl ?_ | refine WL.gT rfl rfl (by first | omega | decide) ?_ | refine WL.cv rfl rfl (wrap_i64 (by omega)) rfl ?_)
      refine WL.call rfl rfl rfl (hex_any c.toNat 4 w3 (by omega) (by omega)) ?_
      rintro e w4 ⟨ds, rfl, hl, hx, hh, hU⟩
      refine ⟨_, _, rfl, rfl, ?_⟩
      repeat (first | refine WL.pp rfl ?_ | refine WL.ns ?_ | refine WL.bo rfl rfl (add_str [92, 117] ds (by simp; omega) _ _) rfl ?_ | refine X.sr ?_ | refine X.br ?_ | refine WC.ret ?_)
      have hlt3 := hS3.lt
      refine X.ret_ rfl rfl ⟨92 :: 117 :: ds, i + 1, rfl, .inr ⟨ds, .inl ⟨rfl, hl⟩, hx, ?_⟩, hS3.fm (hU.fm (B' := 0) (T := []) (Nat.le_refl _) (Nat.zero_le _)) (by simp) (by simp), hF3'.trans (hU.fm (Nat.le_refl _) (by omega)), by simp only [List.length_cons]; omega⟩
      rw [hh, Nat.mod_eq_of_lt]
      omega
    · repeat (first | refine WL.pp rfl ?_ | refine WL.ns ?_ | refine WC.sr ?_ | refine WC.bF rfl (by first | with_reducible rfl | exact Bool.not_true) ?_ | refine WL.p rfl ?_ | refine WL.gF rfl rfl (by first | omega | decide) ?_)
      refine WL.call rfl rfl rfl (pick_any sp code (i + 1) 9 w3 hS3 (by omega) (by omega)) ?_
      rintro e w4 ⟨rfl, hS4, hF4⟩
      refine ⟨_, _, rfl, rfl, ?_⟩
      have p2 := Pot.to code (show i + 1 + 1 = i + 2 by omega)
      have hF4' := hF3'.trans hF4
      by_cases h1 : pkv code (i + 1) % 9 = 0
      · repeat (first | refine WL.pp rfl ?_ | refine WL.ns ?_ | refine WC.sr ?_ | refine WC.dT rfl (by first | omega | decide) ?_ | refine WL.cv rfl rfl (wrap_i64 (by omega)) rfl ?_)
        refine WL.call rfl rfl rfl (hex_any c.toNat 8 w4 (by omega) (by omega)) ?_
        rintro e w5 ⟨ds, rfl, hl, hx, hh, hU⟩
        refine ⟨_, _, rfl, rfl, ?_⟩
        repeat (first | refine WL.pp rfl ?_ | refine WL.ns ?_ | refine WL.bo rfl rfl (add_str [92, 85] ds (by simp; omega) _ _) rfl ?_ | refine X.sr ?_ | refine X.br ?_ | refine WC.ret ?_)
        have hlt4 := hS4.lt
        refine X.ret_ rfl rfl ⟨92 :: 85 :: ds, i + 1 + 1, rfl, .inr ⟨ds, .inr ⟨rfl, hl⟩, hx, ?_⟩, hS4.fm (hU.fm (B' := 0) (T := []) (Nat.le_refl _) (Nat.zero_le _)) (by simp) (by simp), hF4'.trans (hU.fm (Nat.le_refl _) (by omega)), by simp only [List.length_cons]; omega⟩
        rw [hh, Nat.mod_eq_of_lt]
        omega
      · repeat (first | refine WL.pp rfl ?_ | refine WL.ns ?_ | refine WC.sr ?_ | refine WC.dF rfl (by first | omega | decide) ?_ | refine X.sn ?_ | refine X.bn ?_ | refine WC.skip ?_)
        refine WL.cvr rfl rfl (rune_str c (by omega) w4) rfl ?_
        repeat (first | refine WL.pp rfl ?_ | refine WL.ns ?_ | refine WC.ret ?_)
        exact X.ret_ rfl rfl ⟨[c], i + 1 + 1, rfl, .inl rfl, hS4, hF4', by simp only [List.length_singleton]; omega⟩
end Go.Proofs.YtaccphdkapmdhaaGreat

namespace Go.Proofs.YtaccphdkapmdhaaGreat
attribute [local irreducible] binOp IntKind.wrap Sem.run

/-- A row of strings, in blocks that meet P. -/
def RS (w : World) (P : Nat → Prop) (v : Value) (ks : List Bs) : Prop := ∃ ad cap, v = .slice ad ks.length cap ∧ (ks ≠ [] → ∃ b dc fz, (P b ∧ ks.length ≤ cap) ∧ ad = some ⟨b, 0, none⟩ ∧ w.heap[b]? = some (.cells dc 9 fz) ∧ ∀ (i : Nat) (k : Bs), ks[i]? = some k → dc[i]? = some (str k))

theorem RS.keep {w w' : World} {P : Nat → Prop} {v : Value} {ks : List Bs} (h : RS w P v ks) (hk : ∀ b o, P b → w.heap[b]? = some o → (tag o = 9 ∨ tag o = 37) → w'.heap[b]? = some o) : RS w' P v ks := by
  obtain ⟨ad, cap, h1, h2⟩ := h
  refine ⟨ad, cap, h1, fun hne => ?_⟩
  obtain ⟨b, dc, fz, hp, h3, h4, h5⟩ := h2 hne
  exact ⟨b, dc, fz, hp, h3, hk b _ hp.1 h4 (.inl rfl), h5⟩
theorem RS.mono {w : World} {P P' : Nat → Prop} {v : Value} {ks : List Bs} (h : RS w P v ks) (hp : ∀ b, P b → P' b) : RS w P' v ks := by
  obtain ⟨ad, cap, h1, h2⟩ := h
  refine ⟨ad, cap, h1, fun hne => ?_⟩
  obtain ⟨b, dc, fz, hp', h3, h4, h5⟩ := h2 hne
  exact ⟨b, dc, fz, ⟨hp b hp'.1, hp'.2⟩, h3, h4, h5⟩
theorem RS.fm {w w' : World} {P : Nat → Prop} {v : Value} {ks : List Bs} {B : Nat} {T : List Nat} (h : RS w P v ks) (hf : Fm B T w w') (h9 : 9 ∉ T) (h37 : 37 ∉ T) : RS w' P v ks :=
  h.keep fun b o _ ho ht => hf.keep _ _ ho (by rcases ht with h | h <;> rw [h] <;> assumption)
theorem RS.sl {w : World} {P : Nat → Prop} {v : Value} {ks : List Bs} (h : RS w P v ks) : isSl v := by
  obtain ⟨ad, cap, rfl, _⟩ := h
  trivial

def kK (k : Bs) : Nat := 11 + 12 * k.length
def kKs : List Bs → Nat
  | [] => 0
  | k :: ks => kK k + kKs ks
theorem kKs_app : ∀ (a b : List Bs), kKs (a ++ b) = kKs a + kKs b
  | [], b => by simp [kKs]
  | k :: a, b => by simp only [List.cons_append, kKs, kKs_app a b]; omega

theorem kKs_len : ∀ (ks : List Bs), ks.length ≤ kKs ks
  | [] => Nat.le_refl _
  | k :: ks => by
    have := kKs_len ks
    simp only [List.length_cons, kKs, kK]; omega

set_option maxRecDepth 100000 in
set_option maxHeartbeats 32000000 in
theorem keyW_any (sp : Nat) (code : Bs) (i : Nat) (P : Nat → Prop) (kv : Value) (ks : List Bs) (w : World) (hS : SB w sp code i) (hR : RS w P kv ks) (hlow : ∀ k ∈ ks, Low k) (h0 : ks ≠ []) (hi : Pot code i + kKs ks ≤ 900000000) :
    Calls PP 28 #[.pointer (some ⟨sp, 0, none⟩), kv] w (Wro sp code i (kKs ks) (KeyS ks) w) := by
  have hksl := kKs_len ks
  have hR0 := hR
  obtain ⟨ad, cap, hkv, hrow⟩ := hR
  obtain ⟨b, dcs, fz, _, had, hb, hdc⟩ := hrow h0
  have hsp := hS.lt
  have hkv' : kv = .slice (some ⟨b, 0, none⟩) ks.length cap := by rw [hkv, had]
  clear hrow hkv
  refine enter (L := [(0, .pointer (some ⟨sp, 0, none⟩)), (1, kv)]) Tryz.func28 rfl rfl rfl ⟨rfl, rfl, trivial⟩ ?_
  rw [hkv']
  repeat (first | refine WL.pp rfl ?_ | refine WL.ns ?_ | refine WC.sr ?_ | refine WC.seq ?_ | refine WC.block ?_)
  rw [← hkv']
  refine WC.loop (σ := Nat × Bs × Nat) (I := fun s w' => KeyD (ks.take s.1) s.2.1 ∧ SB w' sp code s.2.2 ∧ Fm sp [68] w w' ∧ s.1 ≤ ks.length ∧ s.2.1.length + Pot code s.2.2 ≤ Pot code i + kKs (ks.take s.1))
    (m := fun s => ks.length - s.1) (Lf := fun s => [(0, .pointer (some ⟨sp, 0, none⟩)), (5, str s.2.1), (12, kv), (13, .int .i64 (ks.length : Int)), (14, .int .i64 (s.1 : Int))])
    (0, [], i) ⟨.inl ⟨by simp, rfl⟩, hS, Fm.refl _ _ _, Nat.zero_le _, by simp [kKs]⟩ ⟨rfl, rfl, by rw [hkv']; rfl, rfl, rfl, trivial⟩ ?_
  clear hS
  rintro ⟨m, out, j⟩ w1 ⟨hD, hS, hF, hm, hp⟩
  dsimp only at hD hS hm hp ⊢
  have hjj := Pot.ge code j
  have hkl : kKs (ks.take m) ≤ kKs ks := by
    have := kKs_app (ks.take m) (ks.drop m)
    rw [List.take_append_drop] at this
    omega
  by_cases hlt : m < ks.length
  · obtain ⟨k, hk⟩ : ∃ k, ks[m]? = some k := ⟨_, List.getElem?_eq_getElem hlt⟩
    have htake : ks.take (m + 1) = ks.take m ++ [k] := by rw [List.take_add_one, hk]; rfl
    have htk : kKs (ks.take (m + 1)) = kKs (ks.take m) + (11 + 12 * k.length) := by rw [htake, kKs_app]; simp [kKs, kK]
    have htk2 : kKs (ks.take (m + 1)) ≤ kKs ks := by
      have := kKs_app (ks.take (m + 1)) (ks.drop (m + 1))
      rw [List.take_append_drop] at this
      omega
    have hkl : Low k := hlow k (List.mem_of_getElem? hk)
    have hck : w1.cell? ⟨b, m, none⟩ = some (str k) := cell_of (hF.keep _ _ hb (by simp [tag])) (hdc m k hk)
    rw [hkv']
    repeat (first | refine WL.pp rfl ?_ | refine WL.ns ?_ | refine WC.sr ?_ | refine WC.dT rfl (by first | omega | decide) ?_ | refine WL.ix (i := m) rfl rfl rfl hlt (by rw [Nat.zero_add, Nat.mul_one]; rfl) ?_ | refine WL.ld rfl rfl hck rfl ?_ | refine WC.cut (x := .seq _ (.cond _ _ _)) (σ := Bs × Nat) (fun s w' => (∀ x, PartS k x → KeyD (ks.take (m + 1)) (s.1 ++ x)) ∧ SB w' sp code s.2 ∧ Fm sp [68] w w' ∧ s.1.length + Pot code s.2 ≤ Pot code i + kKs (ks.take m) + 7) (fun s => [(0, .pointer (some ⟨sp, 0, none⟩)), (5, str s.1), (7, str k), (12, kv), (13, .int .i64 (ks.length : Int)), (14, .int .i64 (m : Int))]) ?_ ?_ | refine WC.seq ?_ | refine WC.block ?_ | refine X.sn ?_ | refine WC.skip ?_)
    · by_cases hm0 : m = 0
      · subst hm0
        have hout : out = [] := by
          rcases hD with ⟨_, h⟩ | ⟨ks', k', o, s, h, _⟩
          · exact h
          · simp at h
        subst hout
        repeat (first | refine WC.dF rfl (by first | omega | decide) ?_ | refine WC.skip ?_)
        refine X.cut ([], j) ⟨fun x hx => ?_, hS, hF, by dsimp only; omega⟩ ⟨rfl, rfl, rfl, by rw [hkv']; rfl, rfl, rfl, trivial⟩
        rw [htake]
        simpa using KeyD.first hx
      · have hne : ks.take m ≠ [] := by
          intro h
          have := congrArg List.length h
          rw [List.length_take, List.length_nil] at this
          omega
        repeat (first | refine WL.pp rfl ?_ | refine WC.dT rfl (by first | omega | decide) ?_ | refine WC.reg ?_)
        refine WL.call rfl rfl rfl (blanks_any sp code j w1 hS (by omega)) ?_
        rintro e w2 ⟨s1, rfl, hs1, hl1, hS2, hF2⟩
        refine ⟨_, _, rfl, rfl, ?_⟩
        repeat (first | refine WL.pp rfl ?_ | refine WL.bo rfl rfl (add_str s1 [46] (by simp; omega) _ _) rfl ?_)
        refine WL.call rfl rfl rfl (blanks_any sp code (j + 1) w2 hS2 (by omega)) ?_
        rintro e w3 ⟨s2, rfl, hs2, hl2, hS3, hF3⟩
        refine ⟨_, _, rfl, rfl, ?_⟩
        have p3 := Pot.to code (show j + 1 + 1 = j + 2 by omega)
        repeat (refine WL.bo rfl rfl (add_str (s1 ++ [46]) s2 (by simp; omega) _ _) rfl ?_)
        refine WL.bo rfl rfl (add_str out _ (by simp; omega) _ _) rfl ?_
        repeat (first | refine WL.pp rfl ?_ | refine WL.nil ?_)
        refine X.cut (out ++ (s1 ++ [46] ++ s2), j + 1 + 1) ⟨fun x hx => ?_, hS3, (hF.trans hF2).trans hF3, by dsimp only; simp only [List.length_append, List.length_singleton]; omega⟩ ⟨rfl, rfl, rfl, by rw [hkv']; rfl, rfl, rfl, trivial⟩
        rw [htake]
        exact hD.more hne hs1 hs2 hx
    · clear hD hS hF hp
      rintro ⟨out2, j2⟩ w2 ⟨hadd, hS2, hF2, hp2⟩
      dsimp only at hadd hS2 hp2
      have hj2 := Pot.ge code j2
      rw [← hkv']
      have hsz2 := hF2.size
      repeat (first | refine WL.pp rfl ?_ | refine WL.ns ?_ | refine WC.sr ?_ | refine WC.seq ?_ | refine WC.block ?_)
      have hb0 : dc ((⟨k.toArray⟩ : ByteArray) ≠ ⟨#[]⟩) = !k.isEmpty := by
        cases k with
        | nil => exact dc_not (by simp)
        | cons c k => exact dc_of (fun h => by have := str_inj.1 (show (⟨(c :: k).toArray⟩ : ByteArray) = ⟨([] : Bs).toArray⟩ from h); simp at this)
      rw [hb0]
      have hkk : 12 * k.length ≤ 900000000 := by omega
      refine WC.loop (σ := Nat) (I := fun q w' => w' = w2 ∧ q ≤ k.length) (m := fun q => k.length - q) (Lf := fun q => [(0, .pointer (some ⟨sp, 0, none⟩)), (5, str out2), (7, str k), (8, .bool (!k.isEmpty)), (12, kv), (13, .int .i64 (ks.length : Int)), (14, .int .i64 (m : Int)), (32, .int .i64 (k.length : Int)), (33, .int .i64 (q : Int))]) 0 ⟨rfl, Nat.zero_le _⟩ ⟨rfl, rfl, rfl, rfl, rfl, rfl, rfl, rfl, rfl, trivial⟩ ?_
      rintro q w3 ⟨rfl, hq⟩
      by_cases hql : q < k.length
      · obtain ⟨c, hc⟩ : ∃ c, k[q]? = some c := ⟨_, List.getElem?_eq_getElem hql⟩
        have hcl := hkl.at hc
        have hbr : isBare c = true := by simp only [isBare, decide_eq_true_eq]; omega
        have hne : (!k.isEmpty) = true := by cases k <;> simp_all
        have hcall := bare_any c w3
        rw [hbr] at hcall
        simp only [hne]
        repeat (first | refine WL.pp rfl ?_ | refine WL.ns ?_ | refine WC.sr ?_ | refine WC.dT rfl (by first | omega | decide) ?_ | refine WL.is rfl rfl rfl hc rfl ?_ | refine WL.p rfl ?_ | refine WC.seq ?_ | refine WC.reg ?_ | refine WC.block ?_ | refine X.sn ?_ | refine WC.skip ?_)
        refine WL.call rfl rfl rfl hcall ?_
        rintro e w4 ⟨rfl, rfl⟩
        refine ⟨_, _, rfl, rfl, ?_⟩
        repeat (first | refine WL.pp rfl ?_ | refine WL.p rfl ?_ | refine WC.reg ?_ | refine WL.nil ?_ | refine X.sn ?_ | refine X.bn ?_ | refine WL.ad rfl rfl (by omega) rfl ?_)
        exact X.again (q + 1) ⟨rfl, by omega⟩ (by omega) ⟨rfl, rfl, rfl, rfl, rfl, rfl, rfl, rfl, rfl, trivial⟩
      · clear hq
        by_cases hk0 : k = []
        · have hne : (!k.isEmpty) = false := by simp [hk0]
          simp only [hne]
          repeat (first | refine WL.pp rfl ?_ | refine WL.ns ?_ | refine WC.sr ?_ | refine WC.bF rfl (by first | with_reducible rfl | exact Bool.not_true) ?_ | refine WC.dF rfl (by first | omega | decide) ?_ | refine WL.p rfl ?_ | refine WC.seq ?_ | refine WC.block ?_ | refine X.sn ?_ | refine X.sx ?_ | refine X.bx ?_ | refine WC.exit ?_)
          refine WL.call rfl rfl rfl (plain_any k w3 hkl) ?_
          rintro e w4 ⟨rfl, hU3⟩
          refine ⟨_, _, rfl, rfl, ?_⟩
          have hlt2 := hS2.lt
          have hF23 : Fm sp [68] w3 w4 := hU3.fm (Nat.le_refl _) (by omega)
          have hS3 := hS2.fm (hU3.fm (B' := 0) (T := []) (Nat.le_refl _) (Nat.zero_le _)) (by simp) (by simp)
          have hj2 := Pot.ge code j2
          repeat (first | refine WL.pp rfl ?_ | refine WL.p rfl ?_)
          refine WL.call rfl rfl rfl (pick_any sp code j2 2 w4 hS3 (by omega) (by omega)) ?_
          rintro e w5 ⟨rfl, hS4, hF4⟩
          refine ⟨_, _, rfl, rfl, ?_⟩
          have p4 := Pot.to code (show j2 + 1 = j2 + 1 from rfl)
          have hF4' := (hF2.trans hF23).trans hF4
          by_cases h0 : pkv code j2 % 2 = 0
          · repeat (first | refine WL.pp rfl ?_ | refine WL.ns ?_ | refine WC.dT rfl (by first | omega | decide) ?_ | refine WL.bo rfl rfl (add_str [39] k (by simp; omega) _ _) rfl ?_ | refine WL.p rfl ?_ | refine WC.reg ?_)
            refine WL.bo rfl rfl (add_str _ [39] (by simp; omega) _ _) rfl ?_
            refine WL.bo rfl rfl (add_str out2 _ (by simp; omega) _ _) rfl ?_
            repeat (first | refine WL.pp rfl ?_ | refine WC.reg ?_ | refine WL.nil ?_ | refine X.sn ?_ | refine X.bn ?_ | refine WL.ad rfl rfl (by omega) rfl ?_)
            refine X.again (m + 1, out2 ++ (([39] ++ k) ++ [39]), j2 + 1) ⟨hadd _ (by have := PartS.lit hkl; simpa using this), hS4, hF4', by dsimp only; omega, by dsimp only; rw [htk]; simp only [List.length_append, List.length_singleton]; omega⟩ (by dsimp only; omega) ⟨rfl, rfl, rfl, rfl, rfl, trivial⟩
          · repeat (first | refine WL.pp rfl ?_ | refine WL.ns ?_ | refine WC.sr ?_ | refine WC.dF rfl (by first | omega | decide) ?_ | refine WL.bo rfl rfl (add_str out2 [34] (by simp; omega) _ _) rfl ?_ | refine WL.p rfl ?_ | refine WC.seq ?_)
            refine WL.rg rfl rfl rfl (fun w6 hA5 => ?_)
            have hit5 := hA5.at_
            have hlt4 := hS4.lt
            have hF5 : Fm sp [68] w w6 := hF4'.trans (hA5.fm (by omega))
            have hS5 := hS4.fm (hA5.fm (B := 0) (T := []) (Nat.zero_le _)) (by simp) (by simp)
            have hsz4 := hF4'.size
            generalize hbb : w5.heap.size = bb at *
            clear hA5
            repeat (first | refine WL.ns ?_ | refine WC.block ?_)
            refine WC.loop (σ := Nat × Bs × Nat) (I := fun s w' => w'.heap[bb]? = some (.stringIter ⟨k.toArray⟩ s.1) ∧ s.1 ≤ k.length ∧ BasS (k.take s.1) s.2.1 ∧ SB w' sp code s.2.2 ∧ Fm sp [68] w w' ∧ s.2.1.length + Pot code s.2.2 ≤ Pot code (j2 + 1) + 12 * s.1)
              (m := fun s => k.length - s.1) (Lf := fun s => [(0, .pointer (some ⟨sp, 0, none⟩)), (5, str (out2 ++ [34] ++ s.2.1)), (7, str k), (12, kv), (13, .int .i64 (ks.length : Int)), (14, .int .i64 (m : Int)), (47, .pointer (some ⟨bb, 0, none⟩))])
              (0, [], j2 + 1) ⟨hit5, Nat.zero_le _, BasS.nil, hS5, hF5, by simp⟩ ⟨rfl, by simp; rfl, rfl, rfl, rfl, rfl, rfl, trivial⟩ ?_
            clear hit5 hS5 hF5
            rintro ⟨q, es, j⟩ w7 ⟨hit, hq, hB, hS6, hF6, hp6⟩
            dsimp only at hit hq hB hS6 hp6 ⊢
            have hjj := Pot.ge code j
            by_cases hql : q < k.length
            · obtain ⟨c, hc⟩ : ∃ c, k[q]? = some c := ⟨_, List.getElem?_eq_getElem hql⟩
              have hcl := hkl.at hc
              refine WC.seq ?_
              refine WC.reg ?_
              refine WL.nx rfl rfl hit hc (by omega) rfl (fun w8 hS7 => ?_)
              have hF7 : Fm 0 [1001] w7 w8 := hS7.fm hit (Nat.zero_le _) (by simp [tag]) rfl
              have hit7 := hS7.at_
              repeat (first | refine WL.pp rfl ?_ | refine WL.ns ?_ | refine WC.sr ?_ | refine WC.bT rfl (by first | with_reducible rfl | exact Bool.not_false) ?_ | refine WC.seq ?_ | refine WC.reg ?_ | refine WC.block ?_ | refine X.sn ?_ | refine WC.skip ?_)
              refine WL.call rfl rfl rfl (escapedW_any sp code j c w8 (hS6.fms (hS7.fm (T := [1001]) hit (Nat.le_of_lt hlt4) (by simp [tag]) rfl) (by simp)) (by omega) hcl) ?_
              rintro e w9 ⟨s, j', rfl, hs, hS8, hF8, hp8⟩
              refine ⟨_, _, rfl, rfl, ?_⟩
              repeat (first | refine WL.pp rfl ?_ | refine WL.bo rfl rfl (add_str _ s (by simp; omega) _ _) rfl ?_ | refine WL.nil ?_ | refine X.bn ?_)
              refine X.again (q + 1, es ++ s, j') ⟨hF8.keep _ _ hit7 (by simp [tag]), by dsimp only; omega, ?_, hS8, (hF6.stN hS7 (by omega) (by omega)).trans hF8, by dsimp only; simp only [List.length_append]; omega⟩ (by dsimp only; omega) ⟨rfl, by simp only [← List.append_assoc]; rfl, rfl, rfl, rfl, rfl, rfl, trivial⟩
              dsimp only
              rw [List.take_add_one, hc]
              exact hB.snoc hs
            · have hqe : q = k.length := by omega
              subst hqe
              rw [List.take_length] at hB
              refine WC.seq ?_
              refine WC.reg ?_
              refine WL.nxe rfl rfl hit (Nat.le_refl _) rfl ?_
              repeat (first | refine WL.pp rfl ?_ | refine WL.ns ?_ | refine WC.bF rfl (by first | with_reducible rfl | exact Bool.not_true) ?_ | refine WL.bo rfl rfl (add_str _ [34] (by simp; omega) _ _) rfl ?_ | refine WC.seq ?_ | refine WC.reg ?_ | refine WL.nil ?_ | refine X.sn ?_ | refine X.sx ?_ | refine X.bn ?_ | refine X.bx ?_ | refine WC.exit ?_ | refine WL.ad rfl rfl (by omega) rfl ?_)
              refine X.again (m + 1, out2 ++ [34] ++ es ++ [34], j) ⟨?_, hS6, hF6, by dsimp only; omega, by dsimp only; rw [htk]; simp only [List.length_append, List.length_singleton]; omega⟩ (by dsimp only; omega) ⟨rfl, rfl, rfl, rfl, rfl, trivial⟩
              have := hadd _ (PartS.bas hkl hB)
              simpa using this
        · have hne : (!k.isEmpty) = true := by cases k <;> simp_all
          simp only [hne]
          repeat (first | refine WL.pp rfl ?_ | refine WL.ns ?_ | refine WC.sr ?_ | refine WC.dF rfl (by first | omega | decide) ?_ | refine WL.p rfl ?_ | refine WC.seq ?_ | refine WC.block ?_ | refine X.sn ?_ | refine X.sx ?_ | refine X.bx ?_ | refine WC.exit ?_)
          refine WL.call rfl rfl rfl (pick_any sp code j2 3 w3 hS2 (by omega) (by omega)) ?_
          rintro e w4 ⟨rfl, hS4, hF4⟩
          refine ⟨_, _, rfl, rfl, ?_⟩
          have p4 := Pot.to code (show j2 + 1 = j2 + 1 from rfl)
          by_cases hpk : 0 < pkv code j2 % 3
          · repeat (first | refine WL.pp rfl ?_ | refine WL.ns ?_ | refine WC.dT rfl (by first | omega | decide) ?_ | refine WL.bo rfl rfl (add_str out2 k (by omega) _ _) rfl ?_ | refine WL.p rfl ?_ | refine WC.reg ?_ | refine WL.nil ?_ | refine X.sn ?_ | refine X.bn ?_ | refine WL.ad rfl rfl (by omega) rfl ?_)
            refine X.again (m + 1, out2 ++ k, j2 + 1) ⟨hadd _ (PartS.bare hkl hk0), hS4, hF2.trans hF4, by dsimp only; omega, by dsimp only; rw [htk]; simp only [List.length_append]; omega⟩ (by dsimp only; omega) ⟨rfl, rfl, rfl, rfl, rfl, trivial⟩
          · have hF2 := hF2.trans hF4
            have hp2 : out2.length + Pot code (j2 + 1) ≤ Pot code i + kKs (ks.take m) + 8 := by omega
            clear hS2
            have hS2 := hS4
            clear hS4 hF4
            generalize hj3 : j2 + 1 = j3 at *
            have hsz2 := hF2.size
            clear hj2
            repeat (first | refine WL.pp rfl ?_ | refine WL.ns ?_ | refine WC.sr ?_ | refine WC.dF rfl (by first | omega | decide) ?_ | refine WL.p rfl ?_)
            refine WL.call rfl rfl rfl (plain_any k w4 hkl) ?_
            rintro e w5 ⟨rfl, hU3⟩
            refine ⟨_, _, rfl, rfl, ?_⟩
            have hlt2 := hS2.lt
            have hF23 : Fm sp [68] w4 w5 := hU3.fm (Nat.le_refl _) (by omega)
            have hS3 := hS2.fm (hU3.fm (B' := 0) (T := []) (Nat.le_refl _) (Nat.zero_le _)) (by simp) (by simp)
            have hj2 := Pot.ge code j3
            repeat (first | refine WL.pp rfl ?_ | refine WL.p rfl ?_)
            refine WL.call rfl rfl rfl (pick_any sp code j3 2 w5 hS3 (by omega) (by omega)) ?_
            rintro e w6 ⟨rfl, hS4, hF4⟩
            refine ⟨_, _, rfl, rfl, ?_⟩
            have p4 := Pot.to code (show j3 + 1 = j3 + 1 from rfl)
            have hF4' := (hF2.trans hF23).trans hF4
            by_cases h0 : pkv code j3 % 2 = 0
            · repeat (first | refine WL.pp rfl ?_ | refine WL.ns ?_ | refine WC.dT rfl (by first | omega | decide) ?_ | refine WL.bo rfl rfl (add_str [39] k (by simp; omega) _ _) rfl ?_ | refine WL.p rfl ?_ | refine WC.reg ?_)
              refine WL.bo rfl rfl (add_str _ [39] (by simp; omega) _ _) rfl ?_
              refine WL.bo rfl rfl (add_str out2 _ (by simp; omega) _ _) rfl ?_
              repeat (first | refine WL.pp rfl ?_ | refine WC.reg ?_ | refine WL.nil ?_ | refine X.sn ?_ | refine X.bn ?_ | refine WL.ad rfl rfl (by omega) rfl ?_)
              refine X.again (m + 1, out2 ++ (([39] ++ k) ++ [39]), j3 + 1) ⟨hadd _ (by have := PartS.lit hkl; simpa using this), hS4, hF4', by dsimp only; omega, by dsimp only; rw [htk]; simp only [List.length_append, List.length_singleton]; omega⟩ (by dsimp only; omega) ⟨rfl, rfl, rfl, rfl, rfl, trivial⟩
            · repeat (first | refine WL.pp rfl ?_ | refine WL.ns ?_ | refine WC.sr ?_ | refine WC.dF rfl (by first | omega | decide) ?_ | refine WL.bo rfl rfl (add_str out2 [34] (by simp; omega) _ _) rfl ?_ | refine WL.p rfl ?_ | refine WC.seq ?_)
              refine WL.rg rfl rfl rfl (fun w7 hA5 => ?_)
              have hit5 := hA5.at_
              have hlt4 := hS4.lt
              have hF5 : Fm sp [68] w w7 := hF4'.trans (hA5.fm (by omega))
              have hS5 := hS4.fm (hA5.fm (B := 0) (T := []) (Nat.zero_le _)) (by simp) (by simp)
              have hsz4 := hF4'.size
              generalize hbb : w6.heap.size = bb at *
              clear hA5
              repeat (first | refine WL.ns ?_ | refine WC.block ?_)
              refine WC.loop (σ := Nat × Bs × Nat) (I := fun s w' => w'.heap[bb]? = some (.stringIter ⟨k.toArray⟩ s.1) ∧ s.1 ≤ k.length ∧ BasS (k.take s.1) s.2.1 ∧ SB w' sp code s.2.2 ∧ Fm sp [68] w w' ∧ s.2.1.length + Pot code s.2.2 ≤ Pot code (j3 + 1) + 12 * s.1)
                (m := fun s => k.length - s.1) (Lf := fun s => [(0, .pointer (some ⟨sp, 0, none⟩)), (5, str (out2 ++ [34] ++ s.2.1)), (7, str k), (12, kv), (13, .int .i64 (ks.length : Int)), (14, .int .i64 (m : Int)), (47, .pointer (some ⟨bb, 0, none⟩))])
                (0, [], j3 + 1) ⟨hit5, Nat.zero_le _, BasS.nil, hS5, hF5, by simp⟩ ⟨rfl, by simp; rfl, rfl, rfl, rfl, rfl, rfl, trivial⟩ ?_
              clear hit5 hS5 hF5
              rintro ⟨q, es, j⟩ w8 ⟨hit, hq, hB, hS6, hF6, hp6⟩
              dsimp only at hit hq hB hS6 hp6 ⊢
              have hjj := Pot.ge code j
              by_cases hql : q < k.length
              · obtain ⟨c, hc⟩ : ∃ c, k[q]? = some c := ⟨_, List.getElem?_eq_getElem hql⟩
                have hcl := hkl.at hc
                refine WC.seq ?_
                refine WC.reg ?_
                refine WL.nx rfl rfl hit hc (by omega) rfl (fun w9 hS7 => ?_)
                have hF7 : Fm 0 [1001] w8 w9 := hS7.fm hit (Nat.zero_le _) (by simp [tag]) rfl
                have hit7 := hS7.at_
                repeat (first | refine WL.pp rfl ?_ | refine WL.ns ?_ | refine WC.sr ?_ | refine WC.bT rfl (by first | with_reducible rfl | exact Bool.not_false) ?_ | refine WC.seq ?_ | refine WC.reg ?_ | refine WC.block ?_ | refine X.sn ?_ | refine WC.skip ?_)
                refine WL.call rfl rfl rfl (escapedW_any sp code j c w9 (hS6.fms (hS7.fm (T := [1001]) hit (Nat.le_of_lt hlt4) (by simp [tag]) rfl) (by simp)) (by omega) hcl) ?_
                rintro e w10 ⟨s, j', rfl, hs, hS8, hF8, hp8⟩
                refine ⟨_, _, rfl, rfl, ?_⟩
                repeat (first | refine WL.pp rfl ?_ | refine WL.bo rfl rfl (add_str _ s (by simp; omega) _ _) rfl ?_ | refine WL.nil ?_ | refine X.bn ?_)
                refine X.again (q + 1, es ++ s, j') ⟨hF8.keep _ _ hit7 (by simp [tag]), by dsimp only; omega, ?_, hS8, (hF6.stN hS7 (by omega) (by omega)).trans hF8, by dsimp only; simp only [List.length_append]; omega⟩ (by dsimp only; omega) ⟨rfl, by simp only [← List.append_assoc]; rfl, rfl, rfl, rfl, rfl, rfl, trivial⟩
                dsimp only
                rw [List.take_add_one, hc]
                exact hB.snoc hs
              · have hqe : q = k.length := by omega
                subst hqe
                rw [List.take_length] at hB
                refine WC.seq ?_
                refine WC.reg ?_
                refine WL.nxe rfl rfl hit (Nat.le_refl _) rfl ?_
                repeat (first | refine WL.pp rfl ?_ | refine WL.ns ?_ | refine WC.bF rfl (by first | with_reducible rfl | exact Bool.not_true) ?_ | refine WL.bo rfl rfl (add_str _ [34] (by simp; omega) _ _) rfl ?_ | refine WC.seq ?_ | refine WC.reg ?_ | refine WL.nil ?_ | refine X.sn ?_ | refine X.sx ?_ | refine X.bn ?_ | refine X.bx ?_ | refine WC.exit ?_ | refine WL.ad rfl rfl (by omega) rfl ?_)
                refine X.again (m + 1, out2 ++ [34] ++ es ++ [34], j) ⟨?_, hS6, hF6, by dsimp only; omega, by dsimp only; rw [htk]; simp only [List.length_append, List.length_singleton]; omega⟩ (by dsimp only; omega) ⟨rfl, rfl, rfl, rfl, rfl, trivial⟩
                have := hadd _ (PartS.bas hkl hB)
                simpa using this
  · have hmm : m = ks.length := by omega
    subst hmm
    rw [List.take_length] at hD hp
    repeat (first | refine WL.pp rfl ?_ | refine WL.ns ?_ | refine WC.sr ?_ | refine WC.dF rfl (by first | omega | decide) ?_ | refine WC.seq ?_ | refine X.sn ?_ | refine X.sx ?_ | refine X.bx ?_ | refine WC.exit ?_ | refine WC.ret ?_)
    exact X.ret_ rfl rfl ⟨out, j, rfl, hD.key h0, hS, hF, hp⟩
end Go.Proofs.YtaccphdkapmdhaaGreat

namespace Go.Proofs.YtaccphdkapmdhaaGreat

mutual
/-- The cells of a node, but for its keys: kind, text, items; all rows in blocks that meet P. -/
def Nd (w : World) (P : Nat → Prop) : Val → Value → Value → Value → Prop
  | .sc kind text, a, b, c => a = .int .i64 (kind : Int) ∧ b = str text ∧ ∃ ad cap, c = .slice ad 0 cap
  | .arr vs, a, b, c => a = .int .i64 8 ∧ b = str [] ∧ ∃ ad cap, c = .slice ad vs.length cap ∧ (vs ≠ [] → ∃ g cur, P g ∧ ad = some ⟨g, 0, none⟩ ∧ w.heap[g]? = some (.cells ⟨cur⟩ 37 (0, 0)) ∧ NdIs w P vs cur)
  | .tbl es, a, b, c => a = .int .i64 9 ∧ b = str [] ∧ ∃ ad cap, c = .slice ad es.length cap ∧ (es ≠ [] → ∃ g cur, P g ∧ ad = some ⟨g, 0, none⟩ ∧ w.heap[g]? = some (.cells ⟨cur⟩ 37 (0, 0)) ∧ NdEs w P es cur)
/-- The cells of the items of a list. -/
def NdIs (w : World) (P : Nat → Prop) : List Val → List Value → Prop
  | [], _ => True
  | v :: vs, l => ∃ a b c d r, l = a :: b :: c :: d :: r ∧ Nd w P v a b c ∧ RS w P d [] ∧ NdIs w P vs r
/-- The cells of the items of a table. -/
def NdEs (w : World) (P : Nat → Prop) : List (List Bs × Val) → List Value → Prop
  | [], _ => True
  | (ks, v) :: es, l => ∃ a b c d r, l = a :: b :: c :: d :: r ∧ Nd w P v a b c ∧ RS w P d ks ∧ NdEs w P es r
end

/-- What is not touched. -/
def Kept (P : Nat → Prop) (w w' : World) : Prop := ∀ b o, P b → w.heap[b]? = some o → (tag o = 9 ∨ tag o = 37) → w'.heap[b]? = some o

theorem Kept.fm {P : Nat → Prop} {w w' : World} {B : Nat} {T : List Nat} (hf : Fm B T w w') (h9 : 9 ∉ T) (h37 : 37 ∉ T) : Kept P w w' := fun b o _ ho ht => hf.keep _ _ ho (by rcases ht with h | h <;> rw [h] <;> assumption)

mutual
theorem Nd.keep {w w' : World} {P : Nat → Prop} (hk : Kept P w w') : ∀ (v : Val) (a b c : Value), Nd w P v a b c → Nd w' P v a b c
  | .sc _ _, a, b, c, h => by simpa only [Nd] using h
  | .arr vs, a, b, c, h => by
    simp only [Nd] at h ⊢
    obtain ⟨h1, h2, ad, cap, h3, h4⟩ := h
    refine ⟨h1, h2, ad, cap, h3, fun hne => ?_⟩
    obtain ⟨g, cur, hp, h5, h6, h7⟩ := h4 hne
    exact ⟨g, cur, hp, h5, hk g _ hp h6 (.inr rfl), NdIs.keep hk vs cur h7⟩
  | .tbl es, a, b, c, h => by
    simp only [Nd] at h ⊢
    obtain ⟨h1, h2, ad, cap, h3, h4⟩ := h
    refine ⟨h1, h2, ad, cap, h3, fun hne => ?_⟩
    obtain ⟨g, cur, hp, h5, h6, h7⟩ := h4 hne
    exact ⟨g, cur, hp, h5, hk g _ hp h6 (.inr rfl), NdEs.keep hk es cur h7⟩
theorem NdIs.keep {w w' : World} {P : Nat → Prop} (hk : Kept P w w') : ∀ (vs : List Val) (l : List Value), NdIs w P vs l → NdIs w' P vs l
  | [], _, _ => trivial
  | v :: vs, l, h => by
    simp only [NdIs] at h ⊢
    obtain ⟨a, b, c, d, r, h1, h2, h3, h4⟩ := h
    exact ⟨a, b, c, d, r, h1, Nd.keep hk v a b c h2, h3.keep hk, NdIs.keep hk vs r h4⟩
theorem NdEs.keep {w w' : World} {P : Nat → Prop} (hk : Kept P w w') : ∀ (es : List (List Bs × Val)) (l : List Value), NdEs w P es l → NdEs w' P es l
  | [], _, _ => trivial
  | (ks, v) :: es, l, h => by
    simp only [NdEs] at h ⊢
    obtain ⟨a, b, c, d, r, h1, h2, h3, h4⟩ := h
    exact ⟨a, b, c, d, r, h1, Nd.keep hk v a b c h2, h3.keep hk, NdEs.keep hk es r h4⟩
end

mutual
theorem Nd.mono {w : World} {P P' : Nat → Prop} (hp : ∀ b, P b → P' b) : ∀ (v : Val) (a b c : Value), Nd w P v a b c → Nd w P' v a b c
  | .sc _ _, a, b, c, h => by simpa only [Nd] using h
  | .arr vs, a, b, c, h => by
    simp only [Nd] at h ⊢
    obtain ⟨h1, h2, ad, cap, h3, h4⟩ := h
    refine ⟨h1, h2, ad, cap, h3, fun hne => ?_⟩
    obtain ⟨g, cur, hpg, h5, h6, h7⟩ := h4 hne
    exact ⟨g, cur, hp g hpg, h5, h6, NdIs.mono hp vs cur h7⟩
  | .tbl es, a, b, c, h => by
    simp only [Nd] at h ⊢
    obtain ⟨h1, h2, ad, cap, h3, h4⟩ := h
    refine ⟨h1, h2, ad, cap, h3, fun hne => ?_⟩
    obtain ⟨g, cur, hpg, h5, h6, h7⟩ := h4 hne
    exact ⟨g, cur, hp g hpg, h5, h6, NdEs.mono hp es cur h7⟩
theorem NdIs.mono {w : World} {P P' : Nat → Prop} (hp : ∀ b, P b → P' b) : ∀ (vs : List Val) (l : List Value), NdIs w P vs l → NdIs w P' vs l
  | [], _, _ => trivial
  | v :: vs, l, h => by
    simp only [NdIs] at h ⊢
    obtain ⟨a, b, c, d, r, h1, h2, h3, h4⟩ := h
    exact ⟨a, b, c, d, r, h1, Nd.mono hp v a b c h2, h3.mono hp, NdIs.mono hp vs r h4⟩
theorem NdEs.mono {w : World} {P P' : Nat → Prop} (hp : ∀ b, P b → P' b) : ∀ (es : List (List Bs × Val)) (l : List Value), NdEs w P es l → NdEs w P' es l
  | [], _, _ => trivial
  | (ks, v) :: es, l, h => by
    simp only [NdEs] at h ⊢
    obtain ⟨a, b, c, d, r, h1, h2, h3, h4⟩ := h
    exact ⟨a, b, c, d, r, h1, Nd.mono hp v a b c h2, h3.mono hp, NdEs.mono hp es r h4⟩
end

theorem NdIs.get {w : World} {P : Nat → Prop} : ∀ {vs : List Val} {l : List Value} {m : Nat} {v : Val}, NdIs w P vs l → vs[m]? = some v →
    ∃ a b c d, (∀ (j : Nat) (x : Value), [a, b, c, d][j]? = some x → l[m * 4 + j]? = some x) ∧ Nd w P v a b c ∧ RS w P d []
  | [], _, _, _, _, h => by simp at h
  | u :: vs, l, 0, v, hn, h => by
    simp only [NdIs] at hn
    obtain ⟨a, b, c, d, r, rfl, h2, h3, h4⟩ := hn
    simp only [List.getElem?_cons_zero, Option.some.injEq] at h
    subst h
    refine ⟨a, b, c, d, fun j x hx => ?_, h2, h3⟩
    have hj := (List.getElem?_eq_some_iff.1 hx).1
    simp only [List.length_cons, List.length_nil] at hj
    rw [show 0 * 4 + j = j by omega, show a :: b :: c :: d :: r = [a, b, c, d] ++ r from rfl, List.getElem?_append_left (by simp; omega)]
    exact hx
  | u :: vs, l, m + 1, v, hn, h => by
    simp only [NdIs] at hn
    obtain ⟨a, b, c, d, r, rfl, h2, h3, h4⟩ := hn
    rw [List.getElem?_cons_succ] at h
    obtain ⟨a', b', c', d', q1, q2, q3⟩ := NdIs.get h4 h
    refine ⟨a', b', c', d', fun j x hx => ?_, q2, q3⟩
    rw [show (m + 1) * 4 + j = (m * 4 + j) + 1 + 1 + 1 + 1 by omega]
    simp only [List.getElem?_cons_succ]
    exact q1 j x hx

theorem NdEs.get {w : World} {P : Nat → Prop} : ∀ {es : List (List Bs × Val)} {l : List Value} {m : Nat} {ks : List Bs} {v : Val}, NdEs w P es l → es[m]? = some (ks, v) →
    ∃ a b c d, (∀ (j : Nat) (x : Value), [a, b, c, d][j]? = some x → l[m * 4 + j]? = some x) ∧ Nd w P v a b c ∧ RS w P d ks
  | [], _, _, _, _, _, h => by simp at h
  | (ks', u) :: vs, l, 0, ks, v, hn, h => by
    simp only [NdEs] at hn
    obtain ⟨a, b, c, d, r, rfl, h2, h3, h4⟩ := hn
    simp only [List.getElem?_cons_zero, Option.some.injEq, Prod.mk.injEq] at h
    obtain ⟨rfl, rfl⟩ := h
    refine ⟨a, b, c, d, fun j x hx => ?_, h2, h3⟩
    have hj := (List.getElem?_eq_some_iff.1 hx).1
    simp only [List.length_cons, List.length_nil] at hj
    rw [show 0 * 4 + j = j by omega, show a :: b :: c :: d :: r = [a, b, c, d] ++ r from rfl, List.getElem?_append_left (by simp; omega)]
    exact hx
  | u :: vs, l, m + 1, ks, v, hn, h => by
    obtain ⟨ks', u⟩ := u
    simp only [NdEs] at hn
    obtain ⟨a, b, c, d, r, rfl, h2, h3, h4⟩ := hn
    rw [List.getElem?_cons_succ] at h
    obtain ⟨a', b', c', d', q1, q2, q3⟩ := NdEs.get h4 h
    refine ⟨a', b', c', d', fun j x hx => ?_, q2, q3⟩
    rw [show (m + 1) * 4 + j = (m * 4 + j) + 1 + 1 + 1 + 1 by omega]
    simp only [List.getElem?_cons_succ]
    exact q1 j x hx

theorem NdIs.snoc {w : World} {P : Nat → Prop} : ∀ {vs : List Val} {l : List Value} {v : Val} {a b c d : Value}, NdIs w P vs l → l.length = vs.length * 4 → Nd w P v a b c → RS w P d [] → NdIs w P (vs ++ [v]) (l ++ [a, b, c, d])
  | [], l, v, a, b, c, d, _, hl, h1, h2 => by
    have : l = [] := List.eq_nil_of_length_eq_zero (by simpa using hl)
    subst this
    simp only [List.nil_append, NdIs]
    exact ⟨a, b, c, d, [], rfl, h1, h2, trivial⟩
  | u :: vs, l, v, a, b, c, d, hn, hl, h1, h2 => by
    simp only [NdIs] at hn
    obtain ⟨a', b', c', d', r, rfl, q1, q2, q3⟩ := hn
    simp only [List.cons_append, NdIs]
    exact ⟨a', b', c', d', r ++ [a, b, c, d], rfl, q1, q2, NdIs.snoc q3 (by simp at hl; omega) h1 h2⟩

theorem NdEs.snoc {w : World} {P : Nat → Prop} : ∀ {es : List (List Bs × Val)} {l : List Value} {ks : List Bs} {v : Val} {a b c d : Value}, NdEs w P es l → l.length = es.length * 4 → Nd w P v a b c → RS w P d ks → NdEs w P (es ++ [(ks, v)]) (l ++ [a, b, c, d])
  | [], l, ks, v, a, b, c, d, _, hl, h1, h2 => by
    have : l = [] := List.eq_nil_of_length_eq_zero (by simpa using hl)
    subst this
    simp only [List.nil_append, NdEs]
    exact ⟨a, b, c, d, [], rfl, h1, h2, trivial⟩
  | (ks', u) :: vs, l, ks, v, a, b, c, d, hn, hl, h1, h2 => by
    simp only [NdEs] at hn
    obtain ⟨a', b', c', d', r, rfl, q1, q2, q3⟩ := hn
    simp only [List.cons_append, NdEs]
    exact ⟨a', b', c', d', r ++ [a, b, c, d], rfl, q1, q2, NdEs.snoc q3 (by simp at hl; omega) h1 h2⟩

/-- The cells of a node are single cells. -/
theorem Nd.one {w : World} {P : Nat → Prop} {v : Val} {a b c : Value} (h : Nd w P v a b c) : oneV a = true ∧ oneV b = true ∧ oneV c = true ∧ isSl c := by
  cases v with
  | sc kind text =>
    simp only [Nd] at h
    obtain ⟨rfl, rfl, ad, cap, rfl⟩ := h
    exact ⟨rfl, rfl, rfl, trivial⟩
  | arr vs =>
    simp only [Nd] at h
    obtain ⟨rfl, rfl, ad, cap, rfl, _⟩ := h
    exact ⟨rfl, rfl, rfl, trivial⟩
  | tbl es =>
    simp only [Nd] at h
    obtain ⟨rfl, rfl, ad, cap, rfl, _⟩ := h
    exact ⟨rfl, rfl, rfl, trivial⟩
theorem RS.one {w : World} {P : Nat → Prop} {v : Value} {ks : List Bs} (h : RS w P v ks) : oneV v = true := by
  obtain ⟨ad, cap, rfl, _⟩ := h
  rfl

mutual
/-- Numbers seven, lists, tables with small keys. -/
def Ok7 : Val → Prop
  | .sc kind text => kind = 1 ∧ text = [55]
  | .arr vs => Ok7s vs
  | .tbl es => Ok7E es
def Ok7s : List Val → Prop
  | [] => True
  | v :: vs => Ok7 v ∧ Ok7s vs
def Ok7E : List (List Bs × Val) → Prop
  | [] => True
  | (ks, v) :: es => (ks ≠ [] ∧ ∀ k ∈ ks, Low k) ∧ Ok7 v ∧ Ok7E es
end

mutual
/-- What the writing of a value may cost. -/
def kV : Val → Nat
  | .sc _ text => text.length
  | .arr vs => 25 + kVs vs
  | .tbl es => 5 + kVE es
def kVs : List Val → Nat
  | [] => 0
  | v :: vs => 43 + kV v + kVs vs
def kVE : List (List Bs × Val) → Nat
  | [] => 0
  | (ks, v) :: es => 14 + kKs ks + kV v + kVE es
end

theorem kVs_app : ∀ (a b : List Val), kVs (a ++ b) = kVs a + kVs b
  | [], b => by simp [kVs]
  | v :: a, b => by simp only [List.cons_append, kVs, kVs_app a b]; omega
theorem kVE_app : ∀ (a b : List (List Bs × Val)), kVE (a ++ b) = kVE a + kVE b
  | [], b => by simp [kVE]
  | (ks, v) :: a, b => by simp only [List.cons_append, kVE, kVE_app a b]; omega
theorem kVs_len : ∀ (a : List Val), a.length ≤ kVs a
  | [] => Nat.le_refl _
  | v :: a => by have := kVs_len a; simp only [List.length_cons, kVs]; omega
theorem kVE_len : ∀ (a : List (List Bs × Val)), a.length ≤ kVE a
  | [] => Nat.le_refl _
  | (ks, v) :: a => by have := kVE_len a; simp only [List.length_cons, kVE]; omega

theorem Ok7s.mem : ∀ {vs : List Val}, Ok7s vs → ∀ v ∈ vs, Ok7 v
  | [], _, v, hv => by simp at hv
  | u :: vs, h, v, hv => by
    simp only [Ok7s] at h
    rcases List.mem_cons.1 hv with rfl | hv
    · exact h.1
    · exact Ok7s.mem h.2 v hv
theorem Ok7E.mem : ∀ {es : List (List Bs × Val)}, Ok7E es → ∀ ks v, (ks, v) ∈ es → (ks ≠ [] ∧ ∀ k ∈ ks, Low k) ∧ Ok7 v
  | [], _, ks, v, hv => by simp at hv
  | (ks', u) :: es, h, ks, v, hv => by
    simp only [Ok7E] at h
    rcases List.mem_cons.1 hv with e | hv
    · simp only [Prod.mk.injEq] at e
      obtain ⟨rfl, rfl⟩ := e
      exact ⟨h.1, h.2.1⟩
    · exact Ok7E.mem h.2.2 ks v hv
end Go.Proofs.YtaccphdkapmdhaaGreat

