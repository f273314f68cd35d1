/- The heads of tables: the nodes. The end of a line; expressions. The next expression. Going about in the nodes: the first child, the next one. Going about in the nodes: whether there is one, the steps of an iterator. The steps of an iterator over nodes. Children, keys and values of nodes. 'append' with all that it leaves alone. No condition. -/
import Derived.Test.YtaccphdkapmdhaaGreatP8
import Derived.Test.YtaccphdkapmdhaaGreatP4
namespace Go.Proofs.YtaccphdkapmdhaaGreat
attribute [local irreducible] binOp IntKind.wrap Sem.run
section
variable {bd C E : Nat} {dc : Array Value} {fz : Nat × Nat}

set_option maxRecDepth 100000 in
set_option maxHeartbeats 8000000 in
theorem tabHead_any (pp : Nat) (ad0 : Option Addr) (left : Value) (d : Nat) (ns : List ANode) (v : Value) (b r : Bs) (ks : List Bs) (w : World)
    (hv : Suf bd C E dc v (91 :: b)) (hE : E ≤ 100000000) (hk : Ks b ks (93 :: r)) (hD : w.heap[bd]? = some (.cells dc 5 fz))
    (hP : PS w pp (.slice ad0 E C) left (d : Int) ns) (hm : ns.length + 3 * b.length ≤ 399999999) :
    Calls PP 78 #[.pointer (some ⟨pp, 0, none⟩), v] w fun e w' => ∃ v', e = .returned (.tuple #[.int .i32 ((ns.length + 1 : Nat) : Int), v', .nilIface]) ∧ Suf bd C E dc v' r ∧
      PS w' pp (.slice ad0 E C) left (d : Int) (ns ++ ⟨3, none, 0, ns.length + 2⟩ :: keyNodes (ns.length + 1) ks) ∧ Fm pp [52, 104] w w' := by
  have hC := hv.C63
  obtain ⟨hkl, hk0⟩ := hk.len
  simp only [List.length_cons] at hkl
  have hv' := hv
  have hcons := hv.cons
  try simp only [List.length_cons] at hcons
  subst hcons
  have hle := hv'.le
  have hEC := hv'.EC
  simp only [List.length_cons] at hle
  refine enter (L := [(0, .pointer (some ⟨pp, 0, none⟩)), (1, .slice (some ⟨bd, E - (b.length + 1), none⟩) (b.length + 1) (C - (E - (b.length + 1))))]) Tryz.func78 rfl rfl rfl ⟨rfl, rfl, trivial⟩ ?_
  repeat (first | refine WL.pp rfl ?_ | refine WL.ns ?_ | refine WC.sr ?_)
  refine WL.bd rfl rfl (bdNode1 _) rfl ?_
  refine WL.call rfl rfl rfl (push_any pp _ left d ns 3 0 0 0 0 _ none w hP trivial (fun s hs => by cases hs) (by omega)) ?_
  rintro e w1 ⟨rfl, hP1, hF1⟩
  refine ⟨_, _, rfl, rfl, ?_⟩
  have hD1 : w1.heap[bd]? = some (.cells dc 5 fz) := hF1.keep _ _ hD (by simp [tag])
  have hl1 : (ns ++ [(⟨3, none, 0, 0⟩ : ANode)]).length = ns.length + 1 := by simp
  repeat (first | refine WL.pp rfl ?_ | refine WL.ns ?_ | refine WC.sr ?_)
  refine WL.sS b.length 1 rfl rfl (Sf.mk _ _ _) rfl (by simp; omega) (by omega) (fun _ => rfl) (fun ad' hs' => ?_)
  have hvb : Suf bd C E dc (.slice ad' b.length (C - (E - (b.length + 1)) - 1)) b := hv'.drop 1 (by simp) hs'
  refine WL.call rfl rfl rfl (hvb.skip hD1) ?_
  rintro e w2 ⟨v2, rfl, hv2, rfl⟩
  refine ⟨_, _, rfl, rfl, ?_⟩
  have hkey := key_any pp ad0 left d (ns ++ [(⟨3, none, 0, 0⟩ : ANode)]) v2 b (93 :: r) ks w2 hv2 hE hk hD1 hP1 (by rw [hl1]; omega)
  rw [hl1] at hkey
  refine WL.call rfl rfl rfl hkey ?_
  rintro e w3 ⟨v3, rfl, hv3, hP3, hF3⟩
  refine ⟨_, _, rfl, rfl, ?_⟩
  have hD3 : w3.heap[bd]? = some (.cells dc 5 fz) := hF3.keep _ _ hD1 (by simp [tag])
  have hl3 : (ns ++ [(⟨3, none, 0, 0⟩ : ANode)] ++ keyNodes (ns.length + 1) ks).length = ns.length + 1 + ks.length := by rw [List.length_append, hl1, keyNodes_length]
  obtain ⟨g, cap, cur, xs, hb, hpg, hgb, hc1, hc2, hcs, hct, hxl, hN⟩ := hP3.open (by omega)
  have h0 : (ns ++ [(⟨3, none, 0, 0⟩ : ANode)] ++ keyNodes (ns.length + 1) ks)[ns.length]? = some ⟨3, none, 0, 0⟩ := by
    rw [List.append_assoc, List.getElem?_append_right (Nat.le_refl _)]
    simp
  have hcur : ns.length * 7 + 6 < cur.size := by rw [hcs]; omega
  repeat (first | refine WL.pp rfl ?_ | refine WL.ns ?_ | refine WC.sr ?_ | refine WC.bF rfl (by first | with_reducible rfl | exact Bool.not_true) ?_ | refine WC.seq ?_ | refine X.sn ?_ | refine WC.skip ?_)
  refine WL.call rfl rfl rfl (at_any pp g _ cap (ns.length + 1) ns.length _ _ _ _ _ w3 hb rfl (by omega) (by omega)) ?_
  rintro e w4 ⟨rfl, rfl⟩
  refine ⟨_, _, rfl, rfl, ?_⟩
  repeat (refine WL.pp rfl ?_)
  refine WL.stB rfl rfl rfl hgb (Array.getElem?_eq_getElem hcur) rfl (fun w5 hS5 => ?_)
  have hP5 := PS.child hb hpg hgb hc1 hc2 hcs hct hN _ _ h0 hS5
  have hF5 := (hF1.trans hF3).trans (hS5.fm hgb (by omega) (by simp [tag]) rfl)
  have hD5 : w5.heap[bd]? = some (.cells dc 5 fz) := hF5.keep _ _ hD (by simp [tag])
  have e5 : (ns ++ [(⟨3, none, 0, 0⟩ : ANode)] ++ keyNodes (ns.length + 1) ks).set ns.length (⟨3, none, 0, ns.length + 1 + 1⟩ : ANode) = ns ++ ⟨3, none, 0, ns.length + 2⟩ :: keyNodes (ns.length + 1) ks := by
    rw [List.append_assoc, List.set_append_right _ _ (Nat.le_refl _), Nat.sub_self]
    simp
  have hcell := hv3.cell hD5
  have hv3' := hv3
  have hcons3 := hv3.cons
  try simp only [List.length_cons] at hcons3 hcell
  subst hcons3
  have hle3 := hv3'.le
  simp only [List.length_cons] at hle3
  repeat (first | refine WL.pp rfl ?_ | refine WL.ns ?_ | refine WC.sr ?_ | refine WC.dF rfl (by first | omega | decide) ?_ | refine WL.ix (i := 0) rfl rfl rfl (by omega) rfl ?_ | refine WL.ld rfl rfl hcell rfl ?_ | refine WL.p rfl ?_ | refine WC.seq ?_ | refine X.sn ?_ | refine WC.skip ?_ | refine WL.gF rfl rfl (by first | omega | decide) ?_)
  refine WC.drx (fun _ => True) ?_
  repeat (refine WX.p (by kernel_rfl) (by first | trivial | assumption) rfl ?_)
  refine WX.sS r.length 1 (by kernel_rfl) trivial rfl rfl (Sf.mk _ _ _) rfl (by simp; omega) (by omega) (fun _ => rfl) (fun ad3 hs3 => ?_)
  repeat (refine WX.p (by kernel_rfl) (by first | trivial | assumption) rfl ?_)
  refine WX.nil ?_
  repeat (first | refine X.sn ?_ | refine WC.ret ?_)
  refine X.ret_ rfl rfl ⟨_, rfl, hv3'.drop 1 (by simp) hs3, ?_, hF5.drew⟩
  rw [← e5]
  exact hP5.sm (Sm.refl _).drew

set_option maxRecDepth 100000 in
set_option maxHeartbeats 8000000 in
theorem atabHead_any (pp : Nat) (ad0 : Option Addr) (left : Value) (d : Nat) (ns : List ANode) (v : Value) (b r : Bs) (ks : List Bs) (w : World)
    (hv : Suf bd C E dc v (91 :: 91 :: b)) (hE : E ≤ 100000000) (hk : Ks b ks (93 :: 93 :: r)) (hD : w.heap[bd]? = some (.cells dc 5 fz))
    (hP : PS w pp (.slice ad0 E C) left (d : Int) ns) (hm : ns.length + 3 * b.length ≤ 399999999) :
    Calls PP 77 #[.pointer (some ⟨pp, 0, none⟩), v] w fun e w' => ∃ v', e = .returned (.tuple #[.int .i32 ((ns.length + 1 : Nat) : Int), v', .nilIface]) ∧ Suf bd C E dc v' r ∧
      PS w' pp (.slice ad0 E C) left (d : Int) (ns ++ ⟨4, none, 0, ns.length + 2⟩ :: keyNodes (ns.length + 1) ks) ∧ Fm pp [52, 104] w w' := by
  have hC := hv.C63
  obtain ⟨hkl, hk0⟩ := hk.len
  simp only [List.length_cons] at hkl
  have hv' := hv
  have hcons := hv.cons
  simp only [List.length_cons] at hcons
  subst hcons
  have hle := hv'.le
  have hEC := hv'.EC
  simp only [List.length_cons] at hle
  refine enter (L := [(0, .pointer (some ⟨pp, 0, none⟩)), (1, .slice (some ⟨bd, E - (b.length + 1 + 1), none⟩) (b.length + 1 + 1) (C - (E - (b.length + 1 + 1))))]) Tryz.func77 rfl rfl rfl ⟨rfl, rfl, trivial⟩ ?_
  repeat (first | refine WL.pp rfl ?_ | refine WL.ns ?_ | refine WC.sr ?_)
  refine WL.bd rfl rfl (bdNode1 _) rfl ?_
  refine WL.call rfl rfl rfl (push_any pp _ left d ns 4 0 0 0 0 _ none w hP trivial (fun s hs => by cases hs) (by omega)) ?_
  rintro e w1 ⟨rfl, hP1, hF1⟩
  refine ⟨_, _, rfl, rfl, ?_⟩
  have hD1 : w1.heap[bd]? = some (.cells dc 5 fz) := hF1.keep _ _ hD (by simp [tag])
  have hl1 : (ns ++ [(⟨4, none, 0, 0⟩ : ANode)]).length = ns.length + 1 := by simp
  repeat (first | refine WL.pp rfl ?_ | refine WL.ns ?_ | refine WC.sr ?_)
  refine WL.sS b.length 2 rfl rfl (Sf.mk _ _ _) rfl (by simp; omega) (by omega) (fun _ => rfl) (fun ad' hs' => ?_)
  have hvb : Suf bd C E dc (.slice ad' b.length (C - (E - (b.length + 1 + 1)) - 2)) b := hv'.drop 2 (by simp) hs'
  refine WL.call rfl rfl rfl (hvb.skip hD1) ?_
  rintro e w2 ⟨v2, rfl, hv2, rfl⟩
  refine ⟨_, _, rfl, rfl, ?_⟩
  have hkey := key_any pp ad0 left d (ns ++ [(⟨4, none, 0, 0⟩ : ANode)]) v2 b (93 :: 93 :: r) ks w2 hv2 hE hk hD1 hP1 (by rw [hl1]; omega)
  rw [hl1] at hkey
  refine WL.call rfl rfl rfl hkey ?_
  rintro e w3 ⟨v3, rfl, hv3, hP3, hF3⟩
  refine ⟨_, _, rfl, rfl, ?_⟩
  have hD3 : w3.heap[bd]? = some (.cells dc 5 fz) := hF3.keep _ _ hD1 (by simp [tag])
  have hl3 : (ns ++ [(⟨4, none, 0, 0⟩ : ANode)] ++ keyNodes (ns.length + 1) ks).length = ns.length + 1 + ks.length := by rw [List.length_append, hl1, keyNodes_length]
  obtain ⟨g, cap, cur, xs, hb, hpg, hgb, hc1, hc2, hcs, hct, hxl, hN⟩ := hP3.open (by omega)
  have h0 : (ns ++ [(⟨4, none, 0, 0⟩ : ANode)] ++ keyNodes (ns.length + 1) ks)[ns.length]? = some ⟨4, none, 0, 0⟩ := by
    rw [List.append_assoc, List.getElem?_append_right (Nat.le_refl _)]
    simp
  have hcur : ns.length * 7 + 6 < cur.size := by rw [hcs]; omega
  repeat (first | refine WL.pp rfl ?_ | refine WL.ns ?_ | refine WC.sr ?_ | refine WC.bF rfl (by first | with_reducible rfl | exact Bool.not_true) ?_ | refine WC.seq ?_ | refine X.sn ?_ | refine WC.skip ?_)
  refine WL.call rfl rfl rfl (at_any pp g _ cap (ns.length + 1) ns.length _ _ _ _ _ w3 hb rfl (by omega) (by omega)) ?_
  rintro e w4 ⟨rfl, rfl⟩
  refine ⟨_, _, rfl, rfl, ?_⟩
  repeat (refine WL.pp rfl ?_)
  refine WL.stB rfl rfl rfl hgb (Array.getElem?_eq_getElem hcur) rfl (fun w5 hS5 => ?_)
  have hP5 := PS.child hb hpg hgb hc1 hc2 hcs hct hN _ _ h0 hS5
  have hF5 := (hF1.trans hF3).trans (hS5.fm hgb (by omega) (by simp [tag]) rfl)
  have hD5 : w5.heap[bd]? = some (.cells dc 5 fz) := hF5.keep _ _ hD (by simp [tag])
  have e5 : (ns ++ [(⟨4, none, 0, 0⟩ : ANode)] ++ keyNodes (ns.length + 1) ks).set ns.length (⟨4, none, 0, ns.length + 1 + 1⟩ : ANode) = ns ++ ⟨4, none, 0, ns.length + 2⟩ :: keyNodes (ns.length + 1) ks := by
    rw [List.append_assoc, List.set_append_right _ _ (Nat.le_refl _), Nat.sub_self]
    simp
  have hcell := hv3.cell hD5
  have hv3' := hv3
  have hcons3 := hv3.cons
  have hcell2 := hv3.c1 hD5
  simp only [List.length_cons] at hcons3 hcell hcell2
  subst hcons3
  have hle3 := hv3'.le
  simp only [List.length_cons] at hle3
  repeat (first | refine WL.pp rfl ?_ | refine WL.ns ?_ | refine WC.sr ?_ | refine WC.dF rfl (by first | omega | decide) ?_ | refine WL.ix (i := 0) rfl rfl rfl (by omega) rfl ?_ | refine WL.ld rfl rfl hcell rfl ?_ | refine WL.ix (i := 1) rfl rfl rfl (by omega) rfl ?_ | refine WL.ld rfl rfl hcell2 rfl ?_ | refine WL.p rfl ?_ | refine WC.seq ?_ | refine X.sn ?_ | refine WC.skip ?_ | refine WL.gF rfl rfl (by first | omega | decide) ?_)
  refine WC.drx (fun _ => True) ?_
  repeat (refine WX.p (by kernel_rfl) (by first | trivial | assumption) rfl ?_)
  refine WX.sS r.length 2 (by kernel_rfl) trivial rfl rfl (Sf.mk _ _ _) rfl (by simp; omega) (by omega) (fun _ => rfl) (fun ad3 hs3 => ?_)
  repeat (refine WX.p (by kernel_rfl) (by first | trivial | assumption) rfl ?_)
  refine WX.nil ?_
  repeat (first | refine X.sn ?_ | refine WC.ret ?_)
  refine X.ret_ rfl rfl ⟨_, rfl, hv3'.drop 2 (by simp) hs3, ?_, hF5.drew⟩
  rw [← e5]
  exact hP5.sm (Sm.refl _).drew
end
end Go.Proofs.YtaccphdkapmdhaaGreat

namespace Go.Proofs.YtaccphdkapmdhaaGreat
attribute [local irreducible] binOp IntKind.wrap Sem.run
section
variable {bd C E : Nat} {dc : Array Value} {fz : Nat × Nat}

set_option maxRecDepth 100000 in
set_option maxHeartbeats 8000000 in
theorem finish_any (pp root : Nat) (data left : Value) (nest : Int) (ns : List ANode) (v : Value) (b r : Bs) (w : World) (hv : Suf bd C E dc v b) (he : Eol (skipWs b) r) (hD : w.heap[bd]? = some (.cells dc 5 fz)) (hP : PS w pp data left nest ns) :
    Calls PP 79 #[.pointer (some ⟨pp, 0, none⟩), .int .i32 root, v] w fun e w' => ∃ v', e = .returned (.tuple #[v', .nilIface]) ∧ Suf bd C E dc v' r ∧ Sm w w' := by
  refine enter (L := [(0, .pointer (some ⟨pp, 0, none⟩)), (1, .int .i32 root), (2, v)]) Tryz.func79 rfl rfl rfl ⟨rfl, rfl, rfl, trivial⟩ ?_
  repeat (first | refine WL.pp rfl ?_ | refine WL.ns ?_ | refine WC.sr ?_)
  refine WL.call rfl rfl rfl (hv.skip hD) ?_
  rintro e w1 ⟨v1, rfl, hv1, rfl⟩
  refine ⟨_, _, rfl, rfl, ?_⟩
  cases hsk : skipWs b with
  | nil =>
    rw [hsk] at hv1 he
    obtain ⟨ad, rfl, hs⟩ := hv1.nil
    cases he with
    | nl h =>
      repeat (first | refine WL.pp rfl ?_ | refine WL.ns ?_ | refine WC.sr ?_ | refine WC.bF rfl (by first | with_reducible rfl | exact Bool.not_true) ?_ | refine WL.p rfl ?_ | refine WC.seq ?_ | refine X.sn ?_ | refine WC.skip ?_ | refine WL.gF rfl rfl (by first | omega | decide) ?_)
      refine WL.call rfl rfl rfl (consumeEOL_any _ _ _ w1 hv1 h hD) ?_
      rintro e w2 ⟨v2, rfl, hv2, rfl⟩
      refine ⟨_, _, rfl, rfl, ?_⟩
      repeat (first | refine WL.pp rfl ?_ | refine WL.ns ?_ | refine WC.ret ?_)
      exact X.ret_ rfl rfl ⟨_, rfl, hv2, Sm.refl _⟩
  | cons c t =>
    rw [hsk] at hv1 he
    have hcell := hv1.cell hD
    have hv1' := hv1
    have hcons := hv1.cons
    subst hcons
    have hle := hv1'.le
    simp only [List.length_cons] at hle
    cases he with
    | nl h =>
      have hc : c.toNat ≠ 35 := by
        cases h with
        | lf => decide
        | crlf => decide
      repeat (first | refine WL.pp rfl ?_ | refine WL.ns ?_ | refine WC.sr ?_ | refine WC.dF rfl (by first | omega | decide) ?_ | refine WL.ix (i := 0) rfl rfl rfl (by omega) rfl ?_ | refine WL.ld rfl rfl hcell rfl ?_ | refine WL.p rfl ?_ | refine WC.seq ?_ | refine X.sn ?_ | refine WC.skip ?_ | refine WL.gT rfl rfl (by first | omega | decide) ?_)
      refine WL.call rfl rfl rfl (consumeEOL_any _ _ _ w1 hv1' h hD) ?_
      rintro e w2 ⟨v2, rfl, hv2, rfl⟩
      refine ⟨_, _, rfl, rfl, ?_⟩
      repeat (first | refine WL.pp rfl ?_ | refine WL.ns ?_ | refine WC.ret ?_)
      exact X.ret_ rfl rfl ⟨_, rfl, hv2, Sm.refl _⟩
    | cm h1 h2 =>
      repeat (first | refine WL.pp rfl ?_ | refine WL.ns ?_ | refine WC.sr ?_ | refine WC.dT rfl (by first | omega | decide) ?_ | refine WL.ix (i := 0) rfl rfl rfl (by omega) rfl ?_ | refine WL.ld rfl rfl hcell rfl ?_ | refine WL.p rfl ?_ | refine WC.seq ?_ | refine WL.gT rfl rfl (by first | omega | decide) ?_)
      refine WL.call rfl rfl rfl (scanComment_any _ _ _ w1 hv1' h1 hD) ?_
      rintro e w2 ⟨v2, v3, rfl, hv3, hS2⟩
      refine ⟨_, _, rfl, rfl, ?_⟩
      obtain ⟨nv, xs, hpb, _, _⟩ := hP.sm hS2
      repeat (first | refine WL.pp rfl ?_ | refine WL.ns ?_ | refine WC.sr ?_ | refine WC.bF rfl (by first | with_reducible rfl | exact Bool.not_true) ?_ | refine WL.ldB (b := pp) (v := .bool false) rfl rfl hpb rfl rfl ?_ | refine WC.seq ?_ | refine WC.reg ?_ | refine X.sn ?_ | refine WC.skip ?_)
      refine WL.call rfl rfl rfl (consumeEOL_any _ _ _ w2 hv3 h2 (hS2.at hD)) ?_
      rintro e w3 ⟨v4, rfl, hv4, rfl⟩
      refine ⟨_, _, rfl, rfl, ?_⟩
      repeat (first | refine WL.pp rfl ?_ | refine WL.ns ?_ | refine WC.ret ?_)
      exact X.ret_ rfl rfl ⟨_, rfl, hv4, hS2⟩

/-- What an expression is parsed into. -/
def encX : Ex → List ANode
  | .kv ks v => encE ks (encV v) 0
  | .tab ks => ⟨3, none, 0, 2⟩ :: keyNodes 1 ks
  | .atab ks => ⟨4, none, 0, 2⟩ :: keyNodes 1 ks

set_option maxRecDepth 100000 in
set_option maxHeartbeats 8000000 in
theorem exprTable_any (pp : Nat) (ad0 : Option Addr) (left : Value) (v : Value) (b b1 r : Bs) (x : Ex) (w : World) (hv : Suf bd C E dc v (91 :: b)) (hE : E ≤ 100000000) (hx : EX false (91 :: b) x b1) (hn : ∀ ks v, x ≠ .kv ks v) (he : Eol (skipWs b1) r) (hD : w.heap[bd]? = some (.cells dc 5 fz))
    (hP : PS w pp (.slice ad0 E C) left 0 []) :
    Calls PP 45 #[.pointer (some ⟨pp, 0, none⟩), v] w fun e w' => ∃ v', e = .returned (.tuple #[v', .nilIface]) ∧ Suf bd C E dc v' r ∧ PS w' pp (.slice ad0 E C) left 0 (encX x) ∧ Fm pp [52, 104] w w' := by
  have hC := hv.C63
  have hv' := hv
  have hcons := hv.cons
  subst hcons
  have hle := hv'.le
  have hEC := hv'.EC
  simp only [List.length_cons] at hle
  refine enter (L := [(0, .pointer (some ⟨pp, 0, none⟩)), (1, .slice (some ⟨bd, E - (b.length + 1), none⟩) (b.length + 1) (C - (E - (b.length + 1))))]) Tryz.func45 rfl rfl rfl ⟨rfl, rfl, trivial⟩ ?_
  cases hx with
  | kv => exact absurd rfl (hn _ _)
  | tab h1 h2 =>
    cases b with
    | nil => exact absurd (h2.len.1) (by simp)
    | cons c t =>
      have hc : c.toNat ≠ 91 := fun e => h1 (by
        have : c = 91 := UInt8.toNat_inj.1 e
        rw [this]; rfl)
      have hcell2 := hv'.c1 hD
      simp only [List.length_cons] at hcell2 hle
      repeat (first | refine WL.pp rfl ?_ | refine WL.ns ?_ | refine WC.sr ?_ | refine WC.dF rfl (by first | omega | decide) ?_ | refine WL.ix (i := 1) rfl rfl rfl (by simp) rfl ?_ | refine WL.ld rfl rfl hcell2 rfl ?_ | refine WL.gT rfl rfl (by simp; omega) ?_ | refine WL.p rfl ?_ | refine WC.seq ?_ | refine WC.reg ?_)
      refine WL.call rfl rfl rfl (tabHead_any pp ad0 left 0 [] _ _ _ _ w hv' hE h2 hD hP (by simp; omega)) ?_
      rintro e w1 ⟨v1, rfl, hv1, hP1, hF1⟩
      refine ⟨_, _, rfl, rfl, ?_⟩
      have hD1 : w1.heap[bd]? = some (.cells dc 5 fz) := hF1.keep _ _ hD (by simp [tag])
      repeat (first | refine WL.pp rfl ?_ | refine WL.ns ?_ | refine WC.sr ?_ | refine WC.bF rfl (by first | with_reducible rfl | exact Bool.not_true) ?_ | refine WC.seq ?_ | refine X.sn ?_ | refine WC.skip ?_)
      refine WL.call rfl rfl rfl (finish_any pp _ _ left _ _ v1 _ r w1 hv1 he hD1 hP1) ?_
      rintro e w2 ⟨v2, rfl, hv2, hS2⟩
      refine ⟨_, _, rfl, rfl, ?_⟩
      repeat (first | refine WL.pp rfl ?_ | refine WL.ns ?_ | refine WC.ret ?_)
      exact X.ret_ rfl rfl ⟨_, rfl, hv2, hP1.sm hS2, hF1.trans hS2.fm⟩
  | @atab b _ ks h2 =>
    have hcell2 := hv'.c1 hD
    simp only [List.length_cons] at hcell2 hle
    repeat (first | refine WL.pp rfl ?_ | refine WL.ns ?_ | refine WC.sr ?_ | refine WC.dT rfl (by first | omega | decide) ?_ | refine WL.ix (i := 1) rfl rfl rfl (by simp) rfl ?_ | refine WL.ld rfl rfl hcell2 rfl ?_ | refine WL.gT rfl rfl (by simp; omega) ?_ | refine WL.p rfl ?_ | refine WC.seq ?_ | refine WC.reg ?_)
    refine WL.call rfl rfl rfl (atabHead_any pp ad0 left 0 [] _ _ _ _ w hv' hE h2 hD hP (by simp; omega)) ?_
    rintro e w1 ⟨v1, rfl, hv1, hP1, hF1⟩
    refine ⟨_, _, rfl, rfl, ?_⟩
    have hD1 : w1.heap[bd]? = some (.cells dc 5 fz) := hF1.keep _ _ hD (by simp [tag])
    repeat (first | refine WL.pp rfl ?_ | refine WL.ns ?_ | refine WC.sr ?_ | refine WC.bF rfl (by first | with_reducible rfl | exact Bool.not_true) ?_ | refine WC.seq ?_ | refine X.sn ?_ | refine WC.skip ?_)
    refine WL.call rfl rfl rfl (finish_any pp _ _ left _ _ v1 _ r w1 hv1 he hD1 hP1) ?_
    rintro e w2 ⟨v2, rfl, hv2, hS2⟩
    refine ⟨_, _, rfl, rfl, ?_⟩
    repeat (first | refine WL.pp rfl ?_ | refine WL.ns ?_ | refine WC.ret ?_)
    exact X.ret_ rfl rfl ⟨_, rfl, hv2, hP1.sm hS2, hF1.trans hS2.fm⟩

set_option maxRecDepth 100000 in
set_option maxHeartbeats 8000000 in
theorem exprKeyval_any (pp : Nat) (ad0 : Option Addr) (left : Value) (v : Value) (b b1 b2 r : Bs) (ks : List Bs) (val : Val) (w : World) (hv : Suf bd C E dc v (skipWs b)) (hE : E ≤ 100000000) (hk : Ks b ks (61 :: b1)) (hval : VV false 0 (skipWs b1) val b2) (he : Eol (skipWs b2) r) (hD : w.heap[bd]? = some (.cells dc 5 fz))
    (hbl : b.length ≤ 100000000) (hP : PS w pp (.slice ad0 E C) left 0 []) :
    Calls PP 46 #[.pointer (some ⟨pp, 0, none⟩), v] w fun e w' => ∃ v', e = .returned (.tuple #[v', .nilIface]) ∧ Suf bd C E dc v' r ∧ PS w' pp (.slice ad0 E C) left 0 (encX (.kv ks val)) ∧ Fm pp [52, 104] w w' := by
  refine enter (L := [(0, .pointer (some ⟨pp, 0, none⟩)), (1, v)]) Tryz.func46 rfl rfl rfl ⟨rfl, rfl, trivial⟩ ?_
  repeat (first | refine WL.pp rfl ?_ | refine WL.ns ?_ | refine WC.sr ?_)
  refine WL.call rfl rfl rfl (keyval_any (value_any hE (skipWs b1).length) rfl pp ad0 left 0 [] v b b1 b2 ks val w hv hE hk hval (Nat.le_refl _) hD hP (by simp; omega)) ?_
  rintro e w1 ⟨v1, rfl, hv1, hP1, hF1⟩
  refine ⟨_, _, rfl, rfl, ?_⟩
  have hD1 : w1.heap[bd]? = some (.cells dc 5 fz) := hF1.keep _ _ hD (by simp [tag])
  repeat (first | refine WL.pp rfl ?_ | refine WL.ns ?_ | refine WC.sr ?_ | refine WC.bF rfl (by first | with_reducible rfl | exact Bool.not_true) ?_ | refine WC.seq ?_ | refine X.sn ?_ | refine WC.skip ?_)
  refine WL.call rfl rfl rfl (finish_any pp _ _ left _ _ v1 _ r w1 hv1 he hD1 hP1) ?_
  rintro e w2 ⟨v2, rfl, hv2, hS2⟩
  refine ⟨_, _, rfl, rfl, ?_⟩
  repeat (first | refine WL.pp rfl ?_ | refine WL.ns ?_ | refine WC.ret ?_)
  exact X.ret_ rfl rfl ⟨_, rfl, hv2, hP1.sm hS2, hF1.trans hS2.fm⟩
end
end Go.Proofs.YtaccphdkapmdhaaGreat

namespace Go.Proofs.YtaccphdkapmdhaaGreat
attribute [local irreducible] binOp IntKind.wrap Sem.run

theorem skipWs_idem : ∀ (b : Bs), skipWs (skipWs b) = skipWs b
  | [] => rfl
  | c :: l => by
    by_cases h : isWs c = true
    · simp only [skipWs, h, if_true]
      exact skipWs_idem l
    · simp [skipWs, h]

theorem Ks.head91 {c : UInt8} {t r : Bs} {ks : List Bs} (h : Ks (c :: t) ks r) (hs : skipWs (c :: t) = c :: t) : c.toNat ≠ 91 := by
  have key : ∀ {x k r' : Bs}, KP x k r' → ∀ c t, x = c :: t → c.toNat ≠ 91 := by
    intro x k r' hk c t hx
    cases hk with
    | bare h1 h2 h3 =>
      cases k with
      | nil => exact absurd rfl h1
      | cons c' k =>
        have := h2 c' (by simp)
        simp only [isBare, decide_eq_true_eq] at this
        simp only [List.cons_append, List.cons.injEq] at hx
        obtain ⟨rfl, _⟩ := hx
        omega
    | lit h =>
      simp only [List.cons.injEq] at hx
      obtain ⟨rfl, _⟩ := hx
      decide
    | bas h =>
      simp only [List.cons.injEq] at hx
      obtain ⟨rfl, _⟩ := hx
      decide
  cases h with
  | one h1 h2 => rw [hs] at h1; exact key h1 c t rfl
  | dot h1 h2 h3 => rw [hs] at h1; exact key h1 c t rfl

theorem PS.leftSet {w w' : World} {pp : Nat} {data left left' : Value} {nest : Int} {ns : List ANode} {nv : Value} {xs : List Value} (h1 : w.heap[pp]? = some (.cells ⟨[.bool false, data, left, nv, .nilIface, .int .i64 nest]⟩ 52 (0, 0))) (h2 : w.ownsRow (pp + 1) 104 7 nv ns.length xs) (h3 : NL w pp ns xs)
    (hS : St w pp (.cells ⟨[.bool false, data, left', nv, .nilIface, .int .i64 nest]⟩ 52 (0, 0)) w') : PS w' pp data left' nest ns ∧ Fm pp [52, 104] w w' := by
  have hf : Fm pp [52, 104] w w' := hS.fm h1 (Nat.le_refl _) (by simp [tag]) rfl
  refine ⟨⟨nv, xs, hS.at_, own_same h2 (fun k o hk h => hS.keep h ?_), h3.fm hf (by simp)⟩, hf⟩
  have := (h2.lt k hk).1
  omega

section
variable {bd C E : Nat} {dc : Array Value} {fz : Nat × Nat}

/-- What the call of the next expression shows. -/
def Next (bd C E : Nat) (dc : Array Value) (pp : Nat) (data : Value) (es : List Ex) (w : World) (e : Ending) (w' : World) : Prop :=
  (es = [] ∧ e = .returned (.bool false) ∧ (∃ left', PS w' pp data left' 0 [])) ∨
  (∃ x es' left' b', es = x :: es' ∧ e = .returned (.bool true) ∧ Suf bd C E dc left' b' ∧ DOC false b' es' ∧ PS w' pp data left' 0 (encX x))

set_option maxRecDepth 100000 in
set_option maxHeartbeats 8000000 in
theorem next_any (pp : Nat) (ad0 : Option Addr) (left : Value) (ns : List ANode) (b : Bs) (es : List Ex) (w : World) (hv : Suf bd C E dc left b) (hE : E ≤ 100000000) (hd : DOC false b es) (hD : w.heap[bd]? = some (.cells dc 5 fz))
    (hP : PS w pp (.slice ad0 E C) left 0 ns) :
    Calls PP 21 #[.pointer (some ⟨pp, 0, none⟩)] w fun e w' => Next bd C E dc pp (.slice ad0 E C) es w e w' ∧ Fm pp [52, 104] w w' := by
  have hC := hv.C63
  obtain ⟨nv, xs, q1, q2, q3⟩ := hP
  refine enter (L := [(0, .pointer (some ⟨pp, 0, none⟩))]) Tryz.func21 rfl rfl rfl ⟨rfl, trivial⟩ ?_
  obtain ⟨ad, cap, hnv⟩ : ∃ ad cap, nv = .slice ad ns.length cap := by
    rcases q2.2 with ⟨rfl, hn⟩ | ⟨g, cap, cur, rfl, _⟩
    · exact ⟨none, 0, by rw [hn]⟩
    · exact ⟨_, _, rfl⟩
  subst hnv
  repeat (first | refine WL.pp rfl ?_ | refine WL.ns ?_ | refine WC.sr ?_ | refine WC.bF rfl (by first | with_reducible rfl | exact Bool.not_true) ?_ | refine WL.ldB (b := pp) (v := .nilIface) rfl rfl q1 rfl rfl ?_ | refine WC.seq ?_ | refine X.sn ?_ | refine WC.skip ?_)
  refine WL.ldB (b := pp) (v := .slice ad ns.length cap) rfl rfl q1 rfl rfl ?_
  refine WL.s0 0 rfl rfl rfl (Nat.zero_le _) rfl ?_
  repeat (refine WL.pp rfl ?_)
  refine WL.stB rfl rfl rfl q1 rfl rfl (fun w1 hS1 => ?_)
  have hF1 : Fm pp [52, 104] w w1 := hS1.fm q1 (Nat.le_refl _) (by simp [tag]) rfl
  have hP1 : PS w1 pp (.slice ad0 E C) left 0 [] := by
    refine ⟨.slice ad 0 cap, [], hS1.at_, ⟨rfl, ?_⟩, fun i n h => by simp at h⟩
    rcases q2.2 with ⟨hn, _⟩ | ⟨g, cap', cur, hn, hbg, hg, hc, hm, hs, ht⟩
    · simp only [Value.slice.injEq] at hn
      obtain ⟨rfl, -, rfl⟩ := hn
      exact .inl ⟨rfl, rfl⟩
    · simp only [Value.slice.injEq] at hn
      obtain ⟨rfl, -, rfl⟩ := hn
      exact .inr ⟨g, cap, cur, rfl, hbg, hS1.keep hg (by omega), Nat.zero_le _, hm, hs, by simp⟩
  clear hS1 q1 q2 q3
  repeat (first | refine WL.ns ?_ | refine WC.block ?_)
  refine WC.loop (σ := Value × Bs) (I := fun s w' => Suf bd C E dc s.1 s.2 ∧ DOC false s.2 es ∧ PS w' pp (.slice ad0 E C) s.1 0 [] ∧ Fm pp [52, 104] w w') (m := fun s => s.2.length) (Lf := fun s => [(0, .pointer (some ⟨pp, 0, none⟩))]) (left, b) ⟨hv, hd, hP1, hF1⟩ ⟨rfl, trivial⟩ ?_
  clear hv hd hP1 hF1
  rintro ⟨left1, b1⟩ w2 ⟨hv, hd, hP, hF⟩
  dsimp only at hv hd hP ⊢
  have hD2 : w2.heap[bd]? = some (.cells dc 5 fz) := hF.keep _ _ hD (by simp [tag])
  have hskl := skipWs_le b1
  have hP0 := hP
  obtain ⟨nv, xs, q1, q2, q3⟩ := hP
  repeat (first | refine WL.pp rfl ?_ | refine WC.sr ?_ | refine WL.ldB (b := pp) (v := left1) rfl rfl q1 rfl rfl ?_ | refine WC.block ?_)
  refine WL.call rfl rfl rfl (hv.skip hD2) ?_
  rintro e w3 ⟨v3, rfl, hv3, rfl⟩
  refine ⟨_, _, rfl, rfl, ?_⟩
  cases hsk : skipWs b1 with
  | nil =>
    rw [hsk] at hv3
    obtain ⟨ad3, rfl, hs3⟩ := hv3.nil
    have hes : es = [] := by
      cases hd with
      | done _ => rfl
      | blank h _ _ => exact absurd hsk h
      | expr h _ _ _ => rw [hsk] at h; cases h
    repeat (first | refine WL.pp rfl ?_ | refine WL.ns ?_ | refine WC.sr ?_ | refine WC.dT rfl (by first | omega | decide) ?_ | refine WC.seq ?_)
    refine WL.stB rfl rfl rfl q1 rfl rfl (fun w4 hS4 => ?_)
    obtain ⟨hP4, hF4⟩ := PS.leftSet q1 q2 q3 hS4
    repeat (first | refine WL.pp rfl ?_ | refine WL.ns ?_ | refine WC.sr ?_ | refine X.sr ?_ | refine X.br ?_ | refine WC.ret ?_)
    exact X.ret_ rfl rfl ⟨.inl ⟨hes, rfl, _, hP4⟩, hF.trans hF4⟩
  | cons c t =>
    rw [hsk] at hv3 hskl
    have hcell := hv3.cell hD2
    have hv3' := hv3
    have hcons := hv3.cons
    have hle := hv3'.le
    have hEC := hv3'.EC
    simp only [List.length_cons] at hle hskl
    cases hd with
    | done h => rw [hsk] at h; cases h
    | @blank _ b' _ h he hd' =>
      rw [hsk] at he
      cases he with
      | nl hn =>
        cases hn with
        | lf =>
          subst hcons
          repeat (first | refine WL.pp rfl ?_ | refine WL.ns ?_ | refine WC.sr ?_ | refine WC.dT rfl (by first | omega | decide) ?_ | refine WC.dF rfl (by first | omega | decide) ?_ | refine WL.ix (i := 0) rfl rfl rfl (by omega) rfl ?_ | refine WL.ld rfl rfl hcell rfl ?_ | refine WC.seq ?_ | refine WC.block ?_ | refine X.sn ?_ | refine WC.skip ?_)
          refine WL.sS t.length 1 rfl rfl (Sf.mk _ _ _) rfl (by simp; omega) (by omega) (fun _ => rfl) (fun ad3 hs3 => ?_)
          repeat (refine WL.pp rfl ?_)
          refine WL.stB rfl rfl rfl q1 rfl rfl (fun w4 hS4 => ?_)
          obtain ⟨hP4, hF4⟩ := PS.leftSet q1 q2 q3 hS4
          repeat (first | refine WL.ns ?_ | refine X.sx ?_ | refine X.bx ?_ | refine X.bo rfl ?_ | refine WC.exit ?_)
          exact X.again (_, t) ⟨hv3'.tail hs3, hd', hP4, hF.trans hF4⟩ (by dsimp only; omega) ⟨rfl, trivial⟩
        | crlf =>
          have hcell2 := hv3'.c1 hD2
          simp only [List.length_cons] at hcons hcell hcell2 hle hskl
          subst hcons
          repeat (first | refine WL.pp rfl ?_ | refine WL.ns ?_ | refine WC.sr ?_ | refine WC.dT rfl (by first | omega | decide) ?_ | refine WC.dF rfl (by first | omega | decide) ?_ | refine WL.ix (i := 0) rfl rfl rfl (by omega) rfl ?_ | refine WL.ld rfl rfl hcell rfl ?_ | refine WL.ix (i := 1) rfl rfl rfl (by omega) rfl ?_ | refine WL.ld rfl rfl hcell2 rfl ?_ | refine WL.p rfl ?_ | refine WC.seq ?_ | refine WC.block ?_ | refine X.sn ?_ | refine WC.skip ?_ | refine WL.gT rfl rfl (by first | omega | decide) ?_)
          refine WL.sS b'.length 2 rfl rfl (Sf.mk _ _ _) rfl (by simp; omega) (by omega) (fun _ => rfl) (fun ad3 hs3 => ?_)
          have hv9 := hv3'.drop 2 (by simp) hs3
          repeat (refine WL.pp rfl ?_)
          refine WL.stB rfl rfl rfl q1 rfl rfl (fun w4 hS4 => ?_)
          obtain ⟨hP4, hF4⟩ := PS.leftSet q1 q2 q3 hS4
          repeat (first | refine WL.ns ?_ | refine X.sx ?_ | refine X.bx ?_ | refine X.bo rfl ?_ | refine WC.exit ?_)
          exact X.again (_, b') ⟨hv9, hd', hP4, hF.trans hF4⟩ (by dsimp only; omega) ⟨rfl, trivial⟩
      | @cm _ r1 _ h1 h2 =>
        have hcp := cm_pos h1
        have hnl : b'.length ≤ r1.length := by
          cases h2 with
          | eof => exact Nat.le_refl _
          | lf => simp
          | crlf => simp; omega
        simp only [List.length_cons] at hcp
        subst hcons
        repeat (first | refine WL.pp rfl ?_ | refine WL.ns ?_ | refine WC.sr ?_ | refine WC.dT rfl (by first | omega | decide) ?_ | refine WC.dF rfl (by first | omega | decide) ?_ | refine WL.ix (i := 0) rfl rfl rfl (by omega) rfl ?_ | refine WL.ld rfl rfl hcell rfl ?_ | refine WC.seq ?_ | refine WC.block ?_ | refine X.sn ?_ | refine WC.skip ?_)
        refine WL.call rfl rfl rfl (scanComment_any _ _ _ w3 hv3' h1 hD2) ?_
        rintro e w4 ⟨v4, v5, rfl, hv5, hS4⟩
        refine ⟨_, _, rfl, rfl, ?_⟩
        repeat (first | refine WL.pp rfl ?_ | refine WL.ns ?_ | refine WC.sr ?_ | refine WC.bT rfl (by first | with_reducible rfl | exact Bool.not_false) ?_ | refine WC.seq ?_ | refine WC.reg ?_)
        refine WL.call rfl rfl rfl (consumeEOL_any _ _ _ w4 hv5 h2 (hS4.at hD2)) ?_
        rintro e w5 ⟨v6, rfl, hv6, rfl⟩
        refine ⟨_, _, rfl, rfl, ?_⟩
        obtain ⟨nv5, xs5, p1, p2, p3⟩ := hP0.sm hS4
        repeat (first | refine WL.pp rfl ?_ | refine WL.ns ?_ | refine WC.sr ?_ | refine WC.bT rfl (by first | with_reducible rfl | exact Bool.not_false) ?_ | refine WC.bF rfl (by first | with_reducible rfl | exact Bool.not_true) ?_ | refine WL.ldB (b := pp) (v := .bool false) rfl rfl p1 rfl rfl ?_ | refine WC.seq ?_ | refine X.sn ?_ | refine WC.skip ?_)
        have hone6 : oneV v6 = true := by obtain ⟨ad6, h6, _⟩ := hv6.ex; rw [h6]; rfl
        refine WL.stB rfl rfl hone6 p1 rfl rfl (fun w6 hS6 => ?_)
        obtain ⟨hP6, hF6⟩ := PS.leftSet p1 p2 p3 hS6
        repeat (first | refine WL.ns ?_ | refine X.sx ?_ | refine X.bx ?_ | refine X.bo rfl ?_ | refine WC.exit ?_)
        exact X.again (v6, b') ⟨hv6, hd', hP6, (hF.trans hS4.fm).trans hF6⟩ (by dsimp only; omega) ⟨rfl, trivial⟩
    | @expr _ c' b2 b3 hh x es' h hx he hd' =>
      rw [hsk] at h
      simp only [List.cons.injEq] at h
      obtain ⟨rfl, rfl⟩ := h
      have hxx := hx
      have hst : skipWs (c :: t) = c :: t := by rw [← hsk, skipWs_idem]
      cases hx with
      | tab h1 h2 =>
        have hcall := exprTable_any pp ad0 left1 v3 _ _ _ _ w3 hv3 hE hxx (by intros; simp) he hD2 hP0
        subst hcons
        repeat (first | refine WL.pp rfl ?_ | refine WL.ns ?_ | refine WC.sr ?_ | refine WC.dT rfl (by first | omega | decide) ?_ | refine WC.dF rfl (by first | omega | decide) ?_ | refine WL.ix (i := 0) rfl rfl rfl (by omega) rfl ?_ | refine WL.ld rfl rfl hcell rfl ?_ | refine WC.seq ?_ | refine WC.block ?_ | refine X.sn ?_ | refine WC.skip ?_)
        refine WL.call rfl rfl rfl hcall ?_
        rintro e w5 ⟨v5, rfl, hv5, hP5, hF5⟩
        refine ⟨_, _, rfl, rfl, ?_⟩
        obtain ⟨nv5, xs5, p1, p2, p3⟩ := hP5
        have hone5 : oneV v5 = true := by obtain ⟨ad6, h6, _⟩ := hv5.ex; rw [h6]; rfl
        repeat (first | refine WL.pp rfl ?_ | refine WL.ns ?_ | refine WC.sr ?_ | refine WC.bT rfl (by first | with_reducible rfl | exact Bool.not_false) ?_)
        refine WL.stB rfl rfl hone5 p1 rfl rfl (fun w6 hS6 => ?_)
        obtain ⟨hP6, hF6⟩ := PS.leftSet p1 p2 p3 hS6
        repeat (first | refine WL.pp rfl ?_ | refine WL.ns ?_ | refine WC.sr ?_ | refine X.sr ?_ | refine X.br ?_ | refine WC.ret ?_)
        exact X.ret_ rfl rfl ⟨.inr ⟨_, _, _, _, rfl, rfl, hv5, hd', hP6⟩, (hF.trans hF5).trans hF6⟩
      | atab h2 =>
        have hcall := exprTable_any pp ad0 left1 v3 _ _ _ _ w3 hv3 hE hxx (by intros; simp) he hD2 hP0
        subst hcons
        repeat (first | refine WL.pp rfl ?_ | refine WL.ns ?_ | refine WC.sr ?_ | refine WC.dT rfl (by first | omega | decide) ?_ | refine WC.dF rfl (by first | omega | decide) ?_ | refine WL.ix (i := 0) rfl rfl rfl (by omega) rfl ?_ | refine WL.ld rfl rfl hcell rfl ?_ | refine WC.seq ?_ | refine WC.block ?_ | refine X.sn ?_ | refine WC.skip ?_)
        refine WL.call rfl rfl rfl hcall ?_
        rintro e w5 ⟨v5, rfl, hv5, hP5, hF5⟩
        refine ⟨_, _, rfl, rfl, ?_⟩
        obtain ⟨nv5, xs5, p1, p2, p3⟩ := hP5
        have hone5 : oneV v5 = true := by obtain ⟨ad6, h6, _⟩ := hv5.ex; rw [h6]; rfl
        repeat (first | refine WL.pp rfl ?_ | refine WL.ns ?_ | refine WC.sr ?_ | refine WC.bT rfl (by first | with_reducible rfl | exact Bool.not_false) ?_)
        refine WL.stB rfl rfl hone5 p1 rfl rfl (fun w6 hS6 => ?_)
        obtain ⟨hP6, hF6⟩ := PS.leftSet p1 p2 p3 hS6
        repeat (first | refine WL.pp rfl ?_ | refine WL.ns ?_ | refine WC.sr ?_ | refine X.sr ?_ | refine X.br ?_ | refine WC.ret ?_)
        exact X.ret_ rfl rfl ⟨.inr ⟨_, _, _, _, rfl, rfl, hv5, hd', hP6⟩, (hF.trans hF5).trans hF6⟩
      | @kv _ _ b4 _ ks val h1 h2 =>
        obtain ⟨c1, t1, e1, hne⟩ := h1.head
        have h91 := h1.head91 hst
        rw [hst] at e1
        simp only [List.cons.injEq] at e1
        obtain ⟨rfl, rfl⟩ := e1
        obtain ⟨hn1, hn2, hn3, hn4, hn5⟩ := hne
        have hcall := exprKeyval_any pp ad0 left1 v3 (c :: t) b4 _ _ ks val w3 (by rw [hst]; exact hv3) hE h1 h2 he hD2 (by simp only [List.length_cons]; omega) hP0
        subst hcons
        repeat (first | refine WL.pp rfl ?_ | refine WL.ns ?_ | refine WC.sr ?_ | refine WC.dF rfl (by first | omega | decide) ?_ | refine WL.ix (i := 0) rfl rfl rfl (by omega) rfl ?_ | refine WL.ld rfl rfl hcell rfl ?_ | refine WC.seq ?_ | refine WC.block ?_ | refine X.sn ?_ | refine WC.skip ?_)
        refine WL.call rfl rfl rfl hcall ?_
        rintro e w5 ⟨v5, rfl, hv5, hP5, hF5⟩
        refine ⟨_, _, rfl, rfl, ?_⟩
        obtain ⟨nv5, xs5, p1, p2, p3⟩ := hP5
        have hone5 : oneV v5 = true := by obtain ⟨ad6, h6, _⟩ := hv5.ex; rw [h6]; rfl
        repeat (first | refine WL.pp rfl ?_ | refine WL.ns ?_ | refine WC.sr ?_ | refine WC.bT rfl (by first | with_reducible rfl | exact Bool.not_false) ?_)
        refine WL.stB rfl rfl hone5 p1 rfl rfl (fun w6 hS6 => ?_)
        obtain ⟨hP6, hF6⟩ := PS.leftSet p1 p2 p3 hS6
        repeat (first | refine WL.pp rfl ?_ | refine WL.ns ?_ | refine WC.sr ?_ | refine X.sr ?_ | refine X.br ?_ | refine WC.ret ?_)
        exact X.ret_ rfl rfl ⟨.inr ⟨_, _, _, _, rfl, rfl, hv5, hd', hP6⟩, (hF.trans hF5).trans hF6⟩
end
end Go.Proofs.YtaccphdkapmdhaaGreat

namespace Go.Proofs.YtaccphdkapmdhaaGreat
attribute [local irreducible] binOp IntKind.wrap Sem.run

/-- The arena at block g, to be read. -/
structure AR (w : World) (pp g : Nat) (ns : List ANode) : Prop where
  ex : ∃ (c0 data left err nest : Value) (cap : Nat), w.heap[pp]? = some (.cells ⟨[c0, data, left, .slice (some ⟨g, 0, none⟩) ns.length cap, err, nest]⟩ 52 (0, 0))
  cells : ∃ cur : Array Value, w.heap[g]? = some (.cells cur 104 (0, 0)) ∧ NL w pp ns cur.toList
  small : ns.length ≤ 1000000000

theorem PS.ar {w : World} {pp : Nat} {data left : Value} {nest : Int} {ns : List ANode} (h : PS w pp data left nest ns) (h0 : 0 < ns.length) (hm : ns.length ≤ 1000000000) : ∃ g, pp < g ∧ AR w pp g ns := by
  obtain ⟨g, cap, cur, xs, hb, hpg, hgb, hc1, hc2, hcs, hct, hxl, hN⟩ := h.open h0
  refine ⟨g, hpg, ⟨_, _, _, _, _, _, hb⟩, ⟨cur, hgb, fun i n hn => ?_⟩, hm⟩
  have := hN i n hn
  have e : cur.toList = xs ++ cur.toList.drop (ns.length * 7) := by rw [← hct, List.take_append_drop]
  rw [e]
  exact this.app

theorem AR.fm {B T w w' pp g ns} (h : AR w pp g ns) (hf : Fm B T w w') (h5 : 5 ∉ T) (h52 : 52 ∉ T) (h104 : 104 ∉ T) : AR w' pp g ns := by
  obtain ⟨c0, data, left, err, nest, cap, h1⟩ := h.ex
  obtain ⟨cur, h2, h3⟩ := h.cells
  exact ⟨⟨c0, data, left, err, nest, cap, hf.keep _ _ h1 h52⟩, ⟨cur, hf.keep _ _ h2 h104, h3.fm hf h5⟩, h.small⟩

/-- The pointer that a handle stands for. -/
def hptr (g h : Nat) : Value := .pointer (if h = 0 then none else some ⟨g, (h - 1) * 7, none⟩)

set_option maxHeartbeats 4000000 in
theorem child_any (pp g i : Nat) (ns : List ANode) (n : ANode) (w : World) (hA : AR w pp g ns) (hn : ns[i]? = some n) (hc : n.child ≤ ns.length) :
    Calls PP 100 #[.pointer (some ⟨g, i * 7, none⟩)] w fun e w' => e = .returned (hptr g n.child) ∧ Sm w w' := by
  obtain ⟨c0, data, left, err, nest, cap, h1⟩ := hA.ex
  obtain ⟨cur, h2, h3⟩ := hA.cells
  have hN := h3 i n hn
  have hsm := hA.small
  have c6 : w.cell? ⟨g, i * 7 + 6, none⟩ = some (.int .i32 n.child) := cell_of h2 (by simpa using hN.child)
  refine enter (L := [(0, .pointer (some ⟨g, i * 7, none⟩))]) Tryz.func100 rfl rfl rfl ⟨rfl, trivial⟩ ?_
  by_cases h0 : n.child = 0
  · repeat (first | refine WL.pp rfl ?_ | refine WL.ns ?_ | refine WC.sr ?_ | refine WC.dT rfl (by first | omega | decide) ?_ | refine WL.ld rfl rfl c6 rfl ?_ | refine WC.seq ?_ | refine X.sr ?_ | refine WC.ret ?_)
    refine X.ret_ rfl rfl ⟨?_, Sm.refl _⟩
    simp [hptr, h0, resV]
  · repeat (first | refine WL.pp rfl ?_ | refine WL.ns ?_ | refine WC.sr ?_ | refine WC.dF rfl (by first | omega | decide) ?_ | refine WL.ld rfl rfl c6 rfl ?_ | refine WC.seq ?_ | refine X.sn ?_ | refine WC.skip ?_)
    refine WC.drx (fun w' => w'.heap = w.heap) ?_
    have hd : w.drew.heap = w.heap := rfl
    have k6 : ∀ w' : World, w'.heap = w.heap → w'.cell? ⟨g, i * 7 + 6, none⟩ = some (.int .i32 n.child) := fun w' hw => cell_of (by rw [hw]; exact h2) (by simpa using hN.child)
    have k4 : ∀ w' : World, w'.heap = w.heap → w'.cell? ⟨g, i * 7 + 4, none⟩ = some (.pointer (some ⟨pp, 0, none⟩)) := fun w' hw => cell_of (by rw [hw]; exact h2) (by simpa using hN.parser)
    have k3 : ∀ w' : World, w'.heap = w.heap → w'.cell? ⟨pp, 3, none⟩ = some (.slice (some ⟨g, 0, none⟩) ns.length cap) := fun w' hw => cell_of (by rw [hw]; exact h1) rfl
    repeat (first | refine WX.p (by kernel_rfl) (by first | trivial | assumption) rfl ?_ | refine WX.ld (by kernel_rfl) hd rfl rfl k4 rfl ?_ | refine WX.ld (by kernel_rfl) hd rfl rfl k3 rfl ?_ | refine WX.ld (by kernel_rfl) hd rfl rfl k6 rfl ?_ | refine WX.su32 (by kernel_rfl) hd rfl rfl (by omega) rfl ?_ | refine WX.ix (i := n.child - 1) (by kernel_rfl) hd rfl rfl (by omega) (by omega) rfl ?_)
    refine WX.nil ?_
    repeat (first | refine X.sn ?_ | refine WC.ret ?_)
    refine X.ret_ rfl rfl ⟨?_, (Sm.refl _).drew⟩
    simp [hptr, h0, resV]

set_option maxHeartbeats 4000000 in
theorem nodeNext_any (pp g i : Nat) (ns : List ANode) (n : ANode) (w : World) (hA : AR w pp g ns) (hn : ns[i]? = some n) (hc : n.next ≤ ns.length) :
    Calls PP 107 #[.pointer (some ⟨g, i * 7, none⟩)] w fun e w' => e = .returned (hptr g n.next) ∧ Sm w w' := by
  obtain ⟨c0, data, left, err, nest, cap, h1⟩ := hA.ex
  obtain ⟨cur, h2, h3⟩ := hA.cells
  have hN := h3 i n hn
  have hsm := hA.small
  have c5 : w.cell? ⟨g, i * 7 + 5, none⟩ = some (.int .i32 n.next) := cell_of h2 (by simpa using hN.next)
  refine enter (L := [(0, .pointer (some ⟨g, i * 7, none⟩))]) Tryz.func107 rfl rfl rfl ⟨rfl, trivial⟩ ?_
  by_cases h0 : n.next = 0
  · repeat (first | refine WL.pp rfl ?_ | refine WL.ns ?_ | refine WC.sr ?_ | refine WC.dT rfl (by first | omega | decide) ?_ | refine WL.ld rfl rfl c5 rfl ?_ | refine WC.seq ?_ | refine X.sr ?_ | refine WC.ret ?_)
    refine X.ret_ rfl rfl ⟨?_, Sm.refl _⟩
    simp [hptr, h0, resV]
  · repeat (first | refine WL.pp rfl ?_ | refine WL.ns ?_ | refine WC.sr ?_ | refine WC.dF rfl (by first | omega | decide) ?_ | refine WL.ld rfl rfl c5 rfl ?_ | refine WC.seq ?_ | refine X.sn ?_ | refine WC.skip ?_)
    refine WC.drx (fun w' => w'.heap = w.heap) ?_
    have hd : w.drew.heap = w.heap := rfl
    have k5 : ∀ w' : World, w'.heap = w.heap → w'.cell? ⟨g, i * 7 + 5, none⟩ = some (.int .i32 n.next) := fun w' hw => cell_of (by rw [hw]; exact h2) (by simpa using hN.next)
    have k4 : ∀ w' : World, w'.heap = w.heap → w'.cell? ⟨g, i * 7 + 4, none⟩ = some (.pointer (some ⟨pp, 0, none⟩)) := fun w' hw => cell_of (by rw [hw]; exact h2) (by simpa using hN.parser)
    have k3 : ∀ w' : World, w'.heap = w.heap → w'.cell? ⟨pp, 3, none⟩ = some (.slice (some ⟨g, 0, none⟩) ns.length cap) := fun w' hw => cell_of (by rw [hw]; exact h1) rfl
    repeat (first | refine WX.p (by kernel_rfl) (by first | trivial | assumption) rfl ?_ | refine WX.ld (by kernel_rfl) hd rfl rfl k4 rfl ?_ | refine WX.ld (by kernel_rfl) hd rfl rfl k3 rfl ?_ | refine WX.ld (by kernel_rfl) hd rfl rfl k5 rfl ?_ | refine WX.su32 (by kernel_rfl) hd rfl rfl (by omega) rfl ?_ | refine WX.ix (i := n.next - 1) (by kernel_rfl) hd rfl rfl (by omega) (by omega) rfl ?_)
    refine WX.nil ?_
    repeat (first | refine X.sn ?_ | refine WC.ret ?_)
    refine X.ret_ rfl rfl ⟨?_, (Sm.refl _).drew⟩
    simp [hptr, h0, resV]
end Go.Proofs.YtaccphdkapmdhaaGreat

namespace Go.Proofs.YtaccphdkapmdhaaGreat
attribute [local irreducible] binOp IntKind.wrap Sem.run

/-- The arena's nodes hang together: handles are in range, kinds are set. -/
def Wf (ns : List ANode) : Prop := ∀ (i : Nat) (n : ANode), ns[i]? = some n → n.kind ≠ 0 ∧ n.kind ≤ 100 ∧ n.next ≤ ns.length ∧ n.child ≤ ns.length

theorem hptr_some {g h : Nat} (h0 : h ≠ 0) : hptr g h = .pointer (some ⟨g, (h - 1) * 7, none⟩) := by simp [hptr, h0]
theorem hptr_none (g : Nat) : hptr g 0 = .pointer none := rfl

set_option maxHeartbeats 4000000 in
theorem valid_any (pp g h : Nat) (ns : List ANode) (w : World) (hA : AR w pp g ns) (hw : Wf ns) (hh : h ≤ ns.length) :
    Calls PP 106 #[hptr g h] w fun e w' => e = .returned (.bool (dc (h ≠ 0))) ∧ w' = w := by
  by_cases h0 : h = 0
  · subst h0
    rw [hptr_none]
    refine enter (L := [(0, .pointer none)]) Tryz.func106 rfl rfl rfl ⟨rfl, trivial⟩ ?_
    repeat (first | refine WL.pp rfl ?_ | refine WL.ns ?_ | refine WC.sr ?_ | refine WL.p rfl ?_ | refine WC.ret ?_)
    refine X.ret_ rfl rfl ⟨?_, rfl⟩
    rw [dc_not (by simp)]
    rfl
  · rw [hptr_some h0]
    obtain ⟨cur, h2, h3⟩ := hA.cells
    obtain ⟨n, hn⟩ : ∃ n, ns[h - 1]? = some n := ⟨_, List.getElem?_eq_getElem (by omega)⟩
    have hN := h3 _ n hn
    obtain ⟨hk, hk2, _⟩ := hw _ n hn
    have c0 : w.cell? ⟨g, (h - 1) * 7, none⟩ = some (.int .i64 n.kind) := cell_of h2 (by simpa using hN.kind)
    refine enter (L := [(0, .pointer (some ⟨g, (h - 1) * 7, none⟩))]) Tryz.func106 rfl rfl rfl ⟨rfl, trivial⟩ ?_
    repeat (first | refine WL.pp rfl ?_ | refine WL.ns ?_ | refine WC.sr ?_ | refine WL.ld rfl rfl c0 rfl ?_ | refine WL.p rfl ?_ | refine WC.ret ?_)
    refine X.ret_ rfl rfl ⟨?_, rfl⟩
    rw [dc_of (show h ≠ 0 from h0)]
    refine congrArg Ending.returned (congrArg Value.bool ?_)
    exact dc_of (by omega)

set_option maxHeartbeats 4000000 in
theorem error_any (pp : Nat) (data left : Value) (nest : Int) (ns : List ANode) (w : World) (hP : PS w pp data left nest ns) :
    Calls PP 24 #[.pointer (some ⟨pp, 0, none⟩)] w fun e w' => e = .returned .nilIface ∧ w' = w := by
  obtain ⟨nv, xs, q1, _, _⟩ := hP
  refine enter (L := [(0, .pointer (some ⟨pp, 0, none⟩))]) Tryz.func24 rfl rfl rfl ⟨rfl, trivial⟩ ?_
  repeat (first | refine WL.pp rfl ?_ | refine WL.ns ?_ | refine WC.sr ?_ | refine WL.ldB (b := pp) (v := .nilIface) rfl rfl q1 rfl rfl ?_ | refine WC.ret ?_)
  exact X.ret_ rfl rfl ⟨rfl, rfl⟩

set_option maxHeartbeats 4000000 in
theorem expression_any (pp g : Nat) (ns : List ANode) (w : World) (hA : AR w pp g ns) (h0 : 0 < ns.length) :
    Calls PP 23 #[.pointer (some ⟨pp, 0, none⟩)] w fun e w' => e = .returned (.pointer (some ⟨g, 0, none⟩)) ∧ w' = w := by
  obtain ⟨c0, data, left, err, nest, cap, h1⟩ := hA.ex
  refine enter (L := [(0, .pointer (some ⟨pp, 0, none⟩))]) Tryz.func23 rfl rfl rfl ⟨rfl, trivial⟩ ?_
  repeat (first | refine WL.pp rfl ?_ | refine WL.ns ?_ | refine WC.sr ?_ | refine WC.dF rfl (by first | omega | decide) ?_ | refine WL.ldB (b := pp) (v := .slice (some ⟨g, 0, none⟩) ns.length cap) rfl rfl h1 rfl rfl ?_ | refine WL.ix (i := 0) rfl rfl rfl h0 rfl ?_ | refine WC.seq ?_ | refine X.sn ?_ | refine WC.skip ?_ | refine WC.ret ?_)
  refine X.ret_ rfl rfl ⟨?_, rfl⟩
  simp [resV]
end Go.Proofs.YtaccphdkapmdhaaGreat

namespace Go.Proofs.YtaccphdkapmdhaaGreat
attribute [local irreducible] binOp IntKind.wrap Sem.run

set_option maxHeartbeats 4000000 in
theorem iterFirst_any (pp g h it : Nat) (ns : List ANode) (w : World) (hA : AR w pp g ns) (hw : Wf ns) (hh : h ≤ ns.length) (hi : w.heap[it]? = some (.cells ⟨[.bool false, hptr g h]⟩ 147 (0, 0))) :
    Calls PP 82 #[.pointer (some ⟨it, 0, none⟩)] w fun e w' => e = .returned (.bool (dc (h ≠ 0))) ∧ St w it (.cells ⟨[.bool true, hptr g h]⟩ 147 (0, 0)) w' := by
  refine enter (L := [(0, .pointer (some ⟨it, 0, none⟩))]) Tryz.func82 rfl rfl rfl ⟨rfl, trivial⟩ ?_
  repeat (first | refine WL.pp rfl ?_ | refine WL.ns ?_ | refine WC.sr ?_ | refine WC.bT rfl (by first | with_reducible rfl | exact Bool.not_false) ?_ | refine WL.ldB (b := it) (i := 0) (v := .bool false) rfl rfl hi rfl rfl ?_ | refine WC.seq ?_ | refine WC.reg ?_)
  refine WL.stB rfl rfl rfl hi rfl rfl (fun w1 hS => ?_)
  have hi1 : w1.heap[it]? = some (.cells ⟨[.bool true, hptr g h]⟩ 147 (0, 0)) := hS.at_
  have hA1 : AR w1 pp g ns := hA.fm (B := 0) (T := [147]) (hS.fm hi (Nat.zero_le _) (by simp [tag]) rfl) (by simp) (by simp) (by simp)
  repeat (first | refine WL.pp rfl ?_ | refine WL.ns ?_ | refine WC.sr ?_ | refine WL.ldB (b := it) (i := 1) (v := hptr g h) rfl rfl hi1 rfl rfl ?_)
  refine WL.call rfl rfl rfl (valid_any pp g h ns w1 hA1 hw hh) ?_
  rintro e w2 ⟨rfl, rfl⟩
  refine ⟨_, _, rfl, rfl, ?_⟩
  repeat (first | refine WL.pp rfl ?_ | refine WL.ns ?_ | refine WC.ret ?_)
  exact X.ret_ rfl rfl ⟨rfl, hS⟩

set_option maxHeartbeats 4000000 in
theorem iterNext_any (pp g i it : Nat) (ns : List ANode) (n : ANode) (w : World) (hA : AR w pp g ns) (hw : Wf ns) (hn : ns[i]? = some n) (hi : w.heap[it]? = some (.cells ⟨[.bool true, hptr g (i + 1)]⟩ 147 (0, 0))) :
    Calls PP 82 #[.pointer (some ⟨it, 0, none⟩)] w fun e w' => e = .returned (.bool (dc (n.next ≠ 0))) ∧ ∃ w1, Sm w w1 ∧ St w1 it (.cells ⟨[.bool true, hptr g n.next]⟩ 147 (0, 0)) w' := by
  have hlt := (List.getElem?_eq_some_iff.1 hn).1
  have hnx := (hw i n hn).2.2.1
  refine enter (L := [(0, .pointer (some ⟨it, 0, none⟩))]) Tryz.func82 rfl rfl rfl ⟨rfl, trivial⟩ ?_
  repeat (first | refine WL.pp rfl ?_ | refine WL.ns ?_ | refine WC.sr ?_ | refine WC.bF rfl (by first | with_reducible rfl | exact Bool.not_true) ?_ | refine WL.ldB (b := it) (i := 0) (v := .bool true) rfl rfl hi rfl rfl ?_ | refine WL.ldB (b := it) (i := 1) (v := hptr g (i + 1)) rfl rfl hi rfl rfl ?_ | refine WC.seq ?_)
  refine WL.call rfl rfl rfl (valid_any pp g (i + 1) ns w hA hw (by omega)) ?_
  rintro e w2 ⟨rfl, rfl⟩
  refine ⟨_, _, rfl, rfl, ?_⟩
  repeat (first | refine WL.pp rfl ?_ | refine WL.ns ?_ | refine WC.dT rfl (by first | omega | decide) ?_ | refine WL.ldB (b := it) (i := 1) (v := hptr g (i + 1)) rfl rfl hi rfl rfl ?_ | refine WC.reg ?_)
  refine WL.call rfl rfl rfl (nodeNext_any pp g i ns n w2 hA hn hnx) ?_
  rintro e w3 ⟨rfl, hS3⟩
  refine ⟨_, _, rfl, rfl, ?_⟩
  have hi3 := hS3.at hi
  have hA3 : AR w3 pp g ns := hA.fm (B := 0) (T := []) hS3.fm (by simp) (by simp) (by simp)
  repeat (refine WL.pp rfl ?_)
  refine WL.stB rfl rfl rfl hi3 rfl rfl (fun w4 hS => ?_)
  have hi4 : w4.heap[it]? = some (.cells ⟨[.bool true, hptr g n.next]⟩ 147 (0, 0)) := hS.at_
  have hA4 : AR w4 pp g ns := hA3.fm (B := 0) (T := [147]) (hS.fm hi3 (Nat.zero_le _) (by simp [tag]) rfl) (by simp) (by simp) (by simp)
  repeat (first | refine WL.pp rfl ?_ | refine WL.ns ?_ | refine WC.sr ?_ | refine WL.ldB (b := it) (i := 1) (v := hptr g n.next) rfl rfl hi4 rfl rfl ?_)
  refine WL.call rfl rfl rfl (valid_any pp g n.next ns w4 hA4 hw hnx) ?_
  rintro e w5 ⟨rfl, rfl⟩
  refine ⟨_, _, rfl, rfl, ?_⟩
  repeat (first | refine WL.pp rfl ?_ | refine WL.ns ?_ | refine WC.ret ?_)
  exact X.ret_ rfl rfl ⟨rfl, w3, hS3, hS⟩

set_option maxHeartbeats 4000000 in
theorem iterNode_any (st v : Value) (it : Nat) (w : World) (hi : w.heap[it]? = some (.cells ⟨[st, v]⟩ 147 (0, 0))) :
    Calls PP 83 #[.pointer (some ⟨it, 0, none⟩)] w fun e w' => e = .returned v ∧ w' = w := by
  refine enter (L := [(0, .pointer (some ⟨it, 0, none⟩))]) Tryz.func83 rfl rfl rfl ⟨rfl, trivial⟩ ?_
  repeat (first | refine WL.pp rfl ?_ | refine WL.ns ?_ | refine WC.sr ?_ | refine WL.ldB (b := it) (i := 1) (v := v) rfl rfl hi rfl rfl ?_ | refine WC.ret ?_)
  exact X.ret_ rfl rfl ⟨rfl, rfl⟩

set_option maxHeartbeats 4000000 in
theorem isLast_any (pp g i it : Nat) (st : Value) (ns : List ANode) (n : ANode) (w : World) (hA : AR w pp g ns) (hn : ns[i]? = some n) (hi : w.heap[it]? = some (.cells ⟨[st, .pointer (some ⟨g, i * 7, none⟩)]⟩ 147 (0, 0))) :
    Calls PP 84 #[.pointer (some ⟨it, 0, none⟩)] w fun e w' => e = .returned (.bool (dc ((n.next : Int) = 0))) ∧ w' = w := by
  obtain ⟨cur, h2, h3⟩ := hA.cells
  have hN := h3 i n hn
  have c5 : w.cell? ⟨g, i * 7 + 4 + 1, none⟩ = some (.int .i32 n.next) := cell_of h2 (by simpa using hN.next)
  refine enter (L := [(0, .pointer (some ⟨it, 0, none⟩))]) Tryz.func84 rfl rfl rfl ⟨rfl, trivial⟩ ?_
  repeat (first | refine WL.pp rfl ?_ | refine WL.ns ?_ | refine WC.sr ?_ | refine WL.ldB (b := it) (i := 1) (v := .pointer (some ⟨g, i * 7, none⟩)) rfl rfl hi rfl rfl ?_ | refine WL.ld rfl rfl c5 rfl ?_ | refine WC.ret ?_)
  exact X.ret_ rfl rfl ⟨rfl, rfl⟩
end Go.Proofs.YtaccphdkapmdhaaGreat

namespace Go.Proofs.YtaccphdkapmdhaaGreat
attribute [local irreducible] binOp IntKind.wrap Sem.run

theorem bdIter (p : Option Addr) (w : World) : (Instr.build 147 ⟨[(1, .pointer p)]⟩).run PP w = .ok (.agg ⟨[.bool false, .pointer p]⟩) w := by kernel_rfl
theorem bdIterH (g h : Nat) (w : World) : (Instr.build 147 ⟨[(1, hptr g h)]⟩).run PP w = .ok (.agg ⟨[.bool false, hptr g h]⟩) w := bdIter _ w

set_option maxHeartbeats 4000000 in
theorem children_any (pp g i : Nat) (ns : List ANode) (n : ANode) (w : World) (hA : AR w pp g ns) (hn : ns[i]? = some n) (hc : n.child ≤ ns.length) :
    Calls PP 99 #[.pointer (some ⟨g, i * 7, none⟩)] w fun e w' => e = .returned (.agg ⟨[.bool false, hptr g n.child]⟩) ∧ Up w.heap.size w w' := by
  refine enter (L := [(0, .pointer (some ⟨g, i * 7, none⟩))]) Tryz.func99 rfl rfl rfl ⟨rfl, trivial⟩ ?_
  repeat (refine WC.sr ?_)
  refine WL.al rfl rfl rfl (fun w1 hA1 => ?_)
  have hA' : AR w1 pp g ns := hA.fm (B := 0) (T := []) (hA1.fm (Nat.zero_le _)) (by simp) (by simp) (by simp)
  repeat (first | refine WL.pp rfl ?_ | refine WL.ns ?_ | refine WC.sr ?_)
  refine WL.call rfl rfl rfl (child_any pp g i ns n w1 hA' hn hc) ?_
  rintro e w2 ⟨rfl, hS2⟩
  refine ⟨_, _, rfl, rfl, ?_⟩
  refine WL.bd rfl rfl (bdIterH _ _) rfl ?_
  refine WL.sg rfl rfl rfl (by simp [oneV, hptr]) (hS2.at hA1.at_) (by simp) rfl (fun w3 hS3 => ?_)
  repeat (first | refine WL.ns ?_ | refine WC.ret ?_)
  exact X.retC rfl rfl rfl hS3.at_ rfl ⟨rfl, ((hA1.up (Nat.le_refl _)).trans hS2.up).trans (hS3.up (Nat.le_refl _))⟩

set_option maxHeartbeats 4000000 in
theorem value70_any (pp g i : Nat) (ns : List ANode) (n : ANode) (w : World) (hA : AR w pp g ns) (hn : ns[i]? = some n) (hc : n.child ≤ ns.length) :
    Calls PP 70 #[.pointer (some ⟨g, i * 7, none⟩)] w fun e w' => e = .returned (hptr g n.child) ∧ Sm w w' := by
  refine enter (L := [(0, .pointer (some ⟨g, i * 7, none⟩))]) Tryz.func70 rfl rfl rfl ⟨rfl, trivial⟩ ?_
  repeat (first | refine WL.pp rfl ?_ | refine WL.ns ?_ | refine WC.sr ?_)
  refine WL.call rfl rfl rfl (child_any pp g i ns n w hA hn hc) ?_
  rintro e w2 ⟨rfl, hS2⟩
  refine ⟨_, _, rfl, rfl, ?_⟩
  repeat (first | refine WL.pp rfl ?_ | refine WL.ns ?_ | refine WC.ret ?_)
  exact X.ret_ rfl rfl ⟨rfl, hS2⟩

/-- Where the keys of a node begin. -/
def keyAt (ns : List ANode) (n : ANode) : Nat := if n.kind = 5 then (match ns[n.child - 1]? with | some m => m.next | none => 0) else n.child

set_option maxRecDepth 10000 in
set_option maxHeartbeats 4000000 in
theorem key81_any (pp g i : Nat) (ns : List ANode) (n : ANode) (w : World) (hA : AR w pp g ns) (hw : Wf ns) (hn : ns[i]? = some n) (hk : n.kind = 5 ∧ n.child ≠ 0 ∨ n.kind = 3 ∨ n.kind = 4) :
    Calls PP 81 #[.pointer (some ⟨g, i * 7, none⟩)] w fun e w' => e = .returned (.agg ⟨[.bool false, hptr g (keyAt ns n)]⟩) ∧ Up w.heap.size w w' := by
  have hc := (hw i n hn).2.2.2
  refine enter (L := [(0, .pointer (some ⟨g, i * 7, none⟩))]) Tryz.func81 rfl rfl rfl ⟨rfl, trivial⟩ ?_
  repeat (refine WC.sr ?_)
  refine WL.al rfl rfl rfl (fun w1 hA1 => ?_)
  have hA' : AR w1 pp g ns := hA.fm (B := 0) (T := []) (hA1.fm (Nat.zero_le _)) (by simp) (by simp) (by simp)
  obtain ⟨cur, h2, h3⟩ := hA'.cells
  have hN := h3 i n hn
  have c0 : w1.cell? ⟨g, i * 7, none⟩ = some (.int .i64 n.kind) := cell_of h2 (by simpa using hN.kind)
  rcases hk with ⟨hk, hch⟩ | hk | hk
  · obtain ⟨m, hm⟩ : ∃ m, ns[n.child - 1]? = some m := ⟨_, List.getElem?_eq_getElem (by omega)⟩
    have hmn := (hw _ m hm).2.2.1
    have he : keyAt ns n = m.next := by simp [keyAt, hk, hm]
    rw [he]
    repeat (first | refine WL.pp rfl ?_ | refine WL.ns ?_ | refine WC.sr ?_ | refine WC.dT rfl (by first | omega | decide) ?_ | refine WL.ld rfl rfl c0 rfl ?_ | refine WC.block ?_)
    refine WL.call rfl rfl rfl (child_any pp g i ns n w1 hA' hn hc) ?_
    rintro e w2 ⟨rfl, hS2⟩
    refine ⟨_, _, rfl, rfl, ?_⟩
    have hA2 : AR w2 pp g ns := hA'.fm (B := 0) (T := []) hS2.fm (by simp) (by simp) (by simp)
    repeat (first | refine WL.pp rfl ?_ | refine WL.ns ?_ | refine WC.sr ?_ | refine WC.seq ?_)
    refine WL.call rfl rfl rfl (valid_any pp g n.child ns w2 hA2 hw hc) ?_
    rintro e w3 ⟨rfl, rfl⟩
    rw [dc_of (show n.child ≠ 0 from hch)]
    refine ⟨_, _, rfl, rfl, ?_⟩
    rw [hptr_some hch]
    repeat (first | refine WL.pp rfl ?_ | refine WL.ns ?_ | refine WC.sr ?_ | refine WC.bF rfl (by first | with_reducible rfl | exact Bool.not_true) ?_ | refine X.sn ?_ | refine WC.skip ?_)
    refine WL.call rfl rfl rfl (nodeNext_any pp g (n.child - 1) ns m w3 hA2 hm hmn) ?_
    rintro e w4 ⟨rfl, hS4⟩
    refine ⟨_, _, rfl, rfl, ?_⟩
    refine WL.bd rfl rfl (bdIterH _ _) rfl ?_
    refine WL.sg rfl rfl rfl (by simp [oneV, hptr]) (hS4.at (hS2.at hA1.at_)) (by simp) rfl (fun w5 hS5 => ?_)
    repeat (first | refine WL.ns ?_ | refine X.br ?_ | refine WC.ret ?_)
    exact X.retC rfl rfl rfl hS5.at_ rfl ⟨rfl, (((hA1.up (Nat.le_refl _)).trans hS2.up).trans hS4.up).trans (hS5.up (Nat.le_refl _))⟩
  all_goals
    have he : keyAt ns n = n.child := by simp [keyAt, hk]
    rw [he]
    repeat (first | refine WL.pp rfl ?_ | refine WL.ns ?_ | refine WC.sr ?_ | refine WC.dT rfl (by first | omega | decide) ?_ | refine WC.dF rfl (by first | omega | decide) ?_ | refine WL.ld rfl rfl c0 rfl ?_ | refine WC.seq ?_ | refine WC.reg ?_ | refine WC.block ?_ | refine X.sn ?_ | refine WC.skip ?_)
    refine WL.call rfl rfl rfl (child_any pp g i ns n w1 hA' hn hc) ?_
    rintro e w2 ⟨rfl, hS2⟩
    refine ⟨_, _, rfl, rfl, ?_⟩
    refine WL.bd rfl rfl (bdIterH _ _) rfl ?_
    refine WL.sg rfl rfl rfl (by simp [oneV, hptr]) (hS2.at hA1.at_) (by simp) rfl (fun w3 hS3 => ?_)
    repeat (first | refine WL.ns ?_ | refine X.br ?_ | refine WC.ret ?_)
    exact X.retC rfl rfl rfl hS3.at_ rfl ⟨rfl, ((hA1.up (Nat.le_refl _)).trans hS2.up).trans (hS3.up (Nat.le_refl _))⟩
end Go.Proofs.YtaccphdkapmdhaaGreat

namespace Go.Proofs.YtaccphdkapmdhaaGreat
attribute [local semireducible] WL WC X WD WX

theorem append_fm {B t e s n m c : Nat} {v v' : Value} {xs : List Value} {ad : Addr} {w w' : World} (ty : TypeId) (news : List Value)
    (ht : rowT t = some (e, s)) (hown : w.ownsRow B e s v n xs) (hl : news.length = m * s) (hnews : ∀ j u, news[j]? = some u → w.cell? (ad.add j) = some u) (h1 : ∀ u ∈ news, oneV u = true)
    (hm : n + m ≤ 1099511627776) (hB : B ≤ w.heap.size) (hr : (Builtin.append_ #[t, t] ty #[v, .slice (some ad) m c]).run PP w = .ok v' w') : Fm B [e] w w' := by
  obtain ⟨i, z, hu, hi, hz, hsz, hby, hzs, h0⟩ := row_parts ht
  have hone : ∀ u ∈ news, u.oneCell' = true := fun u hu => by
    have := h1 u hu
    cases u <;> first | rfl | (simp [oneV] at this)
  have hbb : (n + m) * i.bytes ≤ 140737488355328 := by
    have := Nat.mul_le_mul hm hby
    omega
  subst hsz
  have grown : ∀ o : Obj, Fm B [e] w (w.drew.alloc o) := fun o => ((alloc_al w.drew o).fm (B := B) (T := [e]) (show B ≤ w.drew.heap.size from hB)).of_drew
  rcases hown.2 with ⟨rfl, rfl⟩ | ⟨g, cap, cur, rfl, hbg, hg, hnc, hcm, hcs, htake⟩
  · by_cases hm0 : m = 0
    · subst hm0
      have hn : news = [] := List.eq_nil_of_length_eq_zero (by simpa using hl)
      subst hn
      have hr2 : (Builtin.append_ #[t, t] ty #[.slice none 0 0, .slice (some ad) 0 c]).run PP w = .ok (.slice none 0 0) w := by
        simp [Builtin.append_, run_underlying hu, sizeOf, typeInfo, hi, Builtin.lenOf, Builtin.firstCells, loadCells, loadCellsFrom]
      rw [hr2] at hr
      cases hr
      exact Fm.refl _ _ _
    · have hr2 := run_append_nil (P := PP) w t ty e i z hu hi hz ad m c news hl hnews (by omega) (by omega) (by simp only [Nat.zero_add] at hbb; omega)
      rw [hr2] at hr
      cases hr
      exact grown _
  · by_cases hroom : n + m ≤ cap
    · have hfit : n * i.size + news.length ≤ cur.size := by rw [hl, hcs, ← Nat.add_mul]; exact Nat.mul_le_mul_right _ hroom
      have hr2 := run_append_room (P := PP) w t ty e i hu hi g n cap cur hg ad m c news hl hnews hone hroom hfit
      rw [hr2] at hr
      cases hr
      have hS : St w g (.cells (cur.toList.take (n * i.size) ++ news ++ cur.toList.drop (n * i.size + news.length)).toArray e (0, 0)) (w.setRow g (cur.toList.take (n * i.size) ++ news ++ cur.toList.drop (n * i.size + news.length)).toArray) := ⟨rfl, rfl, rfl, by simp, setRow_heap w g cur _ e (0, 0) hg, fun k hk => setRow_other w g k _ hk⟩
      exact hS.fm hg hbg (by simp [tag]) rfl
    · have holds : ∀ j u, xs[j]? = some u → w.cell? ((⟨g, 0, none⟩ : Addr).add j) = some u := hown.cells (g := g) rfl
      have hr2 := run_append_grow (P := PP) w t ty e i z hu hi hz ⟨g, 0, none⟩ n cap xs hown.1 holds ad m c news hl hnews (by omega) (by omega) (growslice_fits (by omega) hbb)
      rw [hr2] at hr
      cases hr
      exact grown _

section steps
variable {all : List Oper} {Q : Exit → Act → World → Prop} {N : Nat} {L L' : Env} {o : Oper} {rest : List Oper} {w : World} {S : World → Prop}

/-- 'append' onto a row that is owned, with all that it leaves alone. -/
theorem apRunF {B t e s n m c : Nat} {v : Value} {xs : List Value} {ad : Addr} (news : List Value) (h : apA L o.op = some (t, v, .slice (some ad) m c))
    (ht : rowT t = some (e, s)) (hown : w.ownsRow B e s v n xs) (hl : news.length = m * s) (hnews : ∀ j u, news[j]? = some u → w.cell? (ad.add j) = some u) (h1 : ∀ u ∈ news, oneV u = true)
    (hm : n + m ≤ 1099511627776) (hB : B ≤ w.heap.size) :
    ∃ v' w', (∀ a, Fr N L a → (execOp a.eval o).run PP w = .ok (.value v') w') ∧ w'.ownsRow B e s v' (n + m) (xs ++ news) ∧ Fm B [e] w w' ∧ (v' = .slice none 0 0 ↔ v = .slice none 0 0 ∧ m = 0) := by
  obtain ⟨i, z, hu, hi, hz, hsz, hby, hzs, h0⟩ := row_parts ht
  have hone : ∀ u ∈ news, u.oneCell' = true := fun u hu => by
    have := h1 u hu
    cases u <;> first | rfl | (simp [oneV] at this)
  have hbb : (n + m) * i.bytes ≤ 140737488355328 := by
    have := Nat.mul_le_mul hm hby
    omega
  obtain ⟨v', w', hr, h2, h3, h4⟩ := run_append_own (P := PP) w B t o.type e i z s i.bytes hu hi hz hsz rfl hzs h0 v n xs hown ad m c news hl hnews hone (by simp only [maxLen]; omega) hbb hB
  exact ⟨v', w', fun a hf => by rw [apA_run hf h]; simp [hr], h2, append_fm o.type news ht hown hl hnews h1 hm hB hr, h4⟩

theorem WL.apf {B t e s n m c : Nat} {v : Value} {xs : List Value} {ad : Addr} (news : List Value) (hg : grd all L o = some true) (h : apA L o.op = some (t, v, .slice (some ad) m c))
    (ht : rowT t = some (e, s)) (hown : w.ownsRow B e s v n xs) (hl : news.length = m * s) (hnews : ∀ j u, news[j]? = some u → w.cell? (ad.add j) = some u) (h1 : ∀ u ∈ news, oneV u = true)
    (hm : n + m ≤ 1099511627776) (hB : B ≤ w.heap.size)
    (k : ∀ v' w', w'.ownsRow B e s v' (n + m) (xs ++ news) → Fm B [e] w w' → (v' = .slice none 0 0 ↔ v = .slice none 0 0 ∧ m = 0) → ∃ L', dstE N o v' L = some L' ∧ WL all Q N L' rest w') : WL all Q N L (o :: rest) w := by
  obtain ⟨v', w', hr, h2, h3, h4⟩ := apRunF (N := N) news h ht hown hl hnews h1 hm hB
  obtain ⟨L', hd, hk⟩ := k v' w' h2 h3 h4
  exact WL.of_run hg hr hd hk

theorem WX.apf {B t e s n m c : Nat} {v : Value} {xs : List Value} {ad : Addr} (news : List Value) (hs : oneX all (o :: rest) = true) (hg : grd all L o = some true) (h : apA L o.op = some (t, v, .slice (some ad) m c))
    (ht : rowT t = some (e, s)) (hown : w.ownsRow B e s v n xs) (hl : news.length = m * s) (hnews : ∀ j u, news[j]? = some u → w.cell? (ad.add j) = some u) (h1 : ∀ u ∈ news, oneV u = true)
    (hm : n + m ≤ 1099511627776) (hB : B ≤ w.heap.size)
    (k : ∀ v' w', w'.ownsRow B e s v' (n + m) (xs ++ news) → Fm B [e] w w' → (v' = .slice none 0 0 ↔ v = .slice none 0 0 ∧ m = 0) → S w' ∧ ∃ L', dstE N o v' L = some L' ∧ WX all Q N S L' rest w') : WX all Q N S L (o :: rest) w := by
  obtain ⟨v', w', hr, h2, h3, h4⟩ := apRunF (N := N) news h ht hown hl hnews h1 hm hB
  obtain ⟨hS, L', hd, hk⟩ := k v' w' h2 h3 h4
  exact WX.rv hs hg hr hS hd hk
end steps
end Go.Proofs.YtaccphdkapmdhaaGreat

