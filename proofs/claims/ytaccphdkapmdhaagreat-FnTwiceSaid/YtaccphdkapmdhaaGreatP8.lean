/- Keys with values, as nodes; what is asked of the walk of values. Lists: the nodes. Tables between braces: the nodes. Values: the nodes. No condition. -/
import Derived.Test.YtaccphdkapmdhaaGreatP7
import Derived.Test.YtaccphdkapmdhaaGreatP1
namespace Go.Proofs.YtaccphdkapmdhaaGreat
attribute [local irreducible] binOp IntKind.wrap Sem.run

/-- What the walk of values shows, of texts so long. -/
def ValC (bd C E : Nat) (dc : Array Value) (fz : Nat × Nat) (f : Bool) (n : Nat) : Prop :=
  ∀ (pp : Nat) (ad0 : Option Addr) (left : Value) (d : Nat) (ns : List ANode) (v : Value) (b r : Bs) (val : Val) (w : World), Suf bd C E dc v b → VV f d b val r → b.length ≤ n → w.heap[bd]? = some (.cells dc 5 fz) →
    PS w pp (.slice ad0 E C) left (d : Int) ns → ns.length + 3 * b.length ≤ 400000000 →
    Calls PP 104 #[.pointer (some ⟨pp, 0, none⟩), v] w fun e w' => ∃ v', e = .returned (.tuple #[.int .i32 ((ns.length + 1 : Nat) : Int), v', .nilIface]) ∧ Suf bd C E dc v' r ∧
      PS w' pp (.slice ad0 E C) left (d : Int) (ns ++ encV val ns.length) ∧ Fm pp [52, 104] w w'

theorem splice2 (c : List Value) (o : Nat) (x y : Value) (h : o + 2 ≤ c.length) : c.take o ++ [x, y] ++ c.drop (o + 2) = (c.set o x).set (o + 1) y := by
  apply List.ext_getElem?
  intro i
  by_cases h1 : i < o
  · rw [List.getElem?_set_ne (by omega), List.getElem?_set_ne (by omega), List.append_assoc, List.getElem?_append_left (by simp; omega), List.getElem?_take, if_pos h1]
  · by_cases h2 : i = o
    · subst h2
      rw [List.getElem?_set_ne (by omega), List.getElem?_set_self (by omega), List.append_assoc, List.getElem?_append_right (by simp; omega)]
      simp [Nat.min_eq_left (show i ≤ c.length by omega)]
    · by_cases h3 : i = o + 1
      · subst h3
        rw [List.getElem?_set_self (by simp; omega), List.append_assoc, List.getElem?_append_right (by simp; omega)]
        simp [Nat.min_eq_left (show o ≤ c.length by omega)]
      · rw [List.getElem?_set_ne (by omega), List.getElem?_set_ne (by omega), List.getElem?_append_right (by simp; omega), List.getElem?_drop]
        congr 1
        simp
        omega

theorem PS.child {w w' : World} {pp : Nat} {data left : Value} {nest : Int} {ns : List ANode} {g cap : Nat} {cur : Array Value} {xs : List Value} (hb : w.heap[pp]? = some (.cells ⟨[.bool false, data, left, .slice (some ⟨g, 0, none⟩) ns.length cap, .nilIface, .int .i64 nest]⟩ 52 (0, 0)))
    (hpg : pp < g) (hgb : w.heap[g]? = some (.cells cur 104 (0, 0))) (hc1 : ns.length ≤ cap) (hc2 : cap ≤ maxLen) (hcs : cur.size = cap * 7) (hct : cur.toList.take (ns.length * 7) = xs) (hN : NL w pp ns xs)
    (i v : Nat) {n : ANode} (hi : ns[i]? = some n) (hS : St w g (.cells (cur.setIfInBounds (i * 7 + 6) (.int .i32 v)) 104 (0, 0)) w') : PS w' pp data left nest (ns.set i { n with child := v }) :=
  PS.stored hb hpg hgb hc1 hc2 (by simpa using hcs) (by simp) hS (by
    have := hN.setChild i v hi
    rw [take_set, hct]
    exact this)
theorem PS.nxt {w w' : World} {pp : Nat} {data left : Value} {nest : Int} {ns : List ANode} {g cap : Nat} {cur : Array Value} {xs : List Value} (hb : w.heap[pp]? = some (.cells ⟨[.bool false, data, left, .slice (some ⟨g, 0, none⟩) ns.length cap, .nilIface, .int .i64 nest]⟩ 52 (0, 0)))
    (hpg : pp < g) (hgb : w.heap[g]? = some (.cells cur 104 (0, 0))) (hc1 : ns.length ≤ cap) (hc2 : cap ≤ maxLen) (hcs : cur.size = cap * 7) (hct : cur.toList.take (ns.length * 7) = xs) (hN : NL w pp ns xs)
    (i v : Nat) {n : ANode} (hi : ns[i]? = some n) (hS : St w g (.cells (cur.setIfInBounds (i * 7 + 5) (.int .i32 v)) 104 (0, 0)) w') : PS w' pp data left nest (ns.set i { n with next := v }) :=
  PS.stored hb hpg hgb hc1 hc2 (by simpa using hcs) (by simp) hS (by
    have := hN.setNext i v hi
    rw [take_set, hct]
    exact this)
theorem PS.raw {w w' : World} {pp : Nat} {data left : Value} {nest : Int} {ns : List ANode} {g cap : Nat} {cur : Array Value} {xs : List Value} (hb : w.heap[pp]? = some (.cells ⟨[.bool false, data, left, .slice (some ⟨g, 0, none⟩) ns.length cap, .nilIface, .int .i64 nest]⟩ 52 (0, 0)))
    (hpg : pp < g) (hgb : w.heap[g]? = some (.cells cur 104 (0, 0))) (hc1 : ns.length ≤ cap) (hc2 : cap ≤ maxLen) (hcs : cur.size = cap * 7) (hct : cur.toList.take (ns.length * 7) = xs) (hN : NL w pp ns xs)
    (i : Nat) (a b : Int) {n : ANode} (hi : ns[i]? = some n) (hS : St w g (.cells ⟨cur.toList.take (i * 7 + 1) ++ [.int .u32 a, .int .u32 b] ++ cur.toList.drop (i * 7 + 1 + 2)⟩ 104 (0, 0)) w') : PS w' pp data left nest ns := by
  have hlt := (List.getElem?_eq_some_iff.1 hi).1
  have hl : cur.toList.length = cap * 7 := by simpa using hcs
  rw [splice2 _ _ _ _ (by omega)] at hS
  refine PS.stored hb hpg hgb hc1 hc2 (by simpa using hcs) rfl hS ?_
  have := hN.setRaw i a b hi
  rw [← hct, ← List.take_set, ← List.take_set] at this
  exact this

section
variable {bd C E : Nat} {dc : Array Value} {fz : Nat × Nat}

set_option maxRecDepth 100000 in
set_option maxHeartbeats 8000000 in
theorem keyval_any {f : Bool} {n : Nat} (hV : ValC bd C E dc fz f n) (hf : f = false) (pp : Nat) (ad0 : Option Addr) (left : Value) (d : Nat) (ns : List ANode) (v : Value) (b b1 r : Bs) (ks : List Bs) (val : Val) (w : World)
    (hv : Suf bd C E dc v (skipWs b)) (hE : E ≤ 100000000) (hk : Ks b ks (61 :: b1)) (hval : VV f d (skipWs b1) val r) (hn : (skipWs b1).length ≤ n) (hD : w.heap[bd]? = some (.cells dc 5 fz))
    (hP : PS w pp (.slice ad0 E C) left (d : Int) ns) (hm : ns.length + 3 * b.length ≤ 400000000) :
    Calls PP 80 #[.pointer (some ⟨pp, 0, none⟩), v] w fun e w' => ∃ v', e = .returned (.tuple #[.int .i32 ((ns.length + 1 : Nat) : Int), v', .nilIface]) ∧ Suf bd C E dc v' r ∧
      PS w' pp (.slice ad0 E C) left (d : Int) (ns ++ encE ks (encV val) ns.length) ∧ Fm pp [52, 104] w w' := by
  have hC := hv.C63
  obtain ⟨hkl, hk0⟩ := hk.len
  simp only [List.length_cons] at hkl
  have hsk := skipWs_le b1
  have hvl := hval.len hf (ns.length + 1 + ks.length)
  obtain ⟨adv, nv, capv, rfl, hcapv⟩ := hv.capLe
  refine enter (L := [(0, .pointer (some ⟨pp, 0, none⟩)), (1, .slice adv nv capv)]) Tryz.func80 rfl rfl rfl ⟨rfl, rfl, trivial⟩ ?_
  repeat (first | refine WL.pp rfl ?_ | refine WL.ns ?_ | refine WC.sr ?_)
  refine WL.bd rfl rfl (bdNode1 _) rfl ?_
  refine WL.call rfl rfl rfl (push_any pp _ left d ns 5 0 0 0 0 _ none w hP trivial (fun s hs => by cases hs) (by omega)) ?_
  rintro e w1 ⟨rfl, hP1, hF1⟩
  refine ⟨_, _, rfl, rfl, ?_⟩
  have hD1 : w1.heap[bd]? = some (.cells dc 5 fz) := hF1.keep _ _ hD (by simp [tag])
  have hl1 : (ns ++ [(⟨5, none, 0, 0⟩ : ANode)]).length = ns.length + 1 := by simp
  repeat (first | refine WL.pp rfl ?_ | refine WL.ns ?_ | refine WC.sr ?_)
  have hkey := key_any pp ad0 left d (ns ++ [(⟨5, none, 0, 0⟩ : ANode)]) (.slice adv nv capv) b (61 :: b1) ks w1 hv hE hk hD1 hP1 (by rw [hl1]; omega)
  rw [hl1] at hkey
  refine WL.call rfl rfl rfl hkey ?_
  rintro e w2 ⟨v2, rfl, hv2, hP2, hF2⟩
  refine ⟨_, _, rfl, rfl, ?_⟩
  have hD2 : w2.heap[bd]? = some (.cells dc 5 fz) := hF2.keep _ _ hD1 (by simp [tag])
  have hcell := hv2.cell hD2
  have hv2' := hv2
  have hcons := hv2.cons
  subst hcons
  have hle := hv2'.le
  have hEC := hv2'.EC
  simp only [List.length_cons] at hle
  repeat (first | refine WL.pp rfl ?_ | refine WL.ns ?_ | refine WC.sr ?_ | refine WC.bF rfl (by first | with_reducible rfl | exact Bool.not_true) ?_ | refine WC.dF rfl (by first | omega | decide) ?_ | refine WL.ix (i := 0) rfl rfl rfl (by omega) rfl ?_ | refine WL.ld rfl rfl hcell rfl ?_ | refine WL.p rfl ?_ | refine WC.seq ?_ | refine X.sn ?_ | refine WC.skip ?_ | refine WL.gF rfl rfl (by first | omega | decide) ?_)
  refine WL.sS b1.length 1 rfl rfl (Sf.mk _ _ _) rfl (by simp; omega) (by omega) (fun _ => rfl) (fun ad' hs' => ?_)
  skip
  refine WL.call rfl rfl rfl ((hv2'.tail hs').skip hD2) ?_
  rintro e w3 ⟨v3, rfl, hv3, rfl⟩
  refine ⟨_, _, rfl, rfl, ?_⟩
  repeat (first | refine WL.pp rfl ?_ | refine WL.ns ?_ | refine WC.sr ?_)
  have hl2 : (ns ++ [(⟨5, none, 0, 0⟩ : ANode)] ++ keyNodes (ns.length + 1) ks).length = ns.length + 1 + ks.length := by rw [List.length_append, hl1, keyNodes_length]
  have hvc := hV pp ad0 left d (ns ++ [(⟨5, none, 0, 0⟩ : ANode)] ++ keyNodes (ns.length + 1) ks) v3 (skipWs b1) r val w3 hv3 hval hn hD2 hP2 (by rw [hl2]; omega)
  rw [hl2] at hvc
  refine WL.call rfl rfl rfl hvc ?_
  rintro e w4 ⟨v4, rfl, hv4, hP4, hF4⟩
  refine ⟨_, _, rfl, rfl, ?_⟩
  obtain ⟨a, l, hav, ha0⟩ := encV_cons val (ns.length + 1 + ks.length)
  rw [hav] at hP4 hvl
  have hl4 : (ns ++ [(⟨5, none, 0, 0⟩ : ANode)] ++ keyNodes (ns.length + 1) ks ++ a :: l).length = ns.length + 1 + ks.length + 1 + l.length := by rw [List.length_append, hl2, List.length_cons]; omega
  simp only [List.length_cons] at hvl
  have hF14 := (hF1.trans hF2).trans hF4
  -- the root's child
  obtain ⟨g, cap, cur, xs, hb, hpg, hgb, hc1, hc2, hcs, hct, hxl, hN⟩ := hP4.open (by omega)
  have h0 : (ns ++ [(⟨5, none, 0, 0⟩ : ANode)] ++ keyNodes (ns.length + 1) ks ++ a :: l)[ns.length]? = some ⟨5, none, 0, 0⟩ := by
    rw [List.append_assoc, List.append_assoc, List.getElem?_append_right (Nat.le_refl _)]
    simp
  have hcur : ns.length * 7 + 6 < cur.size := by rw [hcs]; omega
  repeat (first | refine WL.pp rfl ?_ | refine WL.ns ?_ | refine WC.sr ?_ | refine WC.bF rfl (by first | with_reducible rfl | exact Bool.not_true) ?_ | refine WC.seq ?_ | refine X.sn ?_ | refine WC.skip ?_)
  refine WL.call rfl rfl rfl (at_any pp g _ cap (ns.length + 1) ns.length _ _ _ _ _ w4 hb rfl (by omega) (by omega)) ?_
  rintro e w5 ⟨rfl, rfl⟩
  refine ⟨_, _, rfl, rfl, ?_⟩
  repeat (refine WL.pp rfl ?_)
  refine WL.stB rfl rfl rfl hgb (Array.getElem?_eq_getElem hcur) rfl (fun w6 hS6 => ?_)
  have hP6 := PS.child hb hpg hgb hc1 hc2 hcs hct hN _ _ h0 hS6
  have hF6 := hF14.trans (hS6.fm hgb (by omega) (by simp [tag]) rfl)
  generalize hns6 : (ns ++ [(⟨5, none, 0, 0⟩ : ANode)] ++ keyNodes (ns.length + 1) ks ++ a :: l).set ns.length _ = ns6 at hP6
  have hl6 : ns6.length = ns.length + 1 + ks.length + 1 + l.length := by rw [← hns6, List.length_set, hl4]
  have e6 : ns6 = ns ++ (⟨5, none, 0, ns.length + 1 + ks.length + 1⟩ :: (keyNodes (ns.length + 1) ks ++ a :: l)) := by
    rw [← hns6, List.append_assoc, List.append_assoc, List.set_append_right _ _ (Nat.le_refl _), Nat.sub_self]
    simp
  have h6 : ns6[ns.length + 1 + ks.length]? = some a := by
    rw [e6, List.getElem?_append_right (by omega), show ns.length + 1 + ks.length - ns.length = ks.length + 1 by omega, List.getElem?_cons_succ, List.getElem?_append_right (by rw [keyNodes_length]; exact Nat.le_refl _), keyNodes_length, Nat.sub_self]
    rfl
  clear hns6 hS6 hb hpg hgb hc1 hc2 hcs hct hxl hN hcur h0
  -- the value's next one
  obtain ⟨g, cap, cur, xs, hb, hpg, hgb, hc1, hc2, hcs, hct, hxl, hN⟩ := hP6.open (by omega)
  have hcur : (ns.length + 1 + ks.length) * 7 + 5 < cur.size := by rw [hcs]; omega
  repeat (first | refine WL.pp rfl ?_ | refine WL.ns ?_ | refine WC.sr ?_)
  refine WL.call rfl rfl rfl (at_any pp g _ cap (ns.length + 1 + ks.length + 1) (ns.length + 1 + ks.length) _ _ _ _ _ w6 hb rfl (by omega) (by omega)) ?_
  rintro e w7 ⟨rfl, rfl⟩
  refine ⟨_, _, rfl, rfl, ?_⟩
  repeat (refine WL.pp rfl ?_)
  refine WL.stB rfl rfl rfl hgb (Array.getElem?_eq_getElem hcur) rfl (fun w8 hS8 => ?_)
  have hP8 := PS.nxt hb hpg hgb hc1 hc2 hcs hct hN _ _ h6 hS8
  have hF8 := hF6.trans (hS8.fm hgb (by omega) (by simp [tag]) rfl)
  generalize hns8 : ns6.set (ns.length + 1 + ks.length) _ = ns8 at hP8
  have hl8 : ns8.length = ns.length + 1 + ks.length + 1 + l.length := by rw [← hns8, List.length_set, hl6]
  have e8 : ns8 = ns ++ encE ks (encV val) ns.length := by
    rw [← hns8, e6, List.set_append_right _ _ (by omega), show ns.length + 1 + ks.length - ns.length = ks.length + 1 by omega, List.set_cons_succ, List.set_append_right _ _ (by rw [keyNodes_length]; exact Nat.le_refl _), keyNodes_length, Nat.sub_self, List.set_cons_zero]
    unfold encE
    rw [hav]
    simp only [setN]
    rw [show ns.length + 1 + ks.length + 1 = ns.length + ks.length + 2 by omega]
  have h8 : ∃ n8, ns8[ns.length]? = some n8 := ⟨_, List.getElem?_eq_getElem (by omega)⟩
  obtain ⟨n8, h8⟩ := h8
  clear hns8 hS8 hb hpg hgb hc1 hc2 hcs hct hxl hN hcur
  obtain ⟨g, cap, cur, xs, hb, hpg, hgb, hc1, hc2, hcs, hct, hxl, hN⟩ := hP8.open (by omega)
  repeat (first | refine WL.pp rfl ?_ | refine WL.ns ?_ | refine WC.sr ?_)
  refine WL.call rfl rfl rfl (at_any pp g _ cap (ns.length + 1) ns.length _ _ _ _ _ w8 hb rfl (by omega) (by omega)) ?_
  rintro e w9 ⟨rfl, rfl⟩
  refine ⟨_, _, rfl, rfl, ?_⟩
  repeat (refine WL.pp rfl ?_)
  obtain ⟨ad5, nv5, cap5, rfl, hcap5⟩ := hv4.capLe
  refine WL.call rfl rfl rfl (rangeFrom_any pp E C nv capv nv5 cap5 ad0 adv ad5 _ _ _ _ _ w9 hb hC hcapv hcap5) ?_
  rintro e w10 ⟨x, y, rfl, hU10⟩
  refine ⟨_, _, rfl, rfl, ?_⟩
  have hb10 := hU10.at (lt_of_heap hb) hb
  have hgb10 := hU10.at (lt_of_heap hgb) hgb
  have hN10 := hN.fm (hU10.fm (B' := pp) (T := []) (Nat.le_refl _) (Nat.le_of_lt (lt_of_heap hb))) (by simp)
  repeat (refine WL.pp rfl ?_)
  refine WL.sg (c := cur.toList) rfl rfl rfl (by simp [oneV]) hgb10 (by
    have hl : cur.toList.length = cap * 7 := by simpa using hcs
    omega) rfl (fun w11 hS11 => ?_)
  have hP11 := PS.raw hb10 hpg hgb10 hc1 hc2 hcs hct hN10 _ x y h8 hS11
  have hF11 := (hF8.trans (hU10.fm (B' := pp) (T := [52, 104]) (Nat.le_refl _) (Nat.le_of_lt (lt_of_heap hb)))).trans (hS11.fm hgb10 (by omega) (by simp [tag]) rfl)
  repeat (first | refine WL.pp rfl ?_ | refine WL.ns ?_ | refine WC.sr ?_ | refine WC.ret ?_)
  refine X.ret_ rfl rfl ⟨_, rfl, hv4, ?_, hF11⟩
  rw [← e8]
  exact hP11
end
end Go.Proofs.YtaccphdkapmdhaaGreat

namespace Go.Proofs.YtaccphdkapmdhaaGreat
attribute [local irreducible] binOp IntKind.wrap Sem.run

/-- The nodes of something with children, so far. -/
def grown (K : Nat) (ns : List ANode) (ds : List (Nat → List ANode)) : List ANode := ns ++ (⟨K, none, 0, if ds.isEmpty then 0 else ns.length + 2⟩ :: forest (ns.length + 1) ds)
def lastOf (ns : List ANode) (ds : List (Nat → List ANode)) : Nat := if ds.isEmpty then 0 else lastAt (ns.length + 1) ds + 1

theorem grown_length (K : Nat) (ns : List ANode) (ds : List (Nat → List ANode)) : (grown K ns ds).length = ns.length + 1 + (forest (ns.length + 1) ds).length := by
  simp only [grown, List.length_append, List.length_cons]; omega

theorem lastAt_lt : ∀ (ds : List (Nat → List ANode)) (k : Nat), ds ≠ [] → (∀ y ∈ ds, ∀ j, ∃ (a : ANode) (l : List ANode), y j = a :: l) → lastAt k ds < k + (forest k ds).length
  | [], _, h, _ => absurd rfl h
  | [y], k, _, hy => by
    obtain ⟨a, l, h⟩ := hy y (by simp) k
    simp [lastAt, forest, h]
  | y :: z :: ds, k, _, hy => by
    have := lastAt_lt (z :: ds) (k + (y k).length) (by simp) (fun u hu => hy u (by simp [hu]))
    simp only [lastAt, forest, List.length_append, setN_length]
    omega

theorem hang_eq (K : Nat) (ns : List ANode) (ds : List (Nat → List ANode)) (x : Nat → List ANode) (hy : ∀ y ∈ ds, ∀ j, ∃ (a : ANode) (l : List ANode), y j = a :: l) :
    hung (grown K ns ds ++ x (grown K ns ds).length) (ns.length + 1) (lastOf ns ds) ((grown K ns ds).length + 1) = grown K ns (ds ++ [x]) ∧ lastOf ns (ds ++ [x]) = (grown K ns ds).length + 1 := by
  by_cases h0 : ds = []
  · subst h0
    constructor
    · have e : hung (grown K ns [] ++ x (grown K ns []).length) (ns.length + 1) (lastOf ns []) ((grown K ns []).length + 1) = (ns ++ (⟨K, none, 0, 0⟩ :: x (ns.length + 1))).modify ns.length (fun a => { a with child := ns.length + 1 + 1 }) := by
        simp [hung, lastOf, grown, forest]
      rw [e, modify_set (a := ⟨K, none, 0, 0⟩) _ (by rw [List.getElem?_append_right (Nat.le_refl _), Nat.sub_self]; rfl), List.set_append_right _ _ (Nat.le_refl _), Nat.sub_self]
      simp [grown, forest]
    · simp [lastOf, lastAt, grown, forest]
  · have hemp : ds.isEmpty = false := by cases ds <;> simp_all
    have hemp2 : (ds ++ [x]).isEmpty = false := by simp
    obtain ⟨a, h1, h2, h3⟩ := forest_snoc ds (ns.length + 1) x h0 hy
    have hge := lastAt_ge ds (ns.length + 1)
    have hlt := lastAt_lt ds (ns.length + 1) h0 hy
    have hl := grown_length K ns ds
    constructor
    · unfold hung lastOf
      simp only [hemp, Bool.false_eq_true, if_false]
      rw [if_neg (by omega), Nat.add_sub_cancel]
      have e : grown K ns ds ++ x (grown K ns ds).length = ns ++ (⟨K, none, 0, ns.length + 2⟩ :: (forest (ns.length + 1) ds ++ x (ns.length + 1 + (forest (ns.length + 1) ds).length))) := by
        rw [hl]
        simp [grown, hemp]
      have ei : lastAt (ns.length + 1) ds - ns.length = (lastAt (ns.length + 1) ds - (ns.length + 1)) + 1 := by omega
      rw [e, modify_set (a := a) _ (by
        rw [List.getElem?_append_right (by omega), ei, List.getElem?_cons_succ, List.getElem?_append_left (by omega)]
        exact h1), List.set_append_right _ _ (by omega), ei, List.set_cons_succ, hl, h2]
      simp [grown]
    · unfold lastOf
      simp only [hemp2, Bool.false_eq_true, if_false]
      rw [h3, hl]

section
variable {bd C E : Nat} {dc : Array Value} {fz : Nat × Nat}

set_option maxRecDepth 100000 in
set_option maxHeartbeats 8000000 in
theorem array_any {f : Bool} {n : Nat} (hV : ValC bd C E dc fz f n) (hf : f = false) (pp : Nat) (ad0 : Option Addr) (left : Value) (d : Nat) (ns : List ANode) (v : Value) (b r : Bs) (vs : List Val) (w : World)
    (hv : Suf bd C E dc v (91 :: b)) (hE : E ≤ 100000000) (hva : VA f d false b vs r) (hn : b.length ≤ n) (hD : w.heap[bd]? = some (.cells dc 5 fz))
    (hP : PS w pp (.slice ad0 E C) left (d : Int) ns) (hm : ns.length + 1 + 3 * b.length ≤ 400000000) :
    Calls PP 121 #[.pointer (some ⟨pp, 0, none⟩), v] w fun e w' => ∃ v', e = .returned (.tuple #[.int .i32 ((ns.length + 1 : Nat) : Int), v', .nilIface]) ∧ Suf bd C E dc v' r ∧
      PS w' pp (.slice ad0 E C) left (d : Int) (grown 6 ns (encIs vs)) ∧ Fm pp [52, 104] w w' := by
  have hC := hv.C63
  have hv' := hv
  have hcons := hv.cons
  subst hcons
  have hle := hv'.le
  have hEC := hv'.EC
  have hpp := hP.lt
  simp only [List.length_cons] at hle
  refine enter (L := [(0, .pointer (some ⟨pp, 0, none⟩)), (1, .slice (some ⟨bd, E - (b.length + 1), none⟩) (b.length + 1) (C - (E - (b.length + 1))))]) Tryz.func121 rfl rfl rfl ⟨rfl, rfl, trivial⟩ ?_
  repeat (refine WC.sr ?_)
  refine WL.bx rfl rfl rfl (fun w1 hA1 => ?_)
  have hb2 : w1.heap[w.heap.size]? = some (.cells ⟨[.pointer (some ⟨pp, 0, none⟩)]⟩ 92 (0, 0)) := hA1.at_
  have hP1 := hP.up (hA1.up (Nat.le_refl _))
  have hF1 : Fm pp [52, 104] w w1 := hA1.fm (by omega)
  have hs1 := hA1.size
  generalize hbx2 : w.heap.size = bx2 at *
  repeat (first | refine WL.pp rfl ?_ | refine WL.ns ?_ | refine WC.sr ?_ | refine WL.ldB (b := bx2) (v := .pointer (some ⟨pp, 0, none⟩)) rfl rfl hb2 rfl rfl ?_)
  refine WL.bd rfl rfl (bdNode1 _) rfl ?_
  refine WL.call rfl rfl rfl (push_any pp _ left d ns 6 0 0 0 0 _ none w1 hP1 trivial (fun s hs => by cases hs) (by omega)) ?_
  rintro e w2 ⟨rfl, hP2, hF2⟩
  refine ⟨_, _, rfl, rfl, ?_⟩
  have hb2b := hF2.keep _ _ hb2 (by simp [tag])
  have hs2 := hF2.size
  refine WL.al rfl rfl rfl (fun w3 hA3 => ?_)
  skip
  refine WL.stB rfl rfl rfl hA3.at_ rfl rfl (fun w4 hS4 => ?_)
  have hb7 : w4.heap[w2.heap.size]? = some (.cells ⟨[.int .i32 ((ns.length + 1 : Nat) : Int)]⟩ 21 (0, 0)) := hS4.at_
  have hU4 : Up w2.heap.size w2 w4 := (hA3.up (Nat.le_refl _)).trans (hS4.up (Nat.le_refl _))
  have hP4 := hP2.up hU4
  have hb2c := hU4.at (lt_of_heap hb2b) hb2b
  have hF4 : Fm pp [52, 104] w w4 := (hF1.trans hF2).trans (hU4.fm (Nat.le_refl _) (by omega))
  have hs4 : w2.heap.size < w4.heap.size := lt_of_heap hb7
  generalize hbx7 : w2.heap.size = bx7 at *
  repeat (first | refine WL.pp rfl ?_ | refine WL.ns ?_ | refine WC.sr ?_)
  refine WL.sS b.length 1 rfl rfl (Sf.mk _ _ _) rfl (by simp; omega) (by omega) (fun _ => rfl) (fun ad' hs' => ?_)
  repeat (first | refine WL.pp rfl ?_ | refine WL.ns ?_ | refine WC.sr ?_)
  refine WL.al rfl rfl rfl (fun w5 hA5 => ?_)
  have hb8 : w5.heap[w4.heap.size]? = some (.cells ⟨[.int .i32 0]⟩ 21 (0, 0)) := hA5.at_
  have hP5 := hP4.up (hA5.up (Nat.le_refl _))
  have hb7b := hA5.keep hb7
  have hb2d := hA5.keep hb2c
  have hF5 : Fm pp [52, 104] w w5 := hF4.trans (hA5.fm (by omega))
  have hne78 : w4.heap.size ≠ bx7 := by omega
  have hne82 : w4.heap.size ≠ bx2 := by omega
  have h8ge : bx2 ≤ w4.heap.size := by omega
  generalize hbx8 : w4.heap.size = bx8 at *
  have hv5 := hv'.tail hs'
  repeat (first | refine WL.pp rfl ?_ | refine WL.ns ?_ | refine WC.sr ?_ | refine WC.block ?_)
  refine WC.loop (σ := Value × Bs × Bool × List Val × List Val) (I := fun s w' => VA f d s.2.2.1 s.2.1 s.2.2.2.2 r ∧ s.2.2.2.1 ++ s.2.2.2.2 = vs ∧ Suf bd C E dc s.1 s.2.1 ∧ s.2.1.length ≤ n ∧ PS w' pp (.slice ad0 E C) left (d : Int) (grown 6 ns (encIs s.2.2.2.1)) ∧
      (grown 6 ns (encIs s.2.2.2.1)).length + 3 * s.2.1.length ≤ 400000000 ∧ w'.heap[bx2]? = some (.cells ⟨[.pointer (some ⟨pp, 0, none⟩)]⟩ 92 (0, 0)) ∧ w'.heap[bx7]? = some (.cells ⟨[.int .i32 ((ns.length + 1 : Nat) : Int)]⟩ 21 (0, 0)) ∧
      w'.heap[bx8]? = some (.cells ⟨[.int .i32 (lastOf ns (encIs s.2.2.2.1) : Int)]⟩ 21 (0, 0)) ∧ Fm pp [52, 104] w w')
    (m := fun s => s.2.1.length) (Lf := fun s => [(1, s.1), (2, .pointer (some ⟨bx2, 0, none⟩)), (7, .pointer (some ⟨bx7, 0, none⟩)), (9, .func (.func 132) #[] #[.pointer (some ⟨bx8, 0, none⟩), .pointer (some ⟨bx2, 0, none⟩), .pointer (some ⟨bx7, 0, none⟩)]), (12, .bool s.2.2.1)]) (_, b, false, [], vs) ⟨hva, rfl, hv5, hn, hP5, by rw [grown_length]; simpa [encIs, forest] using hm, hb2d, hb7b, hb8, hF5⟩ ⟨rfl, rfl, rfl, rfl, rfl, trivial⟩ ?_
  clear hva hv5 hn hP5 hb2d hb7b hb8 hF5 hv hv' hs' hP hP1 hP2 hP4 hb2 hb2b hb2c hb7 hF1 hF2 hF4 hA1 hA3 hA5 hS4 hU4
  rintro ⟨v6, b6, af, dn, rs⟩ w6 ⟨hva, hvs, hv6, hn, hP6, hm6, h2, h7, h8, hF6⟩
  dsimp only at hva hvs hv6 hn hP6 hm6 h2 h7 h8 ⊢
  have hD6 : w6.heap[bd]? = some (.cells dc 5 fz) := hF6.keep _ _ hD (by simp [tag])
  have hskl := skipWs_le b6
  repeat (first | refine WL.pp rfl ?_ | refine WC.sr ?_ | refine WC.block ?_)
  refine WL.call rfl rfl rfl (hv6.skip hD6) ?_
  rintro e w7 ⟨v8, rfl, hv8, rfl⟩
  refine ⟨_, _, rfl, rfl, ?_⟩
  cases hva with
  | close hsk =>
    rw [hsk] at hv8 hskl
    have hcell := hv8.cell hD6
    have hv8' := hv8
    have hcons := hv8.cons
    subst hcons
    have hle8 := hv8'.le
    have hEC8 := hv8'.EC
    simp only [List.length_cons] at hle8 hskl
    have hvs' : dn = vs := by simpa using hvs
    subst hvs'
    repeat (first | refine WL.pp rfl ?_ | refine WL.ns ?_ | refine WC.sr ?_ | refine WC.dT rfl (by first | omega | decide) ?_ | refine WC.dF rfl (by first | omega | decide) ?_ | refine WL.ix (i := 0) rfl rfl rfl (by omega) rfl ?_ | refine WL.ld rfl rfl hcell rfl ?_ | refine WC.seq ?_ | refine WC.block ?_ | refine X.sn ?_ | refine WC.skip ?_)
    refine WC.drx (fun w' => w'.heap[bx7]? = some (.cells ⟨[.int .i32 ((ns.length + 1 : Nat) : Int)]⟩ 21 (0, 0))) ?_
    have h7d : w7.drew.heap[bx7]? = some (.cells ⟨[.int .i32 ((ns.length + 1 : Nat) : Int)]⟩ 21 (0, 0)) := h7
    repeat (first | refine WX.p (by kernel_rfl) (by first | trivial | assumption) rfl ?_ | refine WX.ld (v := .int .i32 ((ns.length + 1 : Nat) : Int)) (by kernel_rfl) (by assumption) rfl rfl (fun w' hw' => cell_of hw' rfl) rfl ?_)
    refine WX.sS r.length 1 (by kernel_rfl) (by assumption) rfl rfl (Sf.mk _ _ _) rfl (by simp; omega) (by omega) (fun _ => rfl) (fun ad3 hs3 => ?_)
    repeat (refine WX.p (by kernel_rfl) (by first | trivial | assumption) rfl ?_)
    refine WX.nil ?_
    repeat (first | refine X.sn ?_ | refine X.sr ?_ | refine X.br ?_ | refine WC.ret ?_)
    refine X.ret_ rfl rfl ⟨_, rfl, hv8'.tail hs3, hP6.sm (Sm.refl _).drew, hF6.drew⟩
  | @lf _ _ _ b' _ _ hsk hva' =>
    rw [hsk] at hv8 hskl
    have hcell := hv8.cell hD6
    have hv8' := hv8
    have hcons := hv8.cons
    subst hcons
    have hle8 := hv8'.le
    have hEC8 := hv8'.EC
    simp only [List.length_cons] at hle8 hskl
    repeat (first | refine WL.pp rfl ?_ | refine WL.ns ?_ | refine WC.sr ?_ | refine WC.dT rfl (by first | omega | decide) ?_ | refine WC.dF rfl (by first | omega | decide) ?_ | refine WL.ix (i := 0) rfl rfl rfl (by omega) rfl ?_ | refine WL.ld rfl rfl hcell rfl ?_ | refine WC.seq ?_ | refine WC.block ?_ | refine X.sn ?_ | refine WC.skip ?_)
    refine WL.sS b'.length 1 rfl rfl (Sf.mk _ _ _) rfl (by simp; omega) (by omega) (fun _ => rfl) (fun ad3 hs3 => ?_)
    repeat (first | refine WL.pp rfl ?_ | refine WL.ns ?_ | refine X.bx ?_ | refine X.bo rfl ?_ | refine WC.exit ?_)
    exact X.again (_, b', af, dn, rs) ⟨hva', hvs, hv8'.tail hs3, (by dsimp only; omega), hP6, (by dsimp only; omega), h2, h7, h8, hF6⟩ (by dsimp only; omega) ⟨rfl, rfl, rfl, rfl, rfl, trivial⟩
  | @crlf _ _ _ b' _ _ hsk hva' =>
    rw [hsk] at hv8 hskl
    have hcell := hv8.cell hD6
    have hv8' := hv8
    have hcons := hv8.cons
    simp only [List.length_cons] at hcons hcell
    subst hcons
    have hle8 := hv8'.le
    have hEC8 := hv8'.EC
    simp only [List.length_cons] at hle8 hskl
    have hcell2 := hv8'.c1 hD6
    simp only [List.length_cons] at hcell2
    repeat (first | refine WL.pp rfl ?_ | refine WL.ns ?_ | refine WC.sr ?_ | refine WC.dT rfl (by first | omega | decide) ?_ | refine WC.dF rfl (by first | omega | decide) ?_ | refine WL.ix (i := 0) rfl rfl rfl (by omega) rfl ?_ | refine WL.ld rfl rfl hcell rfl ?_ | refine WL.ix (i := 1) rfl rfl rfl (by omega) rfl ?_ | refine WL.ld rfl rfl hcell2 rfl ?_ | refine WL.p rfl ?_ | refine WC.seq ?_ | refine WC.block ?_ | refine X.sn ?_ | refine WC.skip ?_ | refine WL.gT rfl rfl (by first | omega | decide) ?_)
    refine WL.sS b'.length 2 rfl rfl (Sf.mk _ _ _) rfl (by simp; omega) (by omega) (fun _ => rfl) (fun ad3 hs3 => ?_)
    have hv9 := hv8'.drop 2 (by simp) hs3
    repeat (first | refine WL.pp rfl ?_ | refine WL.ns ?_ | refine X.sx ?_ | refine X.bx ?_ | refine X.bo rfl ?_ | refine WC.exit ?_)
    exact X.again (_, b', af, dn, rs) ⟨hva', hvs, hv9, (by dsimp only; omega), hP6, (by dsimp only; omega), h2, h7, h8, hF6⟩ (by dsimp only; omega) ⟨rfl, rfl, rfl, rfl, rfl, trivial⟩
  | @cm _ _ _ c b' _ _ hsk hcm hva' =>
    have hcp := cm_pos hcm
    simp only [List.length_cons] at hcp
    rw [hsk] at hv8 hskl
    have hcell := hv8.cell hD6
    have hv8' := hv8
    have hcons := hv8.cons
    subst hcons
    have hle8 := hv8'.le
    have hEC8 := hv8'.EC
    simp only [List.length_cons] at hle8 hskl
    repeat (first | refine WL.pp rfl ?_ | refine WL.ns ?_ | refine WC.sr ?_ | refine WC.dT rfl (by first | omega | decide) ?_ | refine WC.dF rfl (by first | omega | decide) ?_ | refine WL.ix (i := 0) rfl rfl rfl (by omega) rfl ?_ | refine WL.ld rfl rfl hcell rfl ?_ | refine WC.seq ?_ | refine WC.block ?_ | refine X.sn ?_ | refine WC.skip ?_)
    refine WL.call rfl rfl rfl (scanComment_any _ c b' w7 hv8' hcm hD6) ?_
    rintro e w8 ⟨v9, v10, rfl, hv10, hS8⟩
    refine ⟨_, _, rfl, rfl, ?_⟩
    have hP8 := hP6.sm hS8
    obtain ⟨nv, xs, hpb, _, _⟩ := hP8
    repeat (first | refine WL.pp rfl ?_ | refine WL.ns ?_ | refine WC.sr ?_ | refine WC.bF rfl (by first | with_reducible rfl | exact Bool.not_true) ?_ | refine WL.ldB (b := bx2) (v := .pointer (some ⟨pp, 0, none⟩)) rfl rfl (hS8.at h2) rfl rfl ?_ | refine WL.ldB (b := pp) (v := .bool false) rfl rfl hpb rfl rfl ?_ | refine WC.seq ?_ | refine X.sn ?_ | refine X.bx ?_ | refine X.bo rfl ?_ | refine WC.skip ?_ | refine WC.exit ?_)
    exact X.again (v10, b', af, dn, rs) ⟨hva', hvs, hv10, (by dsimp only; omega), hP6.sm hS8, (by dsimp only; omega), hS8.at h2, hS8.at h7, hS8.at h8, hF6.trans hS8.fm⟩ (by dsimp only; omega) ⟨rfl, rfl, rfl, rfl, rfl, trivial⟩
  | @comma _ _ b' _ _ hsk hva' =>
    rw [hsk] at hv8 hskl
    have hcell := hv8.cell hD6
    have hv8' := hv8
    have hcons := hv8.cons
    subst hcons
    have hle8 := hv8'.le
    have hEC8 := hv8'.EC
    simp only [List.length_cons] at hle8 hskl
    repeat (first | refine WL.pp rfl ?_ | refine WL.ns ?_ | refine WC.sr ?_ | refine WC.bF rfl (by first | with_reducible rfl | exact Bool.not_true) ?_ | refine WC.dT rfl (by first | omega | decide) ?_ | refine WC.dF rfl (by first | omega | decide) ?_ | refine WL.ix (i := 0) rfl rfl rfl (by omega) rfl ?_ | refine WL.ld rfl rfl hcell rfl ?_ | refine WC.seq ?_ | refine WC.block ?_ | refine X.sn ?_ | refine WC.skip ?_)
    refine WL.sS b'.length 1 rfl rfl (Sf.mk _ _ _) rfl (by simp; omega) (by omega) (fun _ => rfl) (fun ad3 hs3 => ?_)
    repeat (first | refine WL.pp rfl ?_ | refine WL.ns ?_ | refine X.bx ?_ | refine X.bo rfl ?_ | refine WC.exit ?_)
    exact X.again (_, b', false, dn, rs) ⟨hva', hvs, hv8'.tail hs3, (by dsimp only; omega), hP6, (by dsimp only; omega), h2, h7, h8, hF6⟩ (by dsimp only; omega) ⟨rfl, rfl, rfl, rfl, rfl, trivial⟩
  | @val _ _ b1 b2 _ c v0 vs' hsk hcc hv0 hva' =>
    rw [hsk] at hv8 hskl
    have hcell := hv8.cell hD6
    have hv8' := hv8
    have hcons := hv8.cons
    subst hcons
    have hle8 := hv8'.le
    have hEC8 := hv8'.EC
    simp only [List.length_cons] at hle8 hskl
    obtain ⟨hc1, hc2, hc3, hc4, hc5⟩ := hcc
    have hvl := hv0.len hf (grown 6 ns (encIs dn)).length
    have hvt := hv0.lt hf
    obtain ⟨a0, l0, hav, ha0⟩ := encV_cons v0 (grown 6 ns (encIs dn)).length
    have hav' := congrArg List.length hav
    simp only [List.length_cons] at hvl hvt hav'
    repeat (first | refine WL.pp rfl ?_ | refine WL.ns ?_ | refine WC.sr ?_ | refine WC.bF rfl (by first | with_reducible rfl | exact Bool.not_true) ?_ | refine WC.dF rfl (by first | omega | decide) ?_ | refine WL.ix (i := 0) rfl rfl rfl (by omega) rfl ?_ | refine WL.ld rfl rfl hcell rfl ?_ | refine WL.ldB (b := bx2) (v := .pointer (some ⟨pp, 0, none⟩)) rfl rfl h2 rfl rfl ?_ | refine WC.seq ?_ | refine WC.block ?_ | refine X.sn ?_ | refine WC.skip ?_)
    refine WL.call rfl rfl rfl (hV pp ad0 left d _ _ (c :: b1) b2 v0 w7 hv8' hv0 (by simp only [List.length_cons]; omega) hD6 hP6 (by simp only [List.length_cons]; omega)) ?_
    rintro e w8 ⟨v9, rfl, hv9, hP8, hF8⟩
    refine ⟨_, _, rfl, rfl, ?_⟩
    have h2b := hF8.keep _ _ h2 (by simp [tag])
    have h7b := hF8.keep _ _ h7 (by simp [tag])
    have h8b := hF8.keep _ _ h8 (by simp [tag])
    obtain ⟨hh1, hh2⟩ := hang_eq 6 ns (encIs dn) (encV v0) (encIs_cons dn)
    have hgl := grown_length 6 ns (encIs dn)
    have hlast : lastOf ns (encIs dn) ≤ (grown 6 ns (encIs dn) ++ encV v0 (grown 6 ns (encIs dn)).length).length := by
      rw [List.length_append]
      unfold lastOf
      split
      · omega
      · have := lastAt_lt (encIs dn) (ns.length + 1) (by rintro h; simp_all) (encIs_cons dn)
        omega
    repeat (first | refine WL.pp rfl ?_ | refine WL.ns ?_ | refine WC.sr ?_ | refine WC.bF rfl (by first | with_reducible rfl | exact Bool.not_true) ?_ | refine WC.seq ?_ | refine X.sn ?_ | refine WC.skip ?_)
    refine WL.call rfl rfl rfl (hang_any 132 (.inl rfl) pp bx8 bx2 bx7 _ (ns.length + 1) ((grown 6 ns (encIs dn)).length + 1) _ left d _ w8 hP8 (by rw [List.length_append]; omega) h8b h2b h7b ⟨by omega, by rw [List.length_append]; omega⟩ hlast) ?_
    rintro e w9 ⟨rfl, w10, hP10, hF10, hS10⟩
    refine ⟨_, _, rfl, rfl, ?_⟩
    rw [hh1] at hP10
    have hF10' : Fm pp [52, 104] w w10 := (hF6.trans hF8).trans (hF10.mono (Nat.le_refl _) (by simp))
    have h8c := hF10.keep _ _ h8b (by simp [tag])
    have hP11 : PS w9 pp (.slice ad0 E C) left (d : Int) (grown 6 ns (encIs dn ++ [encV v0])) := by
      obtain ⟨nv, xs, q1, q2, q3⟩ := hP10
      have hfm : Fm 0 [21] w10 w9 := hS10.fm h8c (Nat.zero_le _) (by simp [tag]) rfl
      refine ⟨nv, xs, hfm.keep _ _ q1 (by simp [tag]), own_same q2 (fun k o hk h => ?_), q3.fm hfm (by simp)⟩
      rcases q2.2 with ⟨rfl, _⟩ | ⟨g, cap, cur, rfl, _, hg, _⟩
      · simp [Value.ownBlock] at hk
      · simp only [Value.ownBlock, Option.some.injEq] at hk
        subst hk
        rw [hg] at h
        cases h
        exact hfm.keep _ _ hg (by simp [tag])
    have happ : encIs (dn ++ [v0]) = encIs dn ++ [encV v0] := by rw [encIs_app]; rfl
    have hgl2 : (grown 6 ns (encIs dn ++ [encV v0])).length = (grown 6 ns (encIs dn)).length + (encV v0 (grown 6 ns (encIs dn)).length).length := by
      rw [← hh1]
      unfold hung
      split <;> simp
    repeat (first | refine WL.pp rfl ?_ | refine WL.ns ?_ | refine WC.sr ?_ | refine X.bx ?_ | refine X.bo rfl ?_ | refine WC.exit ?_)
    refine X.again (v9, b2, true, dn ++ [v0], vs') ⟨hva', by simpa using hvs, hv9, (by dsimp only; omega), (by dsimp only; rw [happ]; exact hP11), ?_, hS10.keep (hF10.keep _ _ h2b (by simp [tag])) (Ne.symm hne82), hS10.keep (hF10.keep _ _ h7b (by simp [tag])) (Ne.symm hne78), ?_, hF10'.stN hS10 (by omega) (by omega)⟩ (by dsimp only; omega) ⟨rfl, rfl, rfl, rfl, rfl, trivial⟩
    · dsimp only
      rw [happ, hgl2]
      omega
    · dsimp only
      rw [happ, hh2]
      exact hS10.at_
end
end Go.Proofs.YtaccphdkapmdhaaGreat

namespace Go.Proofs.YtaccphdkapmdhaaGreat
attribute [local irreducible] binOp IntKind.wrap Sem.run

section
attribute [local semireducible] WL WC X WD
variable {all : List Oper} {Q : Exit → Act → World → Prop} {N : Nat} {L L' : Env} {o : Oper} {rest : List Oper} {w : World} {S : World → Prop} {fuel : Nat} {listed : Array Bool}
/-- A call and something else that may come up: either may. -/
theorem WD.brc {i j f : Nat} {oi oj : Oper} {vs : List Value} {R : Ending → World → Prop} {vj : Value} {wj : World} {Lj : Env} (hr : Region.ready .any all.toArray listed = [i, j]) (hi : all[i]? = some oi) (hj : all[j]? = some oj)
    (gi : grd all L oi = some true) (gj : grd all L oj = some true) (hc : callA L oi.op = some (f, vs)) (hf3 : (Nat.ble 3 f && Nat.blt f 150) = true) (h : Calls PP f vs.toArray w R)
    (rj : ∀ a, Fr N L a → (execOp a.eval oj).run PP w = .ok (.value vj) wj) (sj : S wj) (dj : dstE N oj vj L = some Lj)
    (ki : ∀ e w', R e w' → ∃ v L', e = .returned v ∧ dstE N oi v L = some L' ∧ S w' ∧ WD all Q N S fuel (listed.setIfInBounds i true) L' w')
    (kj : WD all Q N S fuel (listed.setIfInBounds j true) Lj wj) : WD all Q N S (fuel + 1) listed L w := fun a hf => by
  refine wpAnyH_all hr (by simp) fun m hm => ?_
  have hm' : m = i ∨ m = j := by simpa using hm
  rcases hm' with rfl | rfl
  · unfold wpOp
    have hi' : (all.toArray)[m]? = some oi := by simpa using hi
    simp only [hi', grd_ok hf gi, if_true]
    refine .inl ?_
    unfold Oper.wp
    rw [callA_run hf hc (callOk_at hf3) w]
    refine h.mono fun e w' hR => ?_
    obtain ⟨v, L', rfl, hd, hS, hk⟩ := ki e w' hR
    exact ⟨hS, hk _ (dstE_ok hf hd)⟩
  · unfold wpOp
    have hj' : (all.toArray)[m]? = some oj := by simpa using hj
    simp only [hj', grd_ok hf gj, if_true]
    refine .inl ?_
    unfold Oper.wp
    rw [rj a hf]
    exact ⟨sj, kj _ (dstE_ok hf dj)⟩
end

theorem Ks.head {b r : Bs} {ks : List Bs} (h : Ks b ks r) : ∃ c t, skipWs b = c :: t ∧ c.toNat ≠ 125 ∧ c.toNat ≠ 10 ∧ c.toNat ≠ 13 ∧ c.toNat ≠ 35 ∧ c.toNat ≠ 44 := by
  have key : ∀ {x k r' : Bs}, KP x k r' → ∃ c t, x = c :: t ∧ c.toNat ≠ 125 ∧ c.toNat ≠ 10 ∧ c.toNat ≠ 13 ∧ c.toNat ≠ 35 ∧ c.toNat ≠ 44 := by
    intro x k r' hk
    cases hk with
    | bare h1 h2 h3 =>
      cases k with
      | nil => exact absurd rfl h1
      | cons c k =>
        have := h2 c (by simp)
        simp only [isBare, decide_eq_true_eq] at this
        exact ⟨c, _, rfl, by omega, by omega, by omega, by omega, by omega⟩
    | lit h => exact ⟨39, _, rfl, by decide, by decide, by decide, by decide, by decide⟩
    | bas h => exact ⟨34, _, rfl, by decide, by decide, by decide, by decide, by decide⟩
  cases h with
  | one h1 h2 => exact key h1
  | dot h1 h2 h3 => exact key h1

section
variable {bd C E : Nat} {dc : Array Value} {fz : Nat × Nat}

set_option maxRecDepth 100000 in
set_option maxHeartbeats 8000000 in
theorem table_any {f : Bool} {n : Nat} (hV : ValC bd C E dc fz f n) (hf : f = false) (pp : Nat) (ad0 : Option Addr) (left : Value) (d : Nat) (ns : List ANode) (v : Value) (b r : Bs) (vs : List (List Bs × Val)) (w : World)
    (hv : Suf bd C E dc v (123 :: b)) (hE : E ≤ 100000000) (hva : VT f d false b vs r) (hn : b.length ≤ n) (hD : w.heap[bd]? = some (.cells dc 5 fz))
    (hP : PS w pp (.slice ad0 E C) left (d : Int) ns) (hm : ns.length + 1 + 3 * b.length ≤ 400000000) :
    Calls PP 122 #[.pointer (some ⟨pp, 0, none⟩), v] w fun e w' => ∃ v', e = .returned (.tuple #[.int .i32 ((ns.length + 1 : Nat) : Int), v', .nilIface]) ∧ Suf bd C E dc v' r ∧
      PS w' pp (.slice ad0 E C) left (d : Int) (grown 7 ns (encEs vs)) ∧ Fm pp [52, 104] w w' := by
  have hC := hv.C63
  have hv' := hv
  have hcons := hv.cons
  subst hcons
  have hle := hv'.le
  have hEC := hv'.EC
  have hpp := hP.lt
  simp only [List.length_cons] at hle
  refine enter (L := [(0, .pointer (some ⟨pp, 0, none⟩)), (1, .slice (some ⟨bd, E - (b.length + 1), none⟩) (b.length + 1) (C - (E - (b.length + 1))))]) Tryz.func122 rfl rfl rfl ⟨rfl, rfl, trivial⟩ ?_
  repeat (refine WC.sr ?_)
  refine WL.bx rfl rfl rfl (fun w1 hA1 => ?_)
  have hb2 : w1.heap[w.heap.size]? = some (.cells ⟨[.pointer (some ⟨pp, 0, none⟩)]⟩ 92 (0, 0)) := hA1.at_
  have hP1 := hP.up (hA1.up (Nat.le_refl _))
  have hF1 : Fm pp [52, 104] w w1 := hA1.fm (by omega)
  have hs1 := hA1.size
  generalize hbx2 : w.heap.size = bx2 at *
  repeat (first | refine WL.pp rfl ?_ | refine WL.ns ?_ | refine WC.cut (x := .region _ _ true) (σ := Nat) (fun bx7 w' => PS w' pp (.slice ad0 E C) left (d : Int) (grown 7 ns []) ∧ w'.heap[bx2]? = some (.cells ⟨[.pointer (some ⟨pp, 0, none⟩)]⟩ 92 (0, 0)) ∧ w'.heap[bx7]? = some (.cells ⟨[.int .i32 ((ns.length + 1 : Nat) : Int)]⟩ 21 (0, 0)) ∧ Fm pp [52, 104] w w' ∧ bx2 < bx7) (fun bx7 => [(1, .slice (some ⟨bd, E - (b.length + 1), none⟩) (b.length + 1) (C - (E - (b.length + 1)))), (2, .pointer (some ⟨bx2, 0, none⟩)), (7, .pointer (some ⟨bx7, 0, none⟩))]) ?_ ?_)
  · refine WC.draw (fun w' => w'.heap[bx2]? = some (.cells ⟨[.pointer (some ⟨pp, 0, none⟩)]⟩ 92 (0, 0))) ?_
    have hb2' : w1.drew.heap[bx2]? = some (.cells ⟨[.pointer (some ⟨pp, 0, none⟩)]⟩ 92 (0, 0)) := hb2
    have hP1' := hP1.sm (Sm.refl w1).drew
    have hF1' : Fm pp [52, 104] w w1.drew := hF1.drew
    have hs1' : w1.drew.heap.size = bx2 + 1 := hs1
    generalize w1.drew = wd at *
    refine WD.tl 0 (v := .pointer (some ⟨pp, 0, none⟩)) rfl (by kernel_rfl) POk.ok hb2' rfl rfl (fun w' hw' => cell_of hw' rfl) rfl ?_
    refine WD.tl 1 (v := .pointer (some ⟨pp, 0, none⟩)) rfl (by kernel_rfl) POk.ok hb2' rfl rfl (fun w' hw' => cell_of hw' rfl) rfl ?_
    refine WD.tp 2 rfl (by kernel_rfl) POk.ok hb2' rfl ?_
    refine WD.ts 3 1 0 rfl (by kernel_rfl) POk.ok hb2' rfl rfl (Sf.mk _ _ _) rfl rfl (by omega) (fun _ => rfl) (fun ad1 hs1 => ?_)
    have hfin : ∀ (bx7 : Nat) (w6 w7 : World), PS w6 pp (.slice ad0 E C) left (d : Int) (ns ++ [⟨7, none, 0, 0⟩]) → w6.heap[bx2]? = some (.cells ⟨[.pointer (some ⟨pp, 0, none⟩)]⟩ 92 (0, 0)) → w6.heap[bx7]? = some (.cells ⟨[.int .i32 0]⟩ 21 (0, 0)) → Fm pp [52, 104] w w6 → bx2 < bx7 →
        St w6 bx7 (.cells ⟨[.int .i32 ((ns.length + 1 : Nat) : Int)]⟩ 21 (0, 0)) w7 → PS w7 pp (.slice ad0 E C) left (d : Int) (grown 7 ns []) ∧ w7.heap[bx2]? = some (.cells ⟨[.pointer (some ⟨pp, 0, none⟩)]⟩ 92 (0, 0)) ∧ w7.heap[bx7]? = some (.cells ⟨[.int .i32 ((ns.length + 1 : Nat) : Int)]⟩ 21 (0, 0)) ∧ Fm pp [52, 104] w w7 ∧ bx2 < bx7 := by
      intro bx7 w6 w7 q1 q2 q3 q4 q5 q6
      refine ⟨q1.fm (B := 0) (T := [21]) (q6.fm q3 (Nat.zero_le _) (by simp [tag]) rfl) (by simp) (by simp) (by simp), q6.keep q2 (by omega), q6.at_, q4.stN q6 (by omega) (by omega), q5⟩
    have stp : ∀ {N : Nat} {L : Env} {o : Oper} (bx7 : Nat) (w6 : World) (a' : Act), w6.heap[bx7]? = some (.cells ⟨[.int .i32 0]⟩ 21 (0, 0)) → Fr N L a' → stA L o.op = some (⟨bx7, 0, none⟩, .int .i32 ((ns.length + 1 : Nat) : Int)) → (execOp a'.eval o).run PP w6 = .ok .skip (w6.setCell ⟨bx7, 0, none⟩ (.int .i32 ((ns.length + 1 : Nat) : Int))) := fun bx7 w6 a' hb hf h => stA_run hf h rfl hb rfl
    have rng : ∀ (wx : World), PS wx pp (.slice ad0 E C) left (d : Int) ns → Calls PP 44 #[.pointer (some ⟨pp, 0, none⟩), .slice ad1 1 (C - (E - (b.length + 1)) - 0)] wx fun e w' => ∃ a b : Int, e = .returned (.agg ⟨[.int .u32 a, .int .u32 b]⟩) ∧ Up wx.heap.size wx w' := fun wx hp => by
      obtain ⟨nv, xs, hpb, _, _⟩ := hp
      exact range_any pp E C ad0 _ _ left nv .nilIface _ wx hpb (hv'.rg 0 1 (by simp) ad1) hC hE
    have psh : ∀ (wx : World) (x y : Int), PS wx pp (.slice ad0 E C) left (d : Int) ns → Calls PP 43 #[.pointer (some ⟨pp, 0, none⟩), .agg ⟨[.int .i64 7, .int .u32 x, .int .u32 y, .slice none 0 0, .pointer none, .int .i32 0, .int .i32 0]⟩] wx fun e w' =>
        e = .returned (.int .i32 ((ns.length + 1 : Nat) : Int)) ∧ PS w' pp (.slice ad0 E C) left (d : Int) (ns ++ [⟨7, none, 0, 0⟩]) ∧ Fm pp [52, 104] wx w' := fun wx x y hp =>
      push_any pp _ left d ns 7 0 0 x y _ none wx hp trivial (fun s hs => by cases hs) (by omega)
    have alo : ∀ {N : Nat} {L : Env} {o : Oper} (wx : World) (a' : Act), Fr N L a' → alA o.op = some (21, [.int .i32 0]) → (execOp a'.eval o).run PP wx = .ok (.value (.pointer (some ⟨wx.heap.size, 0, none⟩))) (wx.alloc (.cells ⟨[.int .i32 0]⟩ 21 (0, 0))) := fun wx a' hf h => alA_run hf h wx
    refine WD.brc (i := 4) (j := 7) (by kernel_rfl) rfl rfl rfl rfl rfl rfl (rng wd hP1') (fun a' hf => alo wd a' hf rfl) ((alloc_al wd _).keep hb2') rfl ?_ ?_
    · rintro e wr ⟨x, y, rfl, hUr⟩
      have hbr := hUr.at (lt_of_heap hb2') hb2'
      have hPr := hP1'.up hUr
      have hFr := hF1'.trans (hUr.fm (B' := pp) (T := [52, 104]) (Nat.le_refl _) (by omega))
      have hszr := hUr.size
      refine ⟨_, _, rfl, rfl, hbr, ?_⟩
      refine WD.tr 5 (v := .agg ⟨[.int .i64 7, .int .u32 x, .int .u32 y, .slice none 0 0, .pointer none, .int .i32 0, .int .i32 0]⟩) rfl (by kernel_rfl) POk.ok hbr rfl (fun w' _ a' hf => by rw [bdA_run hf rfl]; simp [bdNode2]) rfl ?_
      refine WD.brc (i := 6) (j := 7) (by kernel_rfl) rfl rfl rfl rfl rfl rfl (psh wr x y hPr) (fun a' hf => alo wr a' hf rfl) ((alloc_al wr _).keep hbr) rfl ?_ ?_
      · rintro e wp ⟨rfl, hPp, hFp⟩
        have hbp := hFp.keep _ _ hbr (by simp [tag])
        have hszp := hFp.size
        refine ⟨_, _, rfl, rfl, hbp, ?_⟩
        have hAp := alloc_al wp (.cells ⟨[.int .i32 0]⟩ 21 (0, 0))
        refine WD.rv 7 (by kernel_rfl) rfl rfl (fun a' hf => alo wp a' hf rfl) (hAp.keep hbp) rfl ?_
        generalize wp.alloc (.cells ⟨[.int .i32 0]⟩ 21 (0, 0)) = w6 at hAp ⊢
        have hb6 := hAp.keep hbp
        have hP6 := hPp.up (hAp.up (Nat.le_refl _))
        have hF6 := (hFr.trans hFp).trans (hAp.fm (B := pp) (T := [52, 104]) (by omega))
        refine WD.rk 8 (by kernel_rfl) rfl rfl (fun a' hf => stp wp.heap.size _ a' hAp.at_ hf rfl) ((setCell_st _ hAp.at_).keep hb6 (by omega)) rfl ?_
        refine WD.nil (by kernel_rfl) ?_
        exact X.cut wp.heap.size (hfin wp.heap.size _ _ hP6 hb6 hAp.at_ hF6 (by omega) (setCell_st (i := 0) (.int .i32 ((ns.length + 1 : Nat) : Int)) hAp.at_)) ⟨rfl, rfl, rfl, trivial⟩
      · have hAr := alloc_al wr (.cells ⟨[.int .i32 0]⟩ 21 (0, 0))
        generalize wr.alloc (.cells ⟨[.int .i32 0]⟩ 21 (0, 0)) = wa at hAr ⊢
        have hba := hAr.keep hbr
        have hPa := hPr.up (hAr.up (Nat.le_refl _))
        refine WD.rc 6 (by kernel_rfl) rfl rfl rfl rfl (psh wa x y hPa) ?_
        rintro e w6 ⟨rfl, hP6, hFp⟩
        have hb6 := hFp.keep _ _ hba (by simp [tag])
        have hb7 := hFp.keep _ _ hAr.at_ (by simp [tag])
        refine ⟨_, _, rfl, rfl, hb6, ?_⟩
        have hF6 := (hFr.trans (hAr.fm (B := pp) (T := [52, 104]) (by omega))).trans hFp
        refine WD.rk 8 (by kernel_rfl) rfl rfl (fun a' hf => stp wr.heap.size _ a' hb7 hf rfl) ((setCell_st _ hb7).keep hb6 (by omega)) rfl ?_
        refine WD.nil (by kernel_rfl) ?_
        exact X.cut wr.heap.size (hfin wr.heap.size _ _ hP6 hb6 hb7 hF6 (by omega) (setCell_st (i := 0) (.int .i32 ((ns.length + 1 : Nat) : Int)) hb7)) ⟨rfl, rfl, rfl, trivial⟩
    · have hAr := alloc_al wd (.cells ⟨[.int .i32 0]⟩ 21 (0, 0))
      generalize wd.alloc (.cells ⟨[.int .i32 0]⟩ 21 (0, 0)) = wa at hAr ⊢
      have hba := hAr.keep hb2'
      have hPa := hP1'.up (hAr.up (Nat.le_refl _))
      refine WD.rc 4 (by kernel_rfl) rfl rfl rfl rfl (rng wa hPa) ?_
      rintro e wr ⟨x, y, rfl, hUr⟩
      have hbr := hUr.at (lt_of_heap hba) hba
      have hb7r := hUr.at (lt_of_heap hAr.at_) hAr.at_
      have hPr := hPa.up hUr
      have hsza := hAr.size
      refine ⟨_, _, rfl, rfl, hbr, ?_⟩
      refine WD.tr 5 (v := .agg ⟨[.int .i64 7, .int .u32 x, .int .u32 y, .slice none 0 0, .pointer none, .int .i32 0, .int .i32 0]⟩) rfl (by kernel_rfl) POk.ok hbr rfl (fun w' _ a' hf => by rw [bdA_run hf rfl]; simp [bdNode2]) rfl ?_
      refine WD.rc 6 (by kernel_rfl) rfl rfl rfl rfl (psh wr x y hPr) ?_
      rintro e w6 ⟨rfl, hP6, hFp⟩
      have hb6 := hFp.keep _ _ hbr (by simp [tag])
      have hb7 := hFp.keep _ _ hb7r (by simp [tag])
      refine ⟨_, _, rfl, rfl, hb6, ?_⟩
      have hF6 := ((hF1'.trans (hAr.fm (B := pp) (T := [52, 104]) (by omega))).trans (hUr.fm (B' := pp) (T := [52, 104]) (Nat.le_refl _) (by omega))).trans hFp
      refine WD.rk 8 (by kernel_rfl) rfl rfl (fun a' hf => stp wd.heap.size _ a' hb7 hf rfl) ((setCell_st _ hb7).keep hb6 (by omega)) rfl ?_
      refine WD.nil (by kernel_rfl) ?_
      exact X.cut wd.heap.size (hfin wd.heap.size _ _ hP6 hb6 hb7 hF6 (by omega) (setCell_st (i := 0) (.int .i32 ((ns.length + 1 : Nat) : Int)) hb7)) ⟨rfl, rfl, rfl, trivial⟩
  · rintro bx7 w4 ⟨hP4, hb2c, hb7, hF4, h27⟩
    have hs4 : bx7 < w4.heap.size := lt_of_heap hb7
    repeat (first | refine WL.pp rfl ?_ | refine WC.sr ?_)
    refine WL.sS b.length 1 rfl rfl (Sf.mk _ _ _) rfl (by simp; omega) (by omega) (fun _ => rfl) (fun ad' hs' => ?_)
    repeat (first | refine WL.pp rfl ?_ | refine WL.ns ?_ | refine WC.sr ?_)
    refine WL.al rfl rfl rfl (fun w5 hA5 => ?_)
    have hb8 : w5.heap[w4.heap.size]? = some (.cells ⟨[.int .i32 0]⟩ 21 (0, 0)) := hA5.at_
    have hP5 := hP4.up (hA5.up (Nat.le_refl _))
    have hb7b := hA5.keep hb7
    have hb2d := hA5.keep hb2c
    have hF5 : Fm pp [52, 104] w w5 := hF4.trans (hA5.fm (by omega))
    have hne78 : w4.heap.size ≠ bx7 := by omega
    have hne82 : w4.heap.size ≠ bx2 := by omega
    have h8ge : bx2 ≤ w4.heap.size := by omega
    generalize hbx8 : w4.heap.size = bx8 at *
    repeat (first | refine WL.pp rfl ?_ | refine WL.ns ?_ | refine WC.sr ?_ | refine WC.block ?_)
    have hv5 := hv'.tail hs'
    skip
    refine WC.loop (σ := Value × Bs × Bool × List (List Bs × Val) × List (List Bs × Val)) (I := fun s w' => VT f d s.2.2.1 s.2.1 s.2.2.2.2 r ∧ s.2.2.2.1 ++ s.2.2.2.2 = vs ∧ Suf bd C E dc s.1 s.2.1 ∧ s.2.1.length ≤ n ∧ PS w' pp (.slice ad0 E C) left (d : Int) (grown 7 ns (encEs s.2.2.2.1)) ∧
        (grown 7 ns (encEs s.2.2.2.1)).length + 3 * s.2.1.length ≤ 400000000 ∧ w'.heap[bx2]? = some (.cells ⟨[.pointer (some ⟨pp, 0, none⟩)]⟩ 92 (0, 0)) ∧ w'.heap[bx7]? = some (.cells ⟨[.int .i32 ((ns.length + 1 : Nat) : Int)]⟩ 21 (0, 0)) ∧
        w'.heap[bx8]? = some (.cells ⟨[.int .i32 (lastOf ns (encEs s.2.2.2.1) : Int)]⟩ 21 (0, 0)) ∧ Fm pp [52, 104] w w')
      (m := fun s => s.2.1.length) (Lf := fun s => [(1, s.1), (2, .pointer (some ⟨bx2, 0, none⟩)), (7, .pointer (some ⟨bx7, 0, none⟩)), (9, .func (.func 133) #[] #[.pointer (some ⟨bx8, 0, none⟩), .pointer (some ⟨bx2, 0, none⟩), .pointer (some ⟨bx7, 0, none⟩)]), (12, .bool s.2.2.1)]) (_, b, false, [], vs) ⟨hva, rfl, hv5, hn, hP5, by rw [grown_length]; simpa [encEs, forest] using hm, hb2d, hb7b, hb8, hF5⟩ ⟨rfl, rfl, rfl, rfl, rfl, trivial⟩ ?_
    clear hva hv5 hn hP5 hb2d hb7b hb8 hF5 hv hv' hs' hP hP1 hP4 hb2 hb2c hb7 hF1 hF4 hA1 hA5
    rintro ⟨v6, b6, af, dn, rs⟩ w6 ⟨hva, hvs, hv6, hn, hP6, hm6, h2, h7, h8, hF6⟩
    dsimp only at hva hvs hv6 hn hP6 hm6 h2 h7 h8 ⊢
    have hD6 : w6.heap[bd]? = some (.cells dc 5 fz) := hF6.keep _ _ hD (by simp [tag])
    have hskl := skipWs_le b6
    repeat (first | refine WL.pp rfl ?_ | refine WC.sr ?_ | refine WC.block ?_)
    refine WL.call rfl rfl rfl (hv6.skip hD6) ?_
    rintro e w7 ⟨v8, rfl, hv8, rfl⟩
    refine ⟨_, _, rfl, rfl, ?_⟩
    cases hva with
    | close hsk =>
      rw [hsk] at hv8 hskl
      have hcell := hv8.cell hD6
      have hv8' := hv8
      have hcons := hv8.cons
      subst hcons
      have hle8 := hv8'.le
      have hEC8 := hv8'.EC
      simp only [List.length_cons] at hle8 hskl
      have hvs' : dn = vs := by simpa using hvs
      subst hvs'
      repeat (first | refine WL.pp rfl ?_ | refine WL.ns ?_ | refine WC.sr ?_ | refine WC.dT rfl (by first | omega | decide) ?_ | refine WC.dF rfl (by first | omega | decide) ?_ | refine WL.ix (i := 0) rfl rfl rfl (by omega) rfl ?_ | refine WL.ld rfl rfl hcell rfl ?_ | refine WC.seq ?_ | refine WC.block ?_ | refine X.sn ?_ | refine WC.skip ?_)
      refine WC.drx (fun w' => w'.heap[bx7]? = some (.cells ⟨[.int .i32 ((ns.length + 1 : Nat) : Int)]⟩ 21 (0, 0))) ?_
      have h7d : w7.drew.heap[bx7]? = some (.cells ⟨[.int .i32 ((ns.length + 1 : Nat) : Int)]⟩ 21 (0, 0)) := h7
      repeat (first | refine WX.p (by kernel_rfl) (by first | trivial | assumption) rfl ?_ | refine WX.ld (v := .int .i32 ((ns.length + 1 : Nat) : Int)) (by kernel_rfl) (by assumption) rfl rfl (fun w' hw' => cell_of hw' rfl) rfl ?_)
      refine WX.sS r.length 1 (by kernel_rfl) (by assumption) rfl rfl (Sf.mk _ _ _) rfl (by simp; omega) (by omega) (fun _ => rfl) (fun ad3 hs3 => ?_)
      repeat (refine WX.p (by kernel_rfl) (by first | trivial | assumption) rfl ?_)
      refine WX.nil ?_
      repeat (first | refine X.sn ?_ | refine X.sr ?_ | refine X.br ?_ | refine WC.ret ?_)
      refine X.ret_ rfl rfl ⟨_, rfl, hv8'.tail hs3, hP6.sm (Sm.refl _).drew, hF6.drew⟩
    | @comma _ _ b' _ _ hsk hva' =>
      rw [hsk] at hv8 hskl
      have hcell := hv8.cell hD6
      have hv8' := hv8
      have hcons := hv8.cons
      subst hcons
      have hle8 := hv8'.le
      have hEC8 := hv8'.EC
      simp only [List.length_cons] at hle8 hskl
      repeat (first | refine WL.pp rfl ?_ | refine WL.ns ?_ | refine WC.sr ?_ | refine WC.bF rfl (by first | with_reducible rfl | exact Bool.not_true) ?_ | refine WC.dT rfl (by first | omega | decide) ?_ | refine WC.dF rfl (by first | omega | decide) ?_ | refine WL.ix (i := 0) rfl rfl rfl (by omega) rfl ?_ | refine WL.ld rfl rfl hcell rfl ?_ | refine WC.seq ?_ | refine WC.block ?_ | refine X.sn ?_ | refine WC.skip ?_)
      refine WL.sS b'.length 1 rfl rfl (Sf.mk _ _ _) rfl (by simp; omega) (by omega) (fun _ => rfl) (fun ad3 hs3 => ?_)
      repeat (first | refine WL.pp rfl ?_ | refine WL.ns ?_ | refine X.bx ?_ | refine X.bo rfl ?_ | refine WC.exit ?_)
      exact X.again (_, b', false, dn, rs) ⟨hva', hvs, hv8'.tail hs3, (by dsimp only; omega), hP6, (by dsimp only; omega), h2, h7, h8, hF6⟩ (by dsimp only; omega) ⟨rfl, rfl, rfl, rfl, rfl, trivial⟩
    | @ent _ _ b1 b2 _ ks v0 vs' hks0 hv0 hva' =>
      obtain ⟨c, t1, hsk, hcc⟩ := hks0.head
      have hksl := hks0.len.1
      have hsk1 := skipWs_le b1
      have hv8k := hv8
      rw [hsk] at hv8 hskl
      have hcell := hv8.cell hD6
      have hv8' := hv8
      have hcons := hv8.cons
      subst hcons
      have hle8 := hv8'.le
      have hEC8 := hv8'.EC
      simp only [List.length_cons] at hle8 hskl
      obtain ⟨hc1, hc2, hc3, hc4, hc5⟩ := hcc
      have hvl := hv0.len hf ((grown 7 ns (encEs dn)).length + 1 + ks.length)
      have hvt := hv0.lt hf
      have hel := encE_length ks (encV v0) (grown 7 ns (encEs dn)).length
      simp only [List.length_cons] at hksl
      repeat (first | refine WL.pp rfl ?_ | refine WL.ns ?_ | refine WC.sr ?_ | refine WC.bF rfl (by first | with_reducible rfl | exact Bool.not_true) ?_ | refine WC.dF rfl (by first | omega | decide) ?_ | refine WL.ix (i := 0) rfl rfl rfl (by omega) rfl ?_ | refine WL.ld rfl rfl hcell rfl ?_ | refine WL.ldB (b := bx2) (v := .pointer (some ⟨pp, 0, none⟩)) rfl rfl h2 rfl rfl ?_ | refine WC.seq ?_ | refine WC.block ?_ | refine X.sn ?_ | refine WC.skip ?_)
      rw [← hsk] at hv8'
      refine WL.call rfl rfl rfl (keyval_any hV hf pp ad0 left d _ _ b6 b1 b2 ks v0 w7 hv8' hE hks0 hv0 (by omega) hD6 hP6 hm6) ?_
      rintro e w8 ⟨v9, rfl, hv9, hP8, hF8⟩
      refine ⟨_, _, rfl, rfl, ?_⟩
      have h2b := hF8.keep _ _ h2 (by simp [tag])
      have h7b := hF8.keep _ _ h7 (by simp [tag])
      have h8b := hF8.keep _ _ h8 (by simp [tag])
      obtain ⟨hh1, hh2⟩ := hang_eq 7 ns (encEs dn) (encE ks (encV v0)) (encEs_cons dn)
      have hgl := grown_length 7 ns (encEs dn)
      have hlast : lastOf ns (encEs dn) ≤ (grown 7 ns (encEs dn) ++ encE ks (encV v0) (grown 7 ns (encEs dn)).length).length := by
        rw [List.length_append]
        unfold lastOf
        split
        · omega
        · have := lastAt_lt (encEs dn) (ns.length + 1) (by rintro h; simp_all) (encEs_cons dn)
          omega
      repeat (first | refine WL.pp rfl ?_ | refine WL.ns ?_ | refine WC.sr ?_ | refine WC.bF rfl (by first | with_reducible rfl | exact Bool.not_true) ?_ | refine WC.seq ?_ | refine X.sn ?_ | refine WC.skip ?_)
      refine WL.call rfl rfl rfl (hang_any 133 (.inr rfl) pp bx8 bx2 bx7 _ (ns.length + 1) ((grown 7 ns (encEs dn)).length + 1) _ left d _ w8 hP8 (by rw [List.length_append]; omega) h8b h2b h7b ⟨by omega, by rw [List.length_append]; omega⟩ hlast) ?_
      rintro e w9 ⟨rfl, w10, hP10, hF10, hS10⟩
      refine ⟨_, _, rfl, rfl, ?_⟩
      rw [hh1] at hP10
      have hF10' : Fm pp [52, 104] w w10 := (hF6.trans hF8).trans (hF10.mono (Nat.le_refl _) (by simp))
      have h8c := hF10.keep _ _ h8b (by simp [tag])
      have hP11 : PS w9 pp (.slice ad0 E C) left (d : Int) (grown 7 ns (encEs dn ++ [encE ks (encV v0)])) := by
        obtain ⟨nv, xs, q1, q2, q3⟩ := hP10
        have hfm : Fm 0 [21] w10 w9 := hS10.fm h8c (Nat.zero_le _) (by simp [tag]) rfl
        refine ⟨nv, xs, hfm.keep _ _ q1 (by simp [tag]), own_same q2 (fun k o hk h => ?_), q3.fm hfm (by simp)⟩
        rcases q2.2 with ⟨rfl, _⟩ | ⟨g, cap, cur, rfl, _, hg, _⟩
        · simp [Value.ownBlock] at hk
        · simp only [Value.ownBlock, Option.some.injEq] at hk
          subst hk
          rw [hg] at h
          cases h
          exact hfm.keep _ _ hg (by simp [tag])
      have happ : encEs (dn ++ [(ks, v0)]) = encEs dn ++ [encE ks (encV v0)] := by rw [encEs_app]; rfl
      have hgl2 : (grown 7 ns (encEs dn ++ [encE ks (encV v0)])).length = (grown 7 ns (encEs dn)).length + (encE ks (encV v0) (grown 7 ns (encEs dn)).length).length := by
        rw [← hh1]
        unfold hung
        split <;> simp
      repeat (first | refine WL.pp rfl ?_ | refine WL.ns ?_ | refine WC.sr ?_ | refine X.bx ?_ | refine X.bo rfl ?_ | refine WC.exit ?_)
      refine X.again (v9, b2, true, dn ++ [(ks, v0)], vs') ⟨hva', by simpa using hvs, hv9, (by dsimp only; omega), (by dsimp only; rw [happ]; exact hP11), ?_, hS10.keep (hF10.keep _ _ h2b (by simp [tag])) (Ne.symm hne82), hS10.keep (hF10.keep _ _ h7b (by simp [tag])) (Ne.symm hne78), ?_, hF10'.stN hS10 (by omega) (by omega)⟩ (by dsimp only; omega) ⟨rfl, rfl, rfl, rfl, rfl, trivial⟩
      · dsimp only
        rw [happ, hgl2]
        omega
      · dsimp only
        rw [happ, hh2]
        exact hS10.at_
end
end Go.Proofs.YtaccphdkapmdhaaGreat

namespace Go.Proofs.YtaccphdkapmdhaaGreat
attribute [local irreducible] binOp IntKind.wrap Sem.run

theorem grown_arr (ns : List ANode) (vs : List Val) : grown 6 ns (encIs vs) = ns ++ encV (.arr vs) ns.length := by
  have : (encIs vs).isEmpty = vs.isEmpty := by cases vs <;> rfl
  simp [grown, encV, this]
theorem grown_tbl (ns : List ANode) (vs : List (List Bs × Val)) : grown 7 ns (encEs vs) = ns ++ encV (.tbl vs) ns.length := by
  have : (encEs vs).isEmpty = vs.isEmpty := by
    cases vs with
    | nil => rfl
    | cons x l => obtain ⟨ks, v⟩ := x; rfl
  simp [grown, encV, this]

theorem PS.nested {w w' : World} {pp : Nat} {data left : Value} {nest nest' : Int} {ns : List ANode} {nv : Value} {xs : List Value} (h1 : w.heap[pp]? = some (.cells ⟨[.bool false, data, left, nv, .nilIface, .int .i64 nest]⟩ 52 (0, 0))) (h2 : w.ownsRow (pp + 1) 104 7 nv ns.length xs) (h3 : NL w pp ns xs)
    (hS : St w pp (.cells ⟨[.bool false, data, left, nv, .nilIface, .int .i64 nest']⟩ 52 (0, 0)) w') : PS w' pp data left nest' ns ∧ Fm pp [52, 104] w w' := by
  have hf : Fm pp [52, 104] w w' := hS.fm h1 (Nat.le_refl _) (by simp [tag]) rfl
  refine ⟨⟨nv, xs, hS.at_, own_same h2 (fun k o hk h => hS.keep h ?_), h3.fm hf (by simp)⟩, hf⟩
  have := (h2.lt k hk).1
  omega

section
variable {bd C E : Nat} {dc : Array Value} {fz : Nat × Nat}

set_option maxRecDepth 100000 in
set_option maxHeartbeats 8000000 in
theorem value_step {f : Bool} (hf : f = false) (hE : E ≤ 100000000) (n : Nat) (ih : ∀ m, m < n → ValC bd C E dc fz f m) : ValC bd C E dc fz f n := by
  intro pp ad0 left d ns v b r val w hv hva hbn hD hP hm
  have hC := hv.C63
  cases hva with
  | seven h1 h2 =>
    have hcell := hv.cell hD
    have hv' := hv
    have hcons := hv.cons
    subst hcons
    have hle := hv'.le
    have hEC := hv'.EC
    simp only [List.length_cons] at hle hm
    have h55 : (55 : UInt8).toNat = 55 := rfl
    refine enter (L := [(0, .pointer (some ⟨pp, 0, none⟩)), (1, .slice (some ⟨bd, E - (r.length + 1), none⟩) (r.length + 1) (C - (E - (r.length + 1))))]) Tryz.func104 rfl rfl rfl ⟨rfl, rfl, trivial⟩ ?_
    repeat (first | refine WL.pp rfl ?_ | refine WL.ns ?_ | refine WC.sr ?_ | refine WC.dT rfl (by first | omega | decide) ?_ | refine WC.dF rfl (by first | omega | decide) ?_ | refine WL.ix (i := 0) rfl rfl rfl (by omega) rfl ?_ | refine WL.ld rfl rfl hcell rfl ?_ | refine WL.p rfl ?_ | refine WC.seq ?_ | refine WC.block ?_ | refine X.sn ?_ | refine WC.skip ?_ | refine WL.gT rfl rfl (by first | omega | decide) ?_ | refine WL.gF rfl rfl (by first | omega | decide) ?_)
    refine WL.call rfl rfl rfl (dateStart7_any _ r w hv' h2 hD) ?_
    rintro e w1 ⟨rfl, rfl⟩
    refine ⟨_, _, rfl, rfl, ?_⟩
    repeat (first | refine WL.pp rfl ?_ | refine WL.ns ?_ | refine WC.sr ?_ | refine WC.bF rfl (by first | with_reducible rfl | exact Bool.not_true) ?_ | refine X.sn ?_ | refine WC.skip ?_)
    refine WL.call rfl rfl rfl (number7_any pp ad0 left d ns _ r w1 hv' hE h2 hD hP (by omega)) ?_
    rintro e w2 ⟨v', rfl, hv2, hP2, hF2⟩
    refine ⟨_, _, rfl, rfl, ?_⟩
    repeat (first | refine WL.pp rfl ?_ | refine WL.ns ?_ | refine X.br ?_ | refine WC.ret ?_)
    exact X.ret_ rfl rfl ⟨_, rfl, hv2, hP2, hF2⟩
  | str h1 => rw [hf] at h1; cases h1
  | lit h1 => rw [hf] at h1; cases h1
  | mstr h1 => rw [hf] at h1; cases h1
  | mlit h1 => rw [hf] at h1; cases h1
  | tru h1 => rw [hf] at h1; cases h1
  | fls h1 => rw [hf] at h1; cases h1
  | num h1 => rw [hf] at h1; cases h1
  | @arr _ b _ vs h1 h2 =>
    have hcell := hv.cell hD
    have hv' := hv
    have hcons := hv.cons
    subst hcons
    have hle := hv'.le
    have hEC := hv'.EC
    simp only [List.length_cons] at hle hm hbn
    have h91 : (91 : UInt8).toNat = 91 := rfl
    have hlt := hP.lt
    obtain ⟨nv, xs, q1, q2, q3⟩ := hP
    refine enter (L := [(0, .pointer (some ⟨pp, 0, none⟩)), (1, .slice (some ⟨bd, E - (b.length + 1), none⟩) (b.length + 1) (C - (E - (b.length + 1))))]) Tryz.func104 rfl rfl rfl ⟨rfl, rfl, trivial⟩ ?_
    repeat (first | refine WL.pp rfl ?_ | refine WL.ns ?_ | refine WC.sr ?_ | refine WC.bT rfl (by first | with_reducible rfl | exact Bool.not_false) ?_ | refine WC.dF rfl (by first | omega | decide) ?_ | refine WL.ix (i := 0) rfl rfl rfl (by omega) rfl ?_ | refine WL.ld rfl rfl hcell rfl ?_ | refine WL.ldB (b := pp) (v := .int .i64 d) rfl rfl q1 rfl rfl ?_ | refine WL.p rfl ?_ | refine WC.seq ?_ | refine WC.block ?_ | refine X.sn ?_ | refine WC.skip ?_ | refine WL.ad rfl rfl (by omega) rfl ?_ | refine WL.gT rfl rfl (by first | omega | decide) ?_)
    refine WL.stB rfl rfl rfl q1 rfl rfl (fun w1 hS1 => ?_)
    obtain ⟨hP1, hF1⟩ := PS.nested (nest' := ((d + 1 : Nat) : Int)) q1 q2 q3 hS1
    have hD1 : w1.heap[bd]? = some (.cells dc 5 fz) := hF1.keep _ _ hD (by simp [tag])
    repeat (first | refine WL.pp rfl ?_ | refine WL.ns ?_ | refine WC.sr ?_ | refine WC.dT rfl (by first | omega | decide) ?_ | refine WC.seq ?_ | refine WC.reg ?_)
    refine WL.call rfl rfl rfl (array_any (ih b.length (by omega)) hf pp ad0 left (d + 1) ns _ b r vs w1 hv' hE h2 (Nat.le_refl _) hD1 hP1 (by omega)) ?_
    rintro e w2 ⟨v', rfl, hv2, hP2, hF2⟩
    refine ⟨_, _, rfl, rfl, ?_⟩
    obtain ⟨nv2, xs2, p1, p2, p3⟩ := hP2
    repeat (first | refine WL.pp rfl ?_ | refine WL.ns ?_ | refine WC.sr ?_ | refine WL.ldB (b := pp) (v := .int .i64 ((d + 1 : Nat) : Int)) rfl rfl p1 rfl rfl ?_ | refine WL.su rfl rfl (by omega) rfl ?_)
    refine WL.stB rfl rfl rfl p1 rfl rfl (fun w3 hS3 => ?_)
    obtain ⟨hP3, hF3⟩ := PS.nested (nest' := ((d + 1 : Nat) : Int) - 1) p1 p2 p3 hS3
    repeat (first | refine WL.pp rfl ?_ | refine WL.ns ?_ | refine WC.sr ?_ | refine X.br ?_ | refine WC.ret ?_)
    refine X.ret_ rfl rfl ⟨_, rfl, hv2, ?_, (hF1.trans hF2).trans hF3⟩
    rw [← grown_arr]
    have e : ((d + 1 : Nat) : Int) - 1 = (d : Int) := by omega
    rw [e] at hP3
    exact hP3
  | @tbl _ b _ vs h1 h2 =>
    have hcell := hv.cell hD
    have hv' := hv
    have hcons := hv.cons
    subst hcons
    have hle := hv'.le
    have hEC := hv'.EC
    simp only [List.length_cons] at hle hm hbn
    have h123 : (123 : UInt8).toNat = 123 := rfl
    have hlt := hP.lt
    obtain ⟨nv, xs, q1, q2, q3⟩ := hP
    refine enter (L := [(0, .pointer (some ⟨pp, 0, none⟩)), (1, .slice (some ⟨bd, E - (b.length + 1), none⟩) (b.length + 1) (C - (E - (b.length + 1))))]) Tryz.func104 rfl rfl rfl ⟨rfl, rfl, trivial⟩ ?_
    repeat (first | refine WL.pp rfl ?_ | refine WL.ns ?_ | refine WC.sr ?_ | refine WC.dT rfl (by first | omega | decide) ?_ | refine WC.dF rfl (by first | omega | decide) ?_ | refine WL.ix (i := 0) rfl rfl rfl (by omega) rfl ?_ | refine WL.ld rfl rfl hcell rfl ?_ | refine WL.ldB (b := pp) (v := .int .i64 d) rfl rfl q1 rfl rfl ?_ | refine WL.p rfl ?_ | refine WC.seq ?_ | refine WC.block ?_ | refine X.sn ?_ | refine WC.skip ?_ | refine WL.ad rfl rfl (by omega) rfl ?_ | refine WL.gF rfl rfl (by first | omega | decide) ?_)
    refine WL.stB rfl rfl rfl q1 rfl rfl (fun w1 hS1 => ?_)
    obtain ⟨hP1, hF1⟩ := PS.nested (nest' := ((d + 1 : Nat) : Int)) q1 q2 q3 hS1
    have hD1 : w1.heap[bd]? = some (.cells dc 5 fz) := hF1.keep _ _ hD (by simp [tag])
    repeat (first | refine WL.pp rfl ?_ | refine WL.ns ?_ | refine WC.sr ?_ | refine WC.dF rfl (by first | omega | decide) ?_ | refine WC.seq ?_ | refine WC.reg ?_)
    refine WL.call rfl rfl rfl (table_any (ih b.length (by omega)) hf pp ad0 left (d + 1) ns _ b r vs w1 hv' hE h2 (Nat.le_refl _) hD1 hP1 (by omega)) ?_
    rintro e w2 ⟨v', rfl, hv2, hP2, hF2⟩
    refine ⟨_, _, rfl, rfl, ?_⟩
    obtain ⟨nv2, xs2, p1, p2, p3⟩ := hP2
    repeat (first | refine WL.pp rfl ?_ | refine WL.ns ?_ | refine WC.sr ?_ | refine WL.ldB (b := pp) (v := .int .i64 ((d + 1 : Nat) : Int)) rfl rfl p1 rfl rfl ?_ | refine WL.su rfl rfl (by omega) rfl ?_)
    refine WL.stB rfl rfl rfl p1 rfl rfl (fun w3 hS3 => ?_)
    obtain ⟨hP3, hF3⟩ := PS.nested (nest' := ((d + 1 : Nat) : Int) - 1) p1 p2 p3 hS3
    repeat (first | refine WL.pp rfl ?_ | refine WL.ns ?_ | refine WC.sr ?_ | refine X.br ?_ | refine WC.ret ?_)
    refine X.ret_ rfl rfl ⟨_, rfl, hv2, ?_, (hF1.trans hF2).trans hF3⟩
    rw [← grown_tbl]
    have e : ((d + 1 : Nat) : Int) - 1 = (d : Int) := by omega
    rw [e] at hP3
    exact hP3

theorem value_any (hE : E ≤ 100000000) : ∀ n, ValC bd C E dc fz false n := fun n =>
  Nat.strongRecOn n fun n ih => value_step rfl hE n ih
end
end Go.Proofs.YtaccphdkapmdhaaGreat

