/- Keys with points, as nodes. The nodes of lists and tables, hung one behind the other. The number 7. The number 7, as a node. Keys with values, as nodes; what is asked of the walk of values. No condition. -/
import Derived.Test.YtaccphdkapmdhaaGreatP9
import Derived.Test.YtaccphdkapmdhaaGreatP1
namespace Go.Proofs.YtaccphdkapmdhaaGreat
attribute [local irreducible] binOp IntKind.wrap Sem.run

theorem keyNodes_snoc : ∀ (ds : List Bs) (k : Nat) (s : Bs), ds ≠ [] → ∃ u, (keyNodes k ds)[ds.length - 1]? = some ⟨2, some u, 0, 0⟩ ∧
    (keyNodes k ds ++ [(⟨2, some s, 0, 0⟩ : ANode)]).set (ds.length - 1) ⟨2, some u, k + ds.length + 1, 0⟩ = keyNodes k (ds ++ [s])
  | [], _, _, h => absurd rfl h
  | [x], k, s, _ => ⟨x, rfl, rfl⟩
  | x :: y :: l, k, s, _ => by
    obtain ⟨u, h1, h2⟩ := keyNodes_snoc (y :: l) (k + 1) s (by simp)
    refine ⟨u, ?_, ?_⟩
    · simp only [keyNodes, List.length_cons, Nat.add_sub_cancel] at h1 ⊢
      rw [List.getElem?_cons_succ]
      simpa using h1
    · simp only [keyNodes, List.length_cons, Nat.add_sub_cancel, List.cons_append] at h2 ⊢
      rw [List.set_cons_succ]
      have e : k + (l.length + 1 + 1) + 1 = k + 1 + (l.length + 1) + 1 := by omega
      rw [e, h2]

theorem ns_snoc (ns : List ANode) (ds : List Bs) (s : Bs) (h : ds ≠ []) : ∃ u, (ns ++ keyNodes ns.length ds ++ [(⟨2, some s, 0, 0⟩ : ANode)])[ns.length + ds.length - 1]? = some ⟨2, some u, 0, 0⟩ ∧
    (ns ++ keyNodes ns.length ds ++ [(⟨2, some s, 0, 0⟩ : ANode)]).set (ns.length + ds.length - 1) ⟨2, some u, ns.length + ds.length + 1, 0⟩ = ns ++ keyNodes ns.length (ds ++ [s]) := by
  obtain ⟨u, h1, h2⟩ := keyNodes_snoc ds ns.length s h
  have hpos : 0 < ds.length := List.length_pos_iff.2 h
  have e : ns.length + ds.length - 1 - ns.length = ds.length - 1 := by omega
  refine ⟨u, ?_, ?_⟩
  · rw [List.append_assoc, List.getElem?_append_right (by omega), e, List.getElem?_append_left (by rw [keyNodes_length]; omega)]
    exact h1
  · rw [List.append_assoc, List.set_append_right _ _ (by omega), e, h2]

section
variable {bd C E : Nat} {dc : Array Value} {fz : Nat × Nat}

theorem Suf.skip {v l} (h : Suf bd C E dc v l) {w : World} (hD : w.heap[bd]? = some (.cells dc 5 fz)) : Calls PP 39 #[v] w fun e w' => ∃ v', e = .returned v' ∧ Suf bd C E dc v' (skipWs l) ∧ w' = w := skip_any v l w h hD

set_option maxRecDepth 100000 in
set_option maxHeartbeats 8000000 in
theorem key_any (pp : Nat) (ad0 : Option Addr) (left : Value) (nest : Int) (ns : List ANode) (v : Value) (b r : Bs) (ks : List Bs) (w : World) (hv : Suf bd C E dc v (skipWs b)) (hE : E ≤ 100000000) (hk : Ks b ks r) (hD : w.heap[bd]? = some (.cells dc 5 fz))
    (hP : PS w pp (.slice ad0 E C) left nest ns) (hm : ns.length + ks.length ≤ 400000000) :
    Calls PP 101 #[.pointer (some ⟨pp, 0, none⟩), v] w fun e w' => ∃ v', e = .returned (.tuple #[.int .i32 ((ns.length + 1 : Nat) : Int), v', .nilIface]) ∧ Suf bd C E dc v' r ∧ PS w' pp (.slice ad0 E C) left nest (ns ++ keyNodes ns.length ks) ∧ Fm pp [52, 104] w w' := by
  have hC := hv.C63
  refine enter (L := [(0, .pointer (some ⟨pp, 0, none⟩)), (1, v)]) Tryz.func101 rfl rfl rfl ⟨rfl, rfl, trivial⟩ ?_
  repeat (first | refine WL.pp rfl ?_ | refine WL.ns ?_ | refine WC.sr ?_ | refine WC.block ?_)
  refine WC.loop (σ := Value × Bs × List Bs × List Bs) (I := fun s w' => Ks s.2.1 s.2.2.2 r ∧ s.2.2.1 ++ s.2.2.2 = ks ∧ Suf bd C E dc s.1 (skipWs s.2.1) ∧ PS w' pp (.slice ad0 E C) left nest (ns ++ keyNodes ns.length s.2.2.1) ∧ Fm pp [52, 104] w w')
    (m := fun s => s.2.2.2.length) (Lf := fun s => [(0, .pointer (some ⟨pp, 0, none⟩)), (1, s.1), (7, .int .i32 ((if s.2.2.1 = [] then 0 else ns.length + 1 : Nat) : Int)), (8, .int .i32 ((if s.2.2.1 = [] then 0 else ns.length + s.2.2.1.length : Nat) : Int))])
    (v, b, [], ks) ⟨hk, rfl, hv, by simpa [keyNodes] using hP, Fm.refl _ _ _⟩ ⟨rfl, rfl, rfl, rfl, trivial⟩ ?_
  clear hP hv hk
  rintro ⟨v1, b1, ds, kc⟩ w1 ⟨hk, hks, hv, hP, hF⟩
  dsimp only at hk hks hv hP hF ⊢
  have hD1 : w1.heap[bd]? = some (.cells dc 5 fz) := hF.keep _ _ hD (by simp [tag])
  have hlen : (ns ++ keyNodes ns.length ds).length = ns.length + ds.length := by rw [List.length_append, keyNodes_length]
  have hksl := congrArg List.length hks
  rw [List.length_append] at hksl
  have step : ∀ (k : Bs) (rest : List Bs) (r1 : Bs), kc = k :: rest → KP (skipWs b1) k r1 → Calls PP 115 #[.pointer (some ⟨pp, 0, none⟩), v1] w1 fun e w' => ∃ v', e = .returned (.tuple #[.int .i32 ((ns.length + ds.length + 1 : Nat) : Int), v', .nilIface]) ∧ Suf bd C E dc v' r1 ∧
      PS w' pp (.slice ad0 E C) left nest (ns ++ keyNodes ns.length ds ++ [⟨2, some k, 0, 0⟩]) ∧ Fm pp [52, 104] w1 w' := fun k rest r1 hkc hkp => by
    have := simpleKey_any pp ad0 left nest (ns ++ keyNodes ns.length ds) v1 (skipWs b1) k r1 w1 hv hE hkp hD1 hP (by rw [hlen]; omega)
    rw [hlen] at this
    exact this
  obtain ⟨k, rest, r1, rfl, hkp, hrest⟩ : ∃ k rest r1, kc = k :: rest ∧ KP (skipWs b1) k r1 ∧ ((rest = [] ∧ (skipWs r1).head? ≠ some 46 ∧ r = skipWs r1) ∨ (∃ r', skipWs r1 = 46 :: r' ∧ Ks r' rest r)) := by
    cases hk with
    | one h1 h2 => exact ⟨_, _, _, rfl, h1, .inl ⟨rfl, h2, rfl⟩⟩
    | dot h1 h2 h3 => exact ⟨_, _, _, rfl, h1, .inr ⟨_, h2, h3⟩⟩
  clear hk
  simp only [List.length_cons] at hksl
  repeat (first | refine WL.pp rfl ?_ | refine WC.sr ?_ | refine WC.block ?_)
  refine WL.call rfl rfl rfl (step k rest r1 rfl hkp) ?_
  rintro e w2 ⟨v2, rfl, hv2, hP2, hF2⟩
  refine ⟨_, _, rfl, rfl, ?_⟩
  have hD2 : w2.heap[bd]? = some (.cells dc 5 fz) := hF2.keep _ _ hD1 (by simp [tag])
  have hF12 := hF.trans hF2
  repeat (first | refine WL.pp rfl ?_ | refine WL.ns ?_ | refine WC.sr ?_ | refine WC.bF rfl (by first | with_reducible rfl | exact Bool.not_true) ?_ | refine WC.cut (x := .seq _ (.cond (.tmp 23) _ _)) (σ := Unit) (fun _ w' => PS w' pp (.slice ad0 E C) left nest (ns ++ keyNodes ns.length (ds ++ [k])) ∧ Fm pp [52, 104] w w') (fun _ => [(0, .pointer (some ⟨pp, 0, none⟩)), (7, .int .i32 ((ns.length + 1 : Nat) : Int)), (9, .int .i32 ((ns.length + ds.length + 1 : Nat) : Int)), (10, v2)]) ?_ ?_ | refine WC.seq ?_ | refine X.sn ?_ | refine WC.skip ?_)
  · by_cases hds : ds = []
    · rw [if_pos hds, if_pos hds]
      repeat (first | refine WL.pp rfl ?_ | refine WC.dT rfl (by first | omega | decide) ?_ | refine WC.reg ?_ | refine WL.nil ?_)
      refine X.cut () ⟨?_, hF12⟩ ⟨rfl, ?_, rfl, rfl, trivial⟩
      · subst hds
        simpa [keyNodes] using hP2
      · subst hds; rfl
    · rw [if_neg hds, if_neg hds]
      have hpos : 0 < ds.length := List.length_pos_iff.2 hds
      obtain ⟨u, hu1, hu2⟩ := ns_snoc ns ds k hds
      obtain ⟨g, cap, cur, xs, hb, hpg, hgb, hc1, hc2, hcs, hct, hxl, hN⟩ := hP2.open (by simp; omega)
      have hlen2 : (ns ++ keyNodes ns.length ds ++ [(⟨2, some k, 0, 0⟩ : ANode)]).length = ns.length + ds.length + 1 := by rw [List.length_append, hlen]; rfl
      repeat (first | refine WL.pp rfl ?_ | refine WC.dF rfl (by first | omega | decide) ?_ | refine WC.reg ?_)
      refine WL.call rfl rfl rfl (at_any pp g _ cap (ns.length + ds.length) (ns.length + ds.length - 1) _ _ _ _ _ w2 hb (by omega) (by rw [hlen2]; omega) (by rw [hlen2]; omega)) ?_
      rintro e w3 ⟨rfl, rfl⟩
      refine ⟨_, _, rfl, rfl, ?_⟩
      repeat (refine WL.pp rfl ?_)
      have hcur : (ns.length + ds.length - 1) * 7 + 5 < cur.size := by rw [hcs]; omega
      refine WL.stB rfl rfl rfl hgb (Array.getElem?_eq_getElem hcur) rfl (fun w4 hS => ?_)
      repeat (refine WL.nil ?_)
      refine X.cut () ⟨?_, hF12.trans (hS.fm hgb (by omega) (by simp [tag]) rfl)⟩ ⟨rfl, rfl, rfl, rfl, trivial⟩
      rw [← hu2]
      refine PS.stored hb hpg hgb hc1 hc2 (by simpa using hcs) (by simp) hS ?_
      have := hN.setNext (ns.length + ds.length - 1) (ns.length + ds.length + 1) hu1
      rw [take_set, hct]
      exact this
  · rintro _ w3 ⟨hP3, hF3⟩
    have hD3 : w3.heap[bd]? = some (.cells dc 5 fz) := hF3.keep _ _ hD (by simp [tag])
    repeat (first | refine WL.pp rfl ?_ | refine WL.ns ?_ | refine WC.sr ?_)
    refine WL.call rfl rfl rfl (hv2.skip hD3) ?_
    rintro e w4 ⟨v4, rfl, hv4, rfl⟩
    refine ⟨_, _, rfl, rfl, ?_⟩
    rcases hrest with ⟨rfl, hh, rfl⟩ | ⟨r', hr', hks'⟩
    · rw [hks] at hP3
      cases hsk : skipWs r1 with
      | nil =>
        rw [hsk] at hv4
        obtain ⟨ad4, rfl, hs4⟩ := hv4.nil
        repeat (first | refine WL.pp rfl ?_ | refine WL.ns ?_ | refine WC.sr ?_ | refine WC.bF rfl (by first | with_reducible rfl | exact Bool.not_true) ?_ | refine WL.p rfl ?_ | refine WC.seq ?_ | refine X.sn ?_ | refine X.sr ?_ | refine X.br ?_ | refine WC.skip ?_ | refine WC.ret ?_ | refine WL.gF rfl rfl (by first | omega | decide) ?_)
        refine X.ret_ rfl rfl ⟨_, rfl, hv4, hP3, hF3⟩
      | cons c r2 =>
        rw [hsk] at hv4 hh
        have hc46 : c.toNat ≠ 46 := fun e => hh (by
          have : c = 46 := UInt8.toNat_inj.1 e
          rw [this]; rfl)
        have hcell := hv4.cell hD3
        have hv4' := hv4
        have hcons := hv4.cons
        subst hcons
        have hle := hv4'.le
        simp only [List.length_cons] at hle
        repeat (first | refine WL.pp rfl ?_ | refine WL.ns ?_ | refine WC.sr ?_ | refine WC.dF rfl (by first | omega | decide) ?_ | refine WL.ix (i := 0) rfl rfl rfl (by omega) rfl ?_ | refine WL.ld rfl rfl hcell rfl ?_ | refine WL.p rfl ?_ | refine WC.seq ?_ | refine X.sn ?_ | refine X.sr ?_ | refine X.br ?_ | refine WC.skip ?_ | refine WC.ret ?_ | refine WL.gT rfl rfl (by first | omega | decide) ?_)
        exact X.ret_ rfl rfl ⟨_, rfl, hv4', hP3, hF3⟩
    · rw [hr'] at hv4
      have hcell := hv4.cell hD3
      have hv4' := hv4
      have hcons := hv4.cons
      subst hcons
      have hle := hv4'.le
      have hEC := hv4'.EC
      simp only [List.length_cons] at hle
      repeat (first | refine WL.pp rfl ?_ | refine WL.ns ?_ | refine WC.sr ?_ | refine WC.dT rfl (by first | omega | decide) ?_ | refine WL.ix (i := 0) rfl rfl rfl (by omega) rfl ?_ | refine WL.ld rfl rfl hcell rfl ?_ | refine WL.p rfl ?_ | refine WC.seq ?_ | refine WL.gT rfl rfl (by first | omega | decide) ?_)
      refine WL.sS r'.length 1 rfl rfl (Sf.mk _ _ _) rfl (by simp; omega) (by omega) (fun _ => rfl) (fun ad' hs' => ?_)
      skip
      refine WL.call rfl rfl rfl ((hv4'.tail hs').skip hD3) ?_
      rintro e w5 ⟨v5, rfl, hv5, rfl⟩
      refine ⟨_, _, rfl, rfl, ?_⟩
      repeat (first | refine WL.pp rfl ?_ | refine WL.ns ?_ | refine X.sx ?_ | refine X.bx ?_ | refine WC.exit ?_)
      have hne : ds ++ [k] ≠ [] := by simp
      refine X.again (v5, r', ds ++ [k], rest) ⟨hks', by simpa using hks, hv5, hP3, hF3⟩ (by simp) ⟨rfl, rfl, ?_, ?_, trivial⟩
      · rw [if_neg hne]; rfl
      · rw [if_neg hne, List.length_append]; rfl
end
end Go.Proofs.YtaccphdkapmdhaaGreat

namespace Go.Proofs.YtaccphdkapmdhaaGreat
attribute [local irreducible] binOp IntKind.wrap Sem.run

/-- A child is hung in: below the node ar where it is the first, else behind the last one. -/
def hung (ns : List ANode) (ar lc h : Nat) : List ANode :=
  if lc = 0 then ns.modify (ar - 1) (fun a => { a with child := h }) else ns.modify (lc - 1) (fun a => { a with next := h })

theorem modify_set : ∀ {ns : List ANode} {i : Nat} {a : ANode} (f : ANode → ANode), ns[i]? = some a → ns.modify i f = ns.set i (f a)
  | [], i, a, f, h => by simp at h
  | b :: l, 0, a, f, h => by
    simp only [List.getElem?_cons_zero, Option.some.injEq] at h
    subst h
    simp
  | b :: l, i + 1, a, f, h => by
    rw [List.getElem?_cons_succ] at h
    simp only [List.modify_succ_cons, List.set_cons_succ]
    rw [modify_set f h]

set_option maxRecDepth 100000 in
set_option maxHeartbeats 4000000 in
theorem hang_any (fn : Nat) (hfn : fn = 132 ∨ fn = 133) (pp b1 b2 b3 lc ar h : Nat) (data left : Value) (nest : Int) (ns : List ANode) (w : World) (hP : PS w pp data left nest ns) (hm : ns.length ≤ 400000000)
    (h1 : w.heap[b1]? = some (.cells ⟨[.int .i32 lc]⟩ 21 (0, 0))) (h2 : w.heap[b2]? = some (.cells ⟨[.pointer (some ⟨pp, 0, none⟩)]⟩ 92 (0, 0))) (h3 : w.heap[b3]? = some (.cells ⟨[.int .i32 ar]⟩ 21 (0, 0)))
    (har : 0 < ar ∧ ar ≤ ns.length) (hlc : lc ≤ ns.length) :
    Calls PP fn #[.int .i32 h, .pointer (some ⟨b1, 0, none⟩), .pointer (some ⟨b2, 0, none⟩), .pointer (some ⟨b3, 0, none⟩)] w fun e w' => e = .returned (.tuple #[]) ∧ ∃ w1, PS w1 pp data left nest (hung ns ar lc h) ∧ Fm pp [104] w w1 ∧ St w1 b1 (.cells ⟨[.int .i32 h]⟩ 21 (0, 0)) w' := by
  obtain ⟨g, cap, cur, xs, hb, hpg, hgb, hc1, hc2, hcs, hct, hxl, hN⟩ := hP.open (by omega)
  have hg1 : b1 ≠ g := fun e => by subst e; rw [h1] at hgb; simp at hgb
  have main : ∀ (i f : Nat) (u : Value), i < ns.length → 5 ≤ f → f < 7 → (f = 6 ↔ lc = 0) → (lc = 0 → ar = i + 1) → (lc ≠ 0 → lc = i + 1) → ∃ hc : i * 7 + f < cur.size, ∀ w2, St w g (.cells (cur.setIfInBounds (i * 7 + f) (.int .i32 h)) 104 (0, 0)) w2 → PS w2 pp data left nest (hung ns ar lc h) ∧ Fm pp [104] w w2 := by
    intro i f u hi hf5 hf7 hf hA hB
    refine ⟨by rw [hcs]; omega, fun w2 hS => ⟨?_, hS.fm hgb (by omega) (by simp [tag]) rfl⟩⟩
    obtain ⟨a, ha⟩ : ∃ a, ns[i]? = some a := ⟨_, List.getElem?_eq_getElem hi⟩
    by_cases h0 : lc = 0
    · have hf6 := hf.2 h0
      have := hA h0
      have e : hung ns ar lc h = ns.set i { a with child := h } := by
        unfold hung
        rw [if_pos h0, show ar - 1 = i by omega, modify_set _ ha]
      rw [e]
      subst hf6
      refine PS.stored hb hpg hgb hc1 hc2 (by simpa using hcs) (by simp) hS ?_
      rw [take_set, hct]
      exact hN.setChild i h ha
    · have hf5' : f = 5 := by
        rcases Nat.lt_or_ge f 6 with h' | h'
        · omega
        · exact absurd (hf.1 (by omega)) h0
      have := hB h0
      have e : hung ns ar lc h = ns.set i { a with next := h } := by
        unfold hung
        rw [if_neg h0, show lc - 1 = i by omega, modify_set _ ha]
      rw [e]
      subst hf5'
      refine PS.stored hb hpg hgb hc1 hc2 (by simpa using hcs) (by simp) hS ?_
      rw [take_set, hct]
      exact hN.setNext i h ha
  rcases hfn with rfl | rfl
  all_goals
    by_cases h0 : lc = 0
    · obtain ⟨hc, hfin⟩ := main (ar - 1) 6 (.int .i32 0) (by omega) (by omega) (by omega) ⟨fun _ => h0, fun _ => rfl⟩ (by omega) (by omega)
      first
        | refine enter (L := [(0, .int .i32 h), (1, .pointer (some ⟨b1, 0, none⟩)), (2, .pointer (some ⟨b2, 0, none⟩)), (3, .pointer (some ⟨b3, 0, none⟩))]) Tryz.func132 rfl rfl rfl ⟨rfl, rfl, rfl, rfl, trivial⟩ ?_
        | refine enter (L := [(0, .int .i32 h), (1, .pointer (some ⟨b1, 0, none⟩)), (2, .pointer (some ⟨b2, 0, none⟩)), (3, .pointer (some ⟨b3, 0, none⟩))]) Tryz.func133 rfl rfl rfl ⟨rfl, rfl, rfl, rfl, trivial⟩ ?_
      repeat (first | refine WL.pp rfl ?_ | refine WL.ns ?_ | refine WC.sr ?_ | refine WC.dT rfl (by first | omega | decide) ?_ | refine WL.ldB (b := b1) (v := .int .i32 lc) rfl rfl h1 rfl rfl ?_ | refine WL.ldB (b := b2) (v := .pointer (some ⟨pp, 0, none⟩)) rfl rfl h2 rfl rfl ?_ | refine WL.ldB (b := b3) (v := .int .i32 ar) rfl rfl h3 rfl rfl ?_ | refine WC.seq ?_ | refine WC.reg ?_)
      refine WL.call rfl rfl rfl (at_any pp g _ cap ar (ar - 1) _ _ _ _ _ w hb (by omega) (by omega) (by omega)) ?_
      rintro e w1 ⟨rfl, rfl⟩
      refine ⟨_, _, rfl, rfl, ?_⟩
      repeat (refine WL.pp rfl ?_)
      refine WL.stB rfl rfl rfl hgb (Array.getElem?_eq_getElem hc) rfl (fun w2 hS => ?_)
      obtain ⟨hP2, hF2⟩ := hfin w2 hS
      repeat (first | refine WL.pp rfl ?_ | refine WL.ns ?_ | refine WC.reg ?_)
      refine WL.stB rfl rfl rfl (hS.keep h1 hg1) rfl rfl (fun w3 hS3 => ?_)
      repeat (refine WL.nil ?_)
      exact X.end_ rfl rfl ⟨rfl, w2, hP2, hF2, hS3⟩
    · obtain ⟨hc, hfin⟩ := main (lc - 1) 5 (.int .i32 0) (by omega) (by omega) (by omega) ⟨fun h => by omega, fun h => absurd h h0⟩ (by omega) (by omega)
      first
        | refine enter (L := [(0, .int .i32 h), (1, .pointer (some ⟨b1, 0, none⟩)), (2, .pointer (some ⟨b2, 0, none⟩)), (3, .pointer (some ⟨b3, 0, none⟩))]) Tryz.func132 rfl rfl rfl ⟨rfl, rfl, rfl, rfl, trivial⟩ ?_
        | refine enter (L := [(0, .int .i32 h), (1, .pointer (some ⟨b1, 0, none⟩)), (2, .pointer (some ⟨b2, 0, none⟩)), (3, .pointer (some ⟨b3, 0, none⟩))]) Tryz.func133 rfl rfl rfl ⟨rfl, rfl, rfl, rfl, trivial⟩ ?_
      repeat (first | refine WL.pp rfl ?_ | refine WL.ns ?_ | refine WC.sr ?_ | refine WC.dF rfl (by first | omega | decide) ?_ | refine WL.ldB (b := b1) (v := .int .i32 lc) rfl rfl h1 rfl rfl ?_ | refine WL.ldB (b := b2) (v := .pointer (some ⟨pp, 0, none⟩)) rfl rfl h2 rfl rfl ?_ | refine WC.seq ?_ | refine WC.reg ?_)
      refine WL.call rfl rfl rfl (at_any pp g _ cap lc (lc - 1) _ _ _ _ _ w hb (by omega) (by omega) (by omega)) ?_
      rintro e w1 ⟨rfl, rfl⟩
      refine ⟨_, _, rfl, rfl, ?_⟩
      repeat (refine WL.pp rfl ?_)
      refine WL.stB rfl rfl rfl hgb (Array.getElem?_eq_getElem hc) rfl (fun w2 hS => ?_)
      obtain ⟨hP2, hF2⟩ := hfin w2 hS
      repeat (first | refine WL.pp rfl ?_ | refine WL.ns ?_ | refine WC.reg ?_)
      refine WL.stB rfl rfl rfl (hS.keep h1 hg1) rfl rfl (fun w3 hS3 => ?_)
      repeat (refine WL.nil ?_)
      exact X.end_ rfl rfl ⟨rfl, w2, hP2, hF2, hS3⟩
end Go.Proofs.YtaccphdkapmdhaaGreat

namespace Go.Proofs.YtaccphdkapmdhaaGreat
attribute [local irreducible] binOp IntKind.wrap Sem.run

set_option maxHeartbeats 4000000 in
theorem isDigit_any (c : UInt8) (w : World) : Calls PP 135 #[u8 c] w fun e w' => e = .returned (.bool (isDig c)) ∧ w' = w := by
  refine enter (L := [(0, u8 c)]) Tryz.func135 rfl rfl rfl ⟨rfl, trivial⟩ ?_
  have key : c.toNat < 48 ∨ (48 ≤ c.toNat ∧ c.toNat ≤ 57) ∨ 57 < c.toNat := by omega
  rcases key with h | h | h
  all_goals
    repeat (first | refine WL.pp rfl ?_ | refine WL.ns ?_ | refine WC.sr ?_ | refine WL.p rfl ?_ | refine WC.ret ?_ | refine WL.gT rfl rfl (by first | omega | decide) ?_ | refine WL.gF rfl rfl (by first | omega | decide) ?_)
    refine X.ret_ rfl rfl ⟨?_, rfl⟩
    refine congrArg Ending.returned (congrArg Value.bool ?_)
    first
      | (rw [dc_of (by omega)]; simp only [isDig]; symm; rw [decide_eq_true_eq]; omega)
      | (rw [dc_not (by omega)]; simp only [isDig]; symm; rw [decide_eq_false_iff_not]; omega)
      | (simp only [isDig]; symm; rw [decide_eq_false_iff_not]; omega)

section
variable {bd C E : Nat} {dc : Array Value} {fz : Nat × Nat}

theorem Suf.c1 {v a c l} (h : Suf bd C E dc v (a :: c :: l)) {w : World} (hD : w.heap[bd]? = some (.cells dc 5 fz)) : w.cell? ⟨bd, E - ((c :: l).length + 1) + 1 * 1, none⟩ = some (u8 c) := h.at hD (i := 1) rfl

theorem isDig_not {c : UInt8} (h : c.toNat = 9 ∨ c.toNat = 10 ∨ c.toNat = 13 ∨ c.toNat = 32 ∨ c.toNat = 35 ∨ c.toNat = 44 ∨ c.toNat = 93 ∨ c.toNat = 125) : isDig c = false := by
  simp only [isDig, decide_eq_false_iff_not]; omega

set_option maxRecDepth 100000 in
set_option maxHeartbeats 4000000 in
theorem digits7_any (v : Value) (r : Bs) (w : World) (hv : Suf bd C E dc v (55 :: r)) (hf : Fol r) (hD : w.heap[bd]? = some (.cells dc 5 fz)) :
    Calls PP 144 #[v, .int .i64 1, .func (.func 135) #[] #[]] w fun e w' => e = .returned (.tuple #[.int .i64 1, .nilIface]) ∧ w' = w := by
  have hC := hv.C63
  have hv' := hv
  have hcons := hv.cons
  subst hcons
  have hle := hv'.le
  have hEC := hv'.EC
  simp only [List.length_cons] at hle
  refine enter (L := [(0, .slice (some ⟨bd, E - (r.length + 1), none⟩) (r.length + 1) (C - (E - (r.length + 1)))), (1, .int .i64 1), (2, .func (.func 135) #[] #[])]) Tryz.func144 rfl rfl rfl ⟨rfl, rfl, rfl, trivial⟩ ?_
  repeat (first | refine WL.pp rfl ?_ | refine WL.ns ?_ | refine WC.sr ?_ | refine WC.seq ?_ | refine WC.block ?_)
  refine WC.loop (σ := Unit) (I := fun _ w' => w' = w) (m := fun _ => 0) (Lf := fun _ => [(0, .slice (some ⟨bd, E - (r.length + 1), none⟩) (r.length + 1) (C - (E - (r.length + 1)))), (1, .int .i64 1), (2, .func (.func 135) #[] #[])]) () rfl ⟨rfl, rfl, rfl, trivial⟩ ?_
  rintro _ w1 rfl
  rcases hf with rfl | ⟨c, t, rfl, hc⟩
  · simp only [List.length_nil] at *
    repeat (first | refine WL.pp rfl ?_ | refine WL.ns ?_ | refine WC.sr ?_ | refine WC.dF rfl (by first | omega | decide) ?_ | refine WC.seq ?_ | refine X.sn ?_ | refine X.sx ?_ | refine X.bx ?_ | refine WC.exit ?_ | refine WC.ret ?_)
    exact X.ret_ rfl rfl ⟨rfl, rfl⟩
  · have hc1 := hv'.c1 hD
    have hnd := isDig_not hc
    simp only [List.length_cons] at *
    repeat (first | refine WL.pp rfl ?_ | refine WL.ns ?_ | refine WC.sr ?_ | refine WC.dT rfl (by first | omega | decide) ?_ | refine WL.ix (i := 1) rfl rfl rfl (by omega) rfl ?_ | refine WL.ld rfl rfl hc1 rfl ?_ | refine WC.seq ?_ | refine WC.block ?_ | refine X.sn ?_ | refine WC.skip ?_)
    refine WL.call rfl rfl rfl (isDigit_any c w1) ?_
    rintro e w2 ⟨rfl, rfl⟩
    rw [hnd]
    refine ⟨_, _, rfl, rfl, ?_⟩
    repeat (first | refine WL.pp rfl ?_ | refine WL.ns ?_ | refine WC.sr ?_ | refine WC.bF rfl (by first | with_reducible rfl | exact Bool.not_true) ?_ | refine WC.dF rfl (by first | omega | decide) ?_ | refine WC.seq ?_ | refine X.sn ?_ | refine X.sx ?_ | refine X.bx ?_ | refine X.bo rfl ?_ | refine WC.skip ?_ | refine WC.exit ?_ | refine WC.ret ?_)
    exact X.ret_ rfl rfl ⟨rfl, rfl⟩

set_option maxRecDepth 100000 in
set_option maxHeartbeats 8000000 in
theorem scan7_any (v : Value) (r : Bs) (w : World) (hv : Suf bd C E dc v (55 :: r)) (hf : Fol r) (hD : w.heap[bd]? = some (.cells dc 5 fz)) :
    Calls PP 134 #[v] w fun e w' => ∃ v1 v2 v3, e = .returned (.tuple #[.int .i64 11, v1, v2, v3, .nilIface]) ∧ Rg C E v1 ∧ RB w' v1 [55] ∧ Suf bd C E dc v3 r ∧ Sm w w' := by
  have hC := hv.C63
  have hv' := hv
  have hcons := hv.cons
  subst hcons
  have hle := hv'.le
  have hEC := hv'.EC
  have hc0 := hv'.cell hD
  simp only [List.length_cons] at hle
  refine enter (L := [(0, .slice (some ⟨bd, E - (r.length + 1), none⟩) (r.length + 1) (C - (E - (r.length + 1))))]) Tryz.func134 rfl rfl rfl ⟨rfl, trivial⟩ ?_
  have h55 : (55 : UInt8).toNat = 55 := rfl
  repeat (first | refine WL.pp rfl ?_ | refine WL.ns ?_ | refine WC.sr ?_ | refine WC.dF rfl (by first | omega | decide) ?_ | refine WL.ix (i := 0) rfl rfl rfl (by omega) rfl ?_ | refine WL.ld rfl rfl hc0 rfl ?_ | refine WL.p rfl ?_ | refine WC.seq ?_ | refine X.sn ?_ | refine WC.skip ?_ | refine WL.gF rfl rfl (by first | omega | decide) ?_)
  refine WL.call rfl rfl rfl (isDigit_any 55 w) ?_
  rintro e w1 ⟨rfl, rfl⟩
  rw [show isDig 55 = true from rfl]
  refine ⟨_, _, rfl, rfl, ?_⟩
  repeat (first | refine WL.pp rfl ?_ | refine WL.ns ?_ | refine WC.sr ?_ | refine WC.bF rfl (by first | with_reducible rfl | exact Bool.not_true) ?_ | refine WL.ix (i := 0) rfl rfl rfl (by omega) rfl ?_ | refine WL.ld rfl rfl hc0 rfl ?_ | refine WL.p rfl ?_ | refine WC.seq ?_ | refine X.sn ?_ | refine WC.skip ?_ | refine WL.ad rfl rfl (by omega) rfl ?_ | refine WL.gF rfl rfl (by first | omega | decide) ?_)
  refine WL.call rfl rfl rfl (digits7_any _ r w1 hv' hf hD) ?_
  rintro e w2 ⟨rfl, rfl⟩
  refine ⟨_, _, rfl, rfl, ?_⟩
  rcases hf with rfl | ⟨c, t, rfl, hc⟩
  · simp only [List.length_nil] at *
    repeat (first | refine WL.pp rfl ?_ | refine WL.ns ?_ | refine WC.sr ?_ | refine WC.bF rfl (by first | with_reducible rfl | exact Bool.not_true) ?_ | refine WC.dF rfl (by first | omega | decide) ?_ | refine WL.p rfl ?_ | refine WC.seq ?_ | refine X.sn ?_ | refine WC.skip ?_ | refine WL.gF rfl rfl (by first | omega | decide) ?_)
    refine WC.drx (fun _ => True) ?_
    repeat (refine WX.p (by kernel_rfl) (by first | trivial | assumption) rfl ?_)
    refine WX.sS 1 0 (by kernel_rfl) trivial rfl rfl (Sf.mk _ _ _) rfl rfl (by omega) (fun _ => rfl) (fun ad1 hs1 => ?_)
    repeat (refine WX.p (by kernel_rfl) (by first | trivial | assumption) rfl ?_)
    refine WX.sS 1 0 (by kernel_rfl) trivial rfl rfl (Sf.mk _ _ _) rfl rfl (by omega) (fun _ => rfl) (fun ad2 hs2 => ?_)
    repeat (refine WX.p (by kernel_rfl) (by first | trivial | assumption) rfl ?_)
    refine WX.sS 0 1 (by kernel_rfl) trivial rfl rfl (Sf.mk _ _ _) rfl (by simp) (by omega) (fun _ => rfl) (fun ad3 hs3 => ?_)
    repeat (refine WX.p (by kernel_rfl) (by first | trivial | assumption) rfl ?_)
    refine WX.nil ?_
    repeat (first | refine X.sn ?_ | refine WC.ret ?_)
    refine X.ret_ rfl rfl ⟨_, _, _, rfl, hv'.rg 0 1 (by simp) _, ?_, ?_, (Sm.refl _).drew⟩
    · have := hv'.sub (w := w2.drew) hD 0 1 (by simp) hs1
      exact this
    · have := hv'.drop 1 (by simp) hs3
      exact this
  · have hc1 := hv'.c1 hD
    simp only [List.length_cons] at *
    have hcc : c.toNat < 46 ∨ c.toNat = 93 ∨ c.toNat = 125 := by omega
    rcases hcc with hcc | hcc | hcc
    all_goals
     repeat (first | refine WL.pp rfl ?_ | refine WL.ns ?_ | refine WC.sr ?_ | refine WC.bF rfl (by first | with_reducible rfl | exact Bool.not_true) ?_ | refine WC.dT rfl (by first | omega | decide) ?_ | refine WC.dF rfl (by first | omega | decide) ?_ | refine WL.ix (i := 1) rfl rfl rfl (by omega) rfl ?_ | refine WL.ld rfl rfl hc1 rfl ?_ | refine WL.p rfl ?_ | refine WC.seq ?_ | refine X.sn ?_ | refine WC.skip ?_ | refine WL.gT rfl rfl (by first | omega | decide) ?_ | refine WL.gF rfl rfl (by first | omega | decide) ?_)
     refine WC.drx (fun _ => True) ?_
     repeat (refine WX.p (by kernel_rfl) (by first | trivial | assumption) rfl ?_)
     refine WX.sS 1 0 (by kernel_rfl) trivial rfl rfl (Sf.mk _ _ _) rfl rfl (by omega) (fun _ => rfl) (fun ad1 hs1 => ?_)
     repeat (refine WX.p (by kernel_rfl) (by first | trivial | assumption) rfl ?_)
     refine WX.sS 1 0 (by kernel_rfl) trivial rfl rfl (Sf.mk _ _ _) rfl rfl (by omega) (fun _ => rfl) (fun ad2 hs2 => ?_)
     repeat (refine WX.p (by kernel_rfl) (by first | trivial | assumption) rfl ?_)
     refine WX.sS (t.length + 1) 1 (by kernel_rfl) trivial rfl rfl (Sf.mk _ _ _) rfl (by simp; omega) (by omega) (fun _ => rfl) (fun ad3 hs3 => ?_)
     repeat (refine WX.p (by kernel_rfl) (by first | trivial | assumption) rfl ?_)
     refine WX.nil ?_
     repeat (first | refine X.sn ?_ | refine WC.ret ?_)
     refine X.ret_ rfl rfl ⟨_, _, _, rfl, hv'.rg 0 1 (by simp) _, ?_, ?_, (Sm.refl _).drew⟩
     · have := hv'.sub (w := w2.drew) hD 0 1 (by simp) hs1
       exact this
     · have := hv'.drop 1 (by simp) hs3
       exact this
end
end Go.Proofs.YtaccphdkapmdhaaGreat

namespace Go.Proofs.YtaccphdkapmdhaaGreat
attribute [local irreducible] binOp IntKind.wrap Sem.run
section
variable {bd C E : Nat} {dc : Array Value} {fz : Nat × Nat}

set_option maxRecDepth 100000 in
set_option maxHeartbeats 4000000 in
theorem dateStart7_any (v : Value) (r : Bs) (w : World) (hv : Suf bd C E dc v (55 :: r)) (hf : Fol r) (hD : w.heap[bd]? = some (.cells dc 5 fz)) :
    Calls PP 124 #[v] w fun e w' => e = .returned (.bool false) ∧ w' = w := by
  have hC := hv.C63
  have hv' := hv
  have hcons := hv.cons
  subst hcons
  have hle := hv'.le
  have hEC := hv'.EC
  simp only [List.length_cons] at hle
  refine enter (L := [(0, .slice (some ⟨bd, E - (r.length + 1), none⟩) (r.length + 1) (C - (E - (r.length + 1))))]) Tryz.func124 rfl rfl rfl ⟨rfl, trivial⟩ ?_
  rcases hf with rfl | ⟨c, t, rfl, hc⟩
  · simp only [List.length_nil] at *
    repeat (first | refine WL.pp rfl ?_ | refine WL.ns ?_ | refine WC.sr ?_ | refine WC.bF rfl (by first | with_reducible rfl | exact Bool.not_true) ?_ | refine WL.p rfl ?_ | refine WC.seq ?_ | refine X.sn ?_ | refine WC.skip ?_ | refine WC.ret ?_ | refine WL.gF rfl rfl (by first | omega | decide) ?_)
    exact X.ret_ rfl rfl ⟨rfl, rfl⟩
  · have hc1 := hv'.c1 hD
    have hnd := isDig_not hc
    simp only [List.length_cons] at *
    have key : t.length = 0 ∨ (1 ≤ t.length ∧ t.length < 3) ∨ 3 ≤ t.length := by omega
    rcases key with h | h | h
    · repeat (first | refine WL.pp rfl ?_ | refine WL.ns ?_ | refine WC.sr ?_ | refine WC.bF rfl (by first | with_reducible rfl | exact Bool.not_true) ?_ | refine WL.p rfl ?_ | refine WC.seq ?_ | refine X.sn ?_ | refine WC.skip ?_ | refine WC.ret ?_ | refine WL.gF rfl rfl (by first | omega | decide) ?_)
      exact X.ret_ rfl rfl ⟨rfl, rfl⟩
    · repeat (first | refine WL.pp rfl ?_ | refine WL.ns ?_ | refine WC.sr ?_ | refine WL.ix (i := 1) rfl rfl rfl (by omega) rfl ?_ | refine WL.ld rfl rfl hc1 rfl ?_ | refine WL.p rfl ?_ | refine WC.seq ?_ | refine WL.gT rfl rfl (by first | omega | decide) ?_)
      refine WL.call rfl rfl rfl (isDigit_any c w) ?_
      rintro e w2 ⟨rfl, rfl⟩
      rw [hnd]
      refine ⟨_, _, rfl, rfl, ?_⟩
      repeat (first | refine WL.pp rfl ?_ | refine WL.ns ?_ | refine WC.sr ?_ | refine WC.bF rfl (by first | with_reducible rfl | exact Bool.not_true) ?_ | refine WL.p rfl ?_ | refine WC.seq ?_ | refine X.sn ?_ | refine WC.skip ?_ | refine WC.ret ?_ | refine WL.gF rfl rfl (by first | omega | decide) ?_)
      exact X.ret_ rfl rfl ⟨rfl, rfl⟩
    · repeat (first | refine WL.pp rfl ?_ | refine WL.ns ?_ | refine WC.sr ?_ | refine WL.ix (i := 1) rfl rfl rfl (by omega) rfl ?_ | refine WL.ld rfl rfl hc1 rfl ?_ | refine WL.p rfl ?_ | refine WC.seq ?_ | refine WL.gT rfl rfl (by first | omega | decide) ?_)
      refine WL.call rfl rfl rfl (isDigit_any c w) ?_
      rintro e w2 ⟨rfl, rfl⟩
      rw [hnd]
      refine ⟨_, _, rfl, rfl, ?_⟩
      repeat (first | refine WL.pp rfl ?_ | refine WL.ns ?_ | refine WC.sr ?_ | refine WC.bF rfl (by first | with_reducible rfl | exact Bool.not_true) ?_ | refine WL.ix (i := 1) rfl rfl rfl (by omega) rfl ?_ | refine WL.ld rfl rfl hc1 rfl ?_ | refine WL.p rfl ?_ | refine WC.seq ?_ | refine X.sn ?_ | refine WC.skip ?_ | refine WL.gT rfl rfl (by first | omega | decide) ?_)
      refine WL.call rfl rfl rfl (isDigit_any c w2) ?_
      rintro e w3 ⟨rfl, rfl⟩
      rw [hnd]
      refine ⟨_, _, rfl, rfl, ?_⟩
      repeat (first | refine WL.pp rfl ?_ | refine WL.ns ?_ | refine WC.sr ?_ | refine WC.bF rfl (by first | with_reducible rfl | exact Bool.not_true) ?_ | refine WL.p rfl ?_ | refine X.sn ?_ | refine WC.skip ?_ | refine WC.ret ?_)
      exact X.ret_ rfl rfl ⟨rfl, rfl⟩

set_option maxRecDepth 100000 in
set_option maxHeartbeats 4000000 in
theorem number7_any (pp : Nat) (ad0 : Option Addr) (left : Value) (nest : Int) (ns : List ANode) (v : Value) (r : Bs) (w : World) (hv : Suf bd C E dc v (55 :: r)) (hE : E ≤ 100000000) (hf : Fol r) (hD : w.heap[bd]? = some (.cells dc 5 fz))
    (hP : PS w pp (.slice ad0 E C) left nest ns) (hm : ns.length ≤ 400000000) :
    Calls PP 123 #[.pointer (some ⟨pp, 0, none⟩), v] w fun e w' => ∃ v', e = .returned (.tuple #[.int .i32 ((ns.length + 1 : Nat) : Int), v', .nilIface]) ∧ Suf bd C E dc v' r ∧ PS w' pp (.slice ad0 E C) left nest (ns ++ [⟨11, some [55], 0, 0⟩]) ∧ Fm pp [52, 104] w w' := by
  have hC := hv.C63
  have hlt := hP.lt
  refine enter (L := [(0, .pointer (some ⟨pp, 0, none⟩)), (1, v)]) Tryz.func123 rfl rfl rfl ⟨rfl, rfl, trivial⟩ ?_
  repeat (first | refine WL.pp rfl ?_ | refine WL.ns ?_ | refine WC.sr ?_)
  refine WL.call rfl rfl rfl (scan7_any v r w hv hf hD) ?_
  rintro e w1 ⟨v1, v2, v3, rfl, h1, h2, h3, hS1⟩
  refine ⟨_, _, rfl, rfl, ?_⟩
  repeat (first | refine WL.pp rfl ?_ | refine WL.ns ?_ | refine WC.sr ?_ | refine WC.bF rfl (by first | with_reducible rfl | exact Bool.not_true) ?_ | refine WC.seq ?_ | refine X.sn ?_ | refine WC.skip ?_)
  have hU1 : Up w.heap.size w w1 := hS1.up
  obtain ⟨nv, xs, hb1, _, _⟩ := hP.up hU1
  refine WL.call rfl rfl rfl (range_any pp E C ad0 _ v1 left nv .nilIface _ w1 hb1 h1 hC hE) ?_
  rintro e w2 ⟨a, b2, rfl, hU2⟩
  refine ⟨_, _, rfl, rfl, ?_⟩
  have h2' := h2.upS hU2
  obtain ⟨ad2, cap2, rfl, -⟩ := h2
  repeat (refine WL.pp rfl ?_)
  refine WL.bd rfl rfl (bdNode _ _ _ _ _ _) rfl ?_
  have hP2 := (hP.up hU1).up hU2
  refine WL.call rfl rfl rfl (push_any pp _ left nest ns 11 0 0 a b2 _ (some [55]) w2 hP2 trivial (fun s hs => by cases hs; exact h2') hm) ?_
  rintro e w3 ⟨rfl, hP3, hF3⟩
  refine ⟨_, _, rfl, rfl, ?_⟩
  repeat (first | refine WL.pp rfl ?_ | refine WL.ns ?_ | refine WC.sr ?_ | refine WC.ret ?_)
  exact X.ret_ rfl rfl ⟨_, rfl, h3, hP3, ((hU1.fm (Nat.le_refl _) (by omega)).trans (hU2.fm (Nat.le_refl _) (by have := hU1.size; omega))).trans hF3⟩
end
end Go.Proofs.YtaccphdkapmdhaaGreat

namespace Go.Proofs.YtaccphdkapmdhaaGreat
attribute [local irreducible] binOp IntKind.wrap Sem.run

/-- What the walk of values shows, of texts so long. -/
def ValC (bd C E : Nat) (dc : Array Value) (fz : Nat × Nat) (f : Bool) (n : Nat) : Prop :=
  ∀ (pp : Nat) (ad0 : Option Addr) (left : Value) (d : Nat) (ns : List ANode) (v : Value) (b r : Bs) (val : Val) (w : World), Suf bd C E dc v b → VV f d b val r → b.length ≤ n → w.heap[bd]? = some (.cells dc 5 fz) →
    PS w pp (.slice ad0 E C) left (d : Int) ns → ns.length + 3 * b.length ≤ 400000000 →
    Calls PP 104 #[.pointer (some ⟨pp, 0, none⟩), v] w fun e w' => ∃ v', e = .returned (.tuple #[.int .i32 ((ns.length + 1 : Nat) : Int), v', .nilIface]) ∧ Suf bd C E dc v' r ∧
      PS w' pp (.slice ad0 E C) left (d : Int) (ns ++ encV val ns.length) ∧ Fm pp [52, 104] w w'

theorem splice2 (c : List Value) (o : Nat) (x y : Value) (h : o + 2 ≤ c.length) : c.take o ++ [x, y] ++ c.drop (o + 2) = (c.set o x).set (o + 1) y := by
  apply List.ext_getElem?
  intro i
  by_cases h1 : i < o
  · rw [List.getElem?_set_ne (by omega), List.getElem?_set_ne (by omega), List.append_assoc, List.getElem?_append_left (by simp; omega), List.getElem?_take, if_pos h1]
  · by_cases h2 : i = o
    · subst h2
      rw [List.getElem?_set_ne (by omega), List.getElem?_set_self (by omega), List.append_assoc, List.getElem?_append_right (by simp; omega)]
      simp [Nat.min_eq_left (show i ≤ c.length by omega)]
    · by_cases h3 : i = o + 1
      · subst h3
        rw [List.getElem?_set_self (by simp; omega), List.append_assoc, List.getElem?_append_right (by simp; omega)]
        simp [Nat.min_eq_left (show o ≤ c.length by omega)]
      · rw [List.getElem?_set_ne (by omega), List.getElem?_set_ne (by omega), List.getElem?_append_right (by simp; omega), List.getElem?_drop]
        congr 1
        simp
        omega

theorem PS.child {w w' : World} {pp : Nat} {data left : Value} {nest : Int} {ns : List ANode} {g cap : Nat} {cur : Array Value} {xs : List Value} (hb : w.heap[pp]? = some (.cells ⟨[.bool false, data, left, .slice (some ⟨g, 0, none⟩) ns.length cap, .nilIface, .int .i64 nest]⟩ 52 (0, 0)))
    (hpg : pp < g) (hgb : w.heap[g]? = some (.cells cur 104 (0, 0))) (hc1 : ns.length ≤ cap) (hc2 : cap ≤ maxLen) (hcs : cur.size = cap * 7) (hct : cur.toList.take (ns.length * 7) = xs) (hN : NL w pp ns xs)
    (i v : Nat) {n : ANode} (hi : ns[i]? = some n) (hS : St w g (.cells (cur.setIfInBounds (i * 7 + 6) (.int .i32 v)) 104 (0, 0)) w') : PS w' pp data left nest (ns.set i { n with child := v }) :=
  PS.stored hb hpg hgb hc1 hc2 (by simpa using hcs) (by simp) hS (by
    have := hN.setChild i v hi
    rw [take_set, hct]
    exact this)
theorem PS.nxt {w w' : World} {pp : Nat} {data left : Value} {nest : Int} {ns : List ANode} {g cap : Nat} {cur : Array Value} {xs : List Value} (hb : w.heap[pp]? = some (.cells ⟨[.bool false, data, left, .slice (some ⟨g, 0, none⟩) ns.length cap, .nilIface, .int .i64 nest]⟩ 52 (0, 0)))
    (hpg : pp < g) (hgb : w.heap[g]? = some (.cells cur 104 (0, 0))) (hc1 : ns.length ≤ cap) (hc2 : cap ≤ maxLen) (hcs : cur.size = cap * 7) (hct : cur.toList.take (ns.length * 7) = xs) (hN : NL w pp ns xs)
    (i v : Nat) {n : ANode} (hi : ns[i]? = some n) (hS : St w g (.cells (cur.setIfInBounds (i * 7 + 5) (.int .i32 v)) 104 (0, 0)) w') : PS w' pp data left nest (ns.set i { n with next := v }) :=
  PS.stored hb hpg hgb hc1 hc2 (by simpa using hcs) (by simp) hS (by
    have := hN.setNext i v hi
    rw [take_set, hct]
    exact this)
theorem PS.raw {w w' : World} {pp : Nat} {data left : Value} {nest : Int} {ns : List ANode} {g cap : Nat} {cur : Array Value} {xs : List Value} (hb : w.heap[pp]? = some (.cells ⟨[.bool false, data, left, .slice (some ⟨g, 0, none⟩) ns.length cap, .nilIface, .int .i64 nest]⟩ 52 (0, 0)))
    (hpg : pp < g) (hgb : w.heap[g]? = some (.cells cur 104 (0, 0))) (hc1 : ns.length ≤ cap) (hc2 : cap ≤ maxLen) (hcs : cur.size = cap * 7) (hct : cur.toList.take (ns.length * 7) = xs) (hN : NL w pp ns xs)
    (i : Nat) (a b : Int) {n : ANode} (hi : ns[i]? = some n) (hS : St w g (.cells ⟨cur.toList.take (i * 7 + 1) ++ [.int .u32 a, .int .u32 b] ++ cur.toList.drop (i * 7 + 1 + 2)⟩ 104 (0, 0)) w') : PS w' pp data left nest ns := by
  have hlt := (List.getElem?_eq_some_iff.1 hi).1
  have hl : cur.toList.length = cap * 7 := by simpa using hcs
  rw [splice2 _ _ _ _ (by omega)] at hS
  refine PS.stored hb hpg hgb hc1 hc2 (by simpa using hcs) rfl hS ?_
  have := hN.setRaw i a b hi
  rw [← hct, ← List.take_set, ← List.take_set] at this
  exact this

section
variable {bd C E : Nat} {dc : Array Value} {fz : Nat × Nat}

set_option maxRecDepth 100000 in
set_option maxHeartbeats 8000000 in
theorem keyval_any {f : Bool} {n : Nat} (hV : ValC bd C E dc fz f n) (hf : f = false) (pp : Nat) (ad0 : Option Addr) (left : Value) (d : Nat) (ns : List ANode) (v : Value) (b b1 r : Bs) (ks : List Bs) (val : Val) (w : World)
    (hv : Suf bd C E dc v (skipWs b)) (hE : E ≤ 100000000) (hk : Ks b ks (61 :: b1)) (hval : VV f d (skipWs b1) val r) (hn : (skipWs b1).length ≤ n) (hD : w.heap[bd]? = some (.cells dc 5 fz))
    (hP : PS w pp (.slice ad0 E C) left (d : Int) ns) (hm : ns.length + 3 * b.length ≤ 400000000) :
    Calls PP 80 #[.pointer (some ⟨pp, 0, none⟩), v] w fun e w' => ∃ v', e = .returned (.tuple #[.int .i32 ((ns.length + 1 : Nat) : Int), v', .nilIface]) ∧ Suf bd C E dc v' r ∧
      PS w' pp (.slice ad0 E C) left (d : Int) (ns ++ encE ks (encV val) ns.length) ∧ Fm pp [52, 104] w w' := by
  have hC := hv.C63
  obtain ⟨hkl, hk0⟩ := hk.len
  simp only [List.length_cons] at hkl
  have hsk := skipWs_le b1
  have hvl := hval.len hf (ns.length + 1 + ks.length)
  obtain ⟨adv, nv, capv, rfl, hcapv⟩ := hv.capLe
  refine enter (L := [(0, .pointer (some ⟨pp, 0, none⟩)), (1, .slice adv nv capv)]) Tryz.func80 rfl rfl rfl ⟨rfl, rfl, trivial⟩ ?_
  repeat (first | refine WL.pp rfl ?_ | refine WL.ns ?_ | refine WC.sr ?_)
  refine WL.bd rfl rfl (bdNode1 _) rfl ?_
  refine WL.call rfl rfl rfl (push_any pp _ left d ns 5 0 0 0 0 _ none w hP trivial (fun s hs => by cases hs) (by omega)) ?_
  rintro e w1 ⟨rfl, hP1, hF1⟩
  refine ⟨_, _, rfl, rfl, ?_⟩
  have hD1 : w1.heap[bd]? = some (.cells dc 5 fz) := hF1.keep _ _ hD (by simp [tag])
  have hl1 : (ns ++ [(⟨5, none, 0, 0⟩ : ANode)]).length = ns.length + 1 := by simp
  repeat (first | refine WL.pp rfl ?_ | refine WL.ns ?_ | refine WC.sr ?_)
  have hkey := key_any pp ad0 left d (ns ++ [(⟨5, none, 0, 0⟩ : ANode)]) (.slice adv nv capv) b (61 :: b1) ks w1 hv hE hk hD1 hP1 (by rw [hl1]; omega)
  rw [hl1] at hkey
  refine WL.call rfl rfl rfl hkey ?_
  rintro e w2 ⟨v2, rfl, hv2, hP2, hF2⟩
  refine ⟨_, _, rfl, rfl, ?_⟩
  have hD2 : w2.heap[bd]? = some (.cells dc 5 fz) := hF2.keep _ _ hD1 (by simp [tag])
  have hcell := hv2.cell hD2
  have hv2' := hv2
  have hcons := hv2.cons
  subst hcons
  have hle := hv2'.le
  have hEC := hv2'.EC
  simp only [List.length_cons] at hle
  repeat (first | refine WL.pp rfl ?_ | refine WL.ns ?_ | refine WC.sr ?_ | refine WC.bF rfl (by first | with_reducible rfl | exact Bool.not_true) ?_ | refine WC.dF rfl (by first | omega | decide) ?_ | refine WL.ix (i := 0) rfl rfl rfl (by omega) rfl ?_ | refine WL.ld rfl rfl hcell rfl ?_ | refine WL.p rfl ?_ | refine WC.seq ?_ | refine X.sn ?_ | refine WC.skip ?_ | refine WL.gF rfl rfl (by first | omega | decide) ?_)
  refine WL.sS b1.length 1 rfl rfl (Sf.mk _ _ _) rfl (by simp; omega) (by omega) (fun _ => rfl) (fun ad' hs' => ?_)
  skip
  refine WL.call rfl rfl rfl ((hv2'.tail hs').skip hD2) ?_
  rintro e w3 ⟨v3, rfl, hv3, rfl⟩
  refine ⟨_, _, rfl, rfl, ?_⟩
  repeat (first | refine WL.pp rfl ?_ | refine WL.ns ?_ | refine WC.sr ?_)
  have hl2 : (ns ++ [(⟨5, none, 0, 0⟩ : ANode)] ++ keyNodes (ns.length + 1) ks).length = ns.length + 1 + ks.length := by rw [List.length_append, hl1, keyNodes_length]
  have hvc := hV pp ad0 left d (ns ++ [(⟨5, none, 0, 0⟩ : ANode)] ++ keyNodes (ns.length + 1) ks) v3 (skipWs b1) r val w3 hv3 hval hn hD2 hP2 (by rw [hl2]; omega)
  rw [hl2] at hvc
  refine WL.call rfl rfl rfl hvc ?_
  rintro e w4 ⟨v4, rfl, hv4, hP4, hF4⟩
  refine ⟨_, _, rfl, rfl, ?_⟩
  obtain ⟨a, l, hav, ha0⟩ := encV_cons val (ns.length + 1 + ks.length)
  rw [hav] at hP4 hvl
  have hl4 : (ns ++ [(⟨5, none, 0, 0⟩ : ANode)] ++ keyNodes (ns.length + 1) ks ++ a :: l).length = ns.length + 1 + ks.length + 1 + l.length := by rw [List.length_append, hl2, List.length_cons]; omega
  simp only [List.length_cons] at hvl
  have hF14 := (hF1.trans hF2).trans hF4
  -- the root's child
  obtain ⟨g, cap, cur, xs, hb, hpg, hgb, hc1, hc2, hcs, hct, hxl, hN⟩ := hP4.open (by omega)
  have h0 : (ns ++ [(⟨5, none, 0, 0⟩ : ANode)] ++ keyNodes (ns.length + 1) ks ++ a :: l)[ns.length]? = some ⟨5, none, 0, 0⟩ := by
    rw [List.append_assoc, List.append_assoc, List.getElem?_append_right (Nat.le_refl _)]
    simp
  have hcur : ns.length * 7 + 6 < cur.size := by rw [hcs]; omega
  repeat (first | refine WL.pp rfl ?_ | refine WL.ns ?_ | refine WC.sr ?_ | refine WC.bF rfl (by first | with_reducible rfl | exact Bool.not_true) ?_ | refine WC.seq ?_ | refine X.sn ?_ | refine WC.skip ?_)
  refine WL.call rfl rfl rfl (at_any pp g _ cap (ns.length + 1) ns.length _ _ _ _ _ w4 hb rfl (by omega) (by omega)) ?_
  rintro e w5 ⟨rfl, rfl⟩
  refine ⟨_, _, rfl, rfl, ?_⟩
  repeat (refine WL.pp rfl ?_)
  refine WL.stB rfl rfl rfl hgb (Array.getElem?_eq_getElem hcur) rfl (fun w6 hS6 => ?_)
  have hP6 := PS.child hb hpg hgb hc1 hc2 hcs hct hN _ _ h0 hS6
  have hF6 := hF14.trans (hS6.fm hgb (by omega) (by simp [tag]) rfl)
  generalize hns6 : (ns ++ [(⟨5, none, 0, 0⟩ : ANode)] ++ keyNodes (ns.length + 1) ks ++ a :: l).set ns.length _ = ns6 at hP6
  have hl6 : ns6.length = ns.length + 1 + ks.length + 1 + l.length := by rw [← hns6, List.length_set, hl4]
  have e6 : ns6 = ns ++ (⟨5, none, 0, ns.length + 1 + ks.length + 1⟩ :: (keyNodes (ns.length + 1) ks ++ a :: l)) := by
    rw [← hns6, List.append_assoc, List.append_assoc, List.set_append_right _ _ (Nat.le_refl _), Nat.sub_self]
    simp
  have h6 : ns6[ns.length + 1 + ks.length]? = some a := by
    rw [e6, List.getElem?_append_right (by omega), show ns.length + 1 + ks.length - ns.length = ks.length + 1 by omega, List.getElem?_cons_succ, List.getElem?_append_right (by rw [keyNodes_length]; exact Nat.le_refl _), keyNodes_length, Nat.sub_self]
    rfl
  clear hns6 hS6 hb hpg hgb hc1 hc2 hcs hct hxl hN hcur h0
  -- the value's next one
  obtain ⟨g, cap, cur, xs, hb, hpg, hgb, hc1, hc2, hcs, hct, hxl, hN⟩ := hP6.open (by omega)
  have hcur : (ns.length + 1 + ks.length) * 7 + 5 < cur.size := by rw [hcs]; omega
  repeat (first | refine WL.pp rfl ?_ | refine WL.ns ?_ | refine WC.sr ?_)
  refine WL.call rfl rfl rfl (at_any pp g _ cap (ns.length + 1 + ks.length + 1) (ns.length + 1 + ks.length) _ _ _ _ _ w6 hb rfl (by omega) (by omega)) ?_
  rintro e w7 ⟨rfl, rfl⟩
  refine ⟨_, _, rfl, rfl, ?_⟩
  repeat (refine WL.pp rfl ?_)
  refine WL.stB rfl rfl rfl hgb (Array.getElem?_eq_getElem hcur) rfl (fun w8 hS8 => ?_)
  have hP8 := PS.nxt hb hpg hgb hc1 hc2 hcs hct hN _ _ h6 hS8
  have hF8 := hF6.trans (hS8.fm hgb (by omega) (by simp [tag]) rfl)
  generalize hns8 : ns6.set (ns.length + 1 + ks.length) _ = ns8 at hP8
  have hl8 : ns8.length = ns.length + 1 + ks.length + 1 + l.length := by rw [← hns8, List.length_set, hl6]
  have e8 : ns8 = ns ++ encE ks (encV val) ns.length := by
    rw [← hns8, e6, List.set_append_right _ _ (by omega), show ns.length + 1 + ks.length - ns.length = ks.length + 1 by omega, List.set_cons_succ, List.set_append_right _ _ (by rw [keyNodes_length]; exact Nat.le_refl _), keyNodes_length, Nat.sub_self, List.set_cons_zero]
    unfold encE
    rw [hav]
    simp only [setN]
    rw [show ns.length + 1 + ks.length + 1 = ns.length + ks.length + 2 by omega]
  have h8 : ∃ n8, ns8[ns.length]? = some n8 := ⟨_, List.getElem?_eq_getElem (by omega)⟩
  obtain ⟨n8, h8⟩ := h8
  clear hns8 hS8 hb hpg hgb hc1 hc2 hcs hct hxl hN hcur
  obtain ⟨g, cap, cur, xs, hb, hpg, hgb, hc1, hc2, hcs, hct, hxl, hN⟩ := hP8.open (by omega)
  repeat (first | refine WL.pp rfl ?_ | refine WL.ns ?_ | refine WC.sr ?_)
  refine WL.call rfl rfl rfl (at_any pp g _ cap (ns.length + 1) ns.length _ _ _ _ _ w8 hb rfl (by omega) (by omega)) ?_
  rintro e w9 ⟨rfl, rfl⟩
  refine ⟨_, _, rfl, rfl, ?_⟩
  repeat (refine WL.pp rfl ?_)
  obtain ⟨ad5, nv5, cap5, rfl, hcap5⟩ := hv4.capLe
  refine WL.call rfl rfl rfl (rangeFrom_any pp E C nv capv nv5 cap5 ad0 adv ad5 _ _ _ _ _ w9 hb hC hcapv hcap5) ?_
  rintro e w10 ⟨x, y, rfl, hU10⟩
  refine ⟨_, _, rfl, rfl, ?_⟩
  have hb10 := hU10.at (lt_of_heap hb) hb
  have hgb10 := hU10.at (lt_of_heap hgb) hgb
  have hN10 := hN.fm (hU10.fm (B' := pp) (T := []) (Nat.le_refl _) (Nat.le_of_lt (lt_of_heap hb))) (by simp)
  repeat (refine WL.pp rfl ?_)
  refine WL.sg (c := cur.toList) rfl rfl rfl (by simp [oneV]) hgb10 (by
    have hl : cur.toList.length = cap * 7 := by simpa using hcs
    omega) rfl (fun w11 hS11 => ?_)
  have hP11 := PS.raw hb10 hpg hgb10 hc1 hc2 hcs hct hN10 _ x y h8 hS11
  have hF11 := (hF8.trans (hU10.fm (B' := pp) (T := [52, 104]) (Nat.le_refl _) (Nat.le_of_lt (lt_of_heap hb)))).trans (hS11.fm hgb10 (by omega) (by simp [tag]) rfl)
  repeat (first | refine WL.pp rfl ?_ | refine WL.ns ?_ | refine WC.sr ?_ | refine WC.ret ?_)
  refine X.ret_ rfl rfl ⟨_, rfl, hv4, ?_, hF11⟩
  rw [← e8]
  exact hP11
end
end Go.Proofs.YtaccphdkapmdhaaGreat

