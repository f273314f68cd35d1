/- The laws' documents: names and values in memory. The laws' documents: values, as they are made. The laws' documents: lists of expressions, as they are made. No condition. -/
import Derived.Test.YtaccphdkapmdhaaGreatP15
namespace Go.Proofs.YtaccphdkapmdhaaGreat
attribute [local semireducible] WL WC X WD WX

/-- What 'append' leaves alone, and where the new row is. -/
theorem append_own {B t e s n m c : Nat} {v v' : Value} {xs : List Value} {ad : Addr} {w w' : World} (ty : TypeId) (news : List Value)
    (ht : rowT t = some (e, s)) (hown : w.ownsRow B e s v n xs) (hl : news.length = m * s) (hnews : ∀ j u, news[j]? = some u → w.cell? (ad.add j) = some u) (h1 : ∀ u ∈ news, oneV u = true)
    (hm : n + m ≤ 1099511627776) (hr : (Builtin.append_ #[t, t] ty #[v, .slice (some ad) m c]).run PP w = .ok v' w') :
    (∀ (k : Nat), k < w.heap.size → v.ownBlock ≠ some k → w'.heap[k]? = w.heap[k]?) ∧ (v'.ownBlock = v.ownBlock ∨ v'.ownBlock = some w.heap.size) := by
  obtain ⟨i, z, hu, hi, hz, hsz, hby, hzs, h0⟩ := row_parts ht
  have hone : ∀ u ∈ news, u.oneCell' = true := fun u hu => by
    have := h1 u hu
    cases u <;> first | rfl | (simp [oneV] at this)
  have hbb : (n + m) * i.bytes ≤ 140737488355328 := by
    have := Nat.mul_le_mul hm hby
    omega
  subst hsz
  rcases hown.2 with ⟨rfl, rfl⟩ | ⟨g, cap, cur, rfl, hbg, hg, hnc, hcm, hcs, htake⟩
  · by_cases hm0 : m = 0
    · subst hm0
      have hn : news = [] := List.eq_nil_of_length_eq_zero (by simpa using hl)
      subst hn
      have hr2 : (Builtin.append_ #[t, t] ty #[.slice none 0 0, .slice (some ad) 0 c]).run PP w = .ok (.slice none 0 0) w := by
        simp [Builtin.append_, run_underlying hu, sizeOf, typeInfo, hi, Builtin.lenOf, Builtin.firstCells, loadCells, loadCellsFrom]
      rw [hr2] at hr
      cases hr
      exact ⟨fun _ _ _ => rfl, .inl rfl⟩
    · have hr2 := run_append_nil (P := PP) w t ty e i z hu hi hz ad m c news hl hnews (by omega) (by omega) (by simp only [Nat.zero_add] at hbb; omega)
      rw [hr2] at hr
      cases hr
      exact ⟨fun k hk _ => heap_alloc_old w.drew _ k hk, .inr rfl⟩
  · by_cases hroom : n + m ≤ cap
    · have hfit : n * i.size + news.length ≤ cur.size := by rw [hl, hcs, ← Nat.add_mul]; exact Nat.mul_le_mul_right _ hroom
      have hr2 := run_append_room (P := PP) w t ty e i hu hi g n cap cur hg ad m c news hl hnews hone hroom hfit
      rw [hr2] at hr
      cases hr
      exact ⟨fun k _ hk => setRow_other w g k _ (fun e => hk (by simp [Value.ownBlock, e])), .inl rfl⟩
    · have holds : ∀ j u, xs[j]? = some u → w.cell? ((⟨g, 0, none⟩ : Addr).add j) = some u := hown.cells (g := g) rfl
      have hr2 := run_append_grow (P := PP) w t ty e i z hu hi hz ⟨g, 0, none⟩ n cap xs hown.1 holds ad m c news hl hnews (by omega) (by omega) (growslice_fits (by omega) hbb)
      rw [hr2] at hr
      cases hr
      exact ⟨fun k hk _ => heap_alloc_old w.drew _ k hk, .inr rfl⟩

theorem apLaw {B t e s n m c : Nat} {v : Value} {xs : List Value} {ad : Addr} {w : World} (ty : TypeId) (news : List Value)
    (ht : rowT t = some (e, s)) (hown : w.ownsRow B e s v n xs) (hl : news.length = m * s) (hnews : ∀ j u, news[j]? = some u → w.cell? (ad.add j) = some u) (h1 : ∀ u ∈ news, oneV u = true)
    (hm : n + m ≤ 1099511627776) (hB : B ≤ w.heap.size) :
    ∃ v' w', (Builtin.append_ #[t, t] ty #[v, .slice (some ad) m c]).run PP w = .ok v' w' ∧ w'.ownsRow B e s v' (n + m) (xs ++ news) ∧ Fm B [e] w w' ∧
      (∀ (k : Nat), k < w.heap.size → v.ownBlock ≠ some k → w'.heap[k]? = w.heap[k]?) ∧ (v'.ownBlock = v.ownBlock ∨ v'.ownBlock = some w.heap.size) := by
  obtain ⟨i, z, hu, hi, hz, hsz, hby, hzs, h0⟩ := row_parts ht
  have hone : ∀ u ∈ news, u.oneCell' = true := fun u hu => by
    have := h1 u hu
    cases u <;> first | rfl | (simp [oneV] at this)
  have hbb : (n + m) * i.bytes ≤ 140737488355328 := by
    have := Nat.mul_le_mul hm hby
    omega
  obtain ⟨v', w', hr, h2, h3, h4⟩ := run_append_own (P := PP) w B t ty e i z s i.bytes hu hi hz hsz rfl hzs h0 v n xs hown ad m c news hl hnews hone (by simp only [maxLen]; omega) hbb hB
  obtain ⟨h5, h6⟩ := append_own ty news ht hown hl hnews h1 hm hr
  exact ⟨v', w', hr, h2, append_fm ty news ht hown hl hnews h1 hm hB hr, h5, h6⟩

section steps
variable {all : List Oper} {Q : Exit → Act → World → Prop} {N : Nat} {L L' : Env} {o : Oper} {rest : List Oper} {w : World} {S : World → Prop}

theorem apRunO {B t e s n m c : Nat} {v : Value} {xs : List Value} {ad : Addr} (news : List Value) (h : apA L o.op = some (t, v, .slice (some ad) m c))
    (ht : rowT t = some (e, s)) (hown : w.ownsRow B e s v n xs) (hl : news.length = m * s) (hnews : ∀ j u, news[j]? = some u → w.cell? (ad.add j) = some u) (h1 : ∀ u ∈ news, oneV u = true)
    (hm : n + m ≤ 1099511627776) (hB : B ≤ w.heap.size) :
    ∃ v' w', (∀ a, Fr N L a → (execOp a.eval o).run PP w = .ok (.value v') w') ∧ w'.ownsRow B e s v' (n + m) (xs ++ news) ∧ Fm B [e] w w' ∧
      (∀ (k : Nat), k < w.heap.size → v.ownBlock ≠ some k → w'.heap[k]? = w.heap[k]?) ∧ (v'.ownBlock = v.ownBlock ∨ v'.ownBlock = some w.heap.size) := by
  obtain ⟨i, z, hu, hi, hz, hsz, hby, hzs, h0⟩ := row_parts ht
  have hone : ∀ u ∈ news, u.oneCell' = true := fun u hu => by
    have := h1 u hu
    cases u <;> first | rfl | (simp [oneV] at this)
  have hbb : (n + m) * i.bytes ≤ 140737488355328 := by
    have := Nat.mul_le_mul hm hby
    omega
  obtain ⟨v', w', hr, h2, h3, h4⟩ := run_append_own (P := PP) w B t o.type e i z s i.bytes hu hi hz hsz rfl hzs h0 v n xs hown ad m c news hl hnews hone (by simp only [maxLen]; omega) hbb hB
  obtain ⟨h5, h6⟩ := append_own o.type news ht hown hl hnews h1 hm hr
  exact ⟨v', w', fun a hf => by rw [apA_run hf h]; simp [hr], h2, append_fm o.type news ht hown hl hnews h1 hm hB hr, h5, h6⟩

theorem WL.apo {B t e s n m c : Nat} {v : Value} {xs : List Value} {ad : Addr} (news : List Value) (hg : grd all L o = some true) (h : apA L o.op = some (t, v, .slice (some ad) m c))
    (ht : rowT t = some (e, s)) (hown : w.ownsRow B e s v n xs) (hl : news.length = m * s) (hnews : ∀ j u, news[j]? = some u → w.cell? (ad.add j) = some u) (h1 : ∀ u ∈ news, oneV u = true)
    (hm : n + m ≤ 1099511627776) (hB : B ≤ w.heap.size)
    (k : ∀ v' w', w'.ownsRow B e s v' (n + m) (xs ++ news) → Fm B [e] w w' → (∀ (k : Nat), k < w.heap.size → v.ownBlock ≠ some k → w'.heap[k]? = w.heap[k]?) → (v'.ownBlock = v.ownBlock ∨ v'.ownBlock = some w.heap.size) → ∃ L', dstE N o v' L = some L' ∧ WL all Q N L' rest w') : WL all Q N L (o :: rest) w := by
  obtain ⟨v', w', hr, h2, h3, h4, h5⟩ := apRunO (N := N) news h ht hown hl hnews h1 hm hB
  obtain ⟨L', hd, hk⟩ := k v' w' h2 h3 h4 h5
  exact WL.of_run hg hr hd hk
end steps

/-- Blocks that meet P stay, and meet P'. -/
def Moved (P P' : Nat → Prop) (w w' : World) : Prop := ∀ b o, P b → w.heap[b]? = some o → (tag o = 9 ∨ tag o = 37) → w'.heap[b]? = some o ∧ P' b

theorem RS.move {w w' : World} {P P' : Nat → Prop} {v : Value} {ks : List Bs} (hk : Moved P P' w w') (h : RS w P v ks) : RS w' P' v ks := by
  obtain ⟨ad, cap, h1, h2⟩ := h
  refine ⟨ad, cap, h1, fun hne => ?_⟩
  obtain ⟨b, dc, fz, hp, h3, h4, h5⟩ := h2 hne
  obtain ⟨q1, q2⟩ := hk b _ hp.1 h4 (.inl rfl)
  exact ⟨b, dc, fz, ⟨q2, hp.2⟩, h3, q1, h5⟩

mutual
theorem Nd.move {w w' : World} {P P' : Nat → Prop} (hk : Moved P P' w w') : ∀ (v : Val) (a b c : Value), Nd w P v a b c → Nd w' P' v a b c
  | .sc _ _, a, b, c, h => by simpa only [Nd] using h
  | .arr vs, a, b, c, h => by
    simp only [Nd] at h ⊢
    obtain ⟨h1, h2, ad, cap, h3, h4⟩ := h
    refine ⟨h1, h2, ad, cap, h3, fun hne => ?_⟩
    obtain ⟨g, cur, hp, h5, h6, h7⟩ := h4 hne
    obtain ⟨q1, q2⟩ := hk g _ hp h6 (.inr rfl)
    exact ⟨g, cur, q2, h5, q1, NdIs.move hk vs cur h7⟩
  | .tbl es, a, b, c, h => by
    simp only [Nd] at h ⊢
    obtain ⟨h1, h2, ad, cap, h3, h4⟩ := h
    refine ⟨h1, h2, ad, cap, h3, fun hne => ?_⟩
    obtain ⟨g, cur, hp, h5, h6, h7⟩ := h4 hne
    obtain ⟨q1, q2⟩ := hk g _ hp h6 (.inr rfl)
    exact ⟨g, cur, q2, h5, q1, NdEs.move hk es cur h7⟩
theorem NdIs.move {w w' : World} {P P' : Nat → Prop} (hk : Moved P P' w w') : ∀ (vs : List Val) (l : List Value), NdIs w P vs l → NdIs w' P' vs l
  | [], _, _ => trivial
  | v :: vs, l, h => by
    simp only [NdIs] at h ⊢
    obtain ⟨a, b, c, d, r, h1, h2, h3, h4⟩ := h
    exact ⟨a, b, c, d, r, h1, Nd.move hk v a b c h2, RS.move hk h3, NdIs.move hk vs r h4⟩
theorem NdEs.move {w w' : World} {P P' : Nat → Prop} (hk : Moved P P' w w') : ∀ (es : List (List Bs × Val)) (l : List Value), NdEs w P es l → NdEs w' P' es l
  | [], _, _ => trivial
  | (ks, v) :: es, l, h => by
    simp only [NdEs] at h ⊢
    obtain ⟨a, b, c, d, r, h1, h2, h3, h4⟩ := h
    exact ⟨a, b, c, d, r, h1, Nd.move hk v a b c h2, RS.move hk h3, NdEs.move hk es r h4⟩
end

theorem NdX.move {w w' : World} {P P' : Nat → Prop} (hk : Moved P P' w w') {x : Ex} {a b c : Value} (h : NdX w P x a b c) : NdX w' P' x a b c := by
  obtain ⟨v, h1, h2⟩ := h
  exact ⟨v, h1, Nd.move hk _ _ _ _ h2⟩

theorem LsIs.move {w w' : World} {P P' : Nat → Prop} (hk : Moved P P' w w') : ∀ (es : List Ex) (l : List Value), LsIs w P es l → LsIs w' P' es l
  | [], _, _ => trivial
  | x :: es, l, h => by
    obtain ⟨kv, a, b, c, d, r, h1, h2, h3, h4, h5⟩ := h
    exact ⟨kv, a, b, c, d, r, h1, RS.move hk h2, h3.move hk, RS.move hk h4, LsIs.move hk es r h5⟩

theorem Moved.up {P P' : Nat → Prop} {w w' : World} (hu : Up w.heap.size w w') (hp : ∀ b, P b → b < w.heap.size → P' b) : Moved P P' w w' := fun b o hb ho _ =>
  ⟨hu.at (lt_of_heap ho) ho, hp b hb (lt_of_heap ho)⟩

/-- A row of strings that is owned. -/
theorem RS.own {B : Nat} {w : World} {v : Value} {ks : List Bs} (h : w.ownsRow B 9 1 v ks.length (ks.map str)) : RS w (fun b => B ≤ b) v ks := by
  rcases h.2 with ⟨rfl, hn⟩ | ⟨g, cap, cur, rfl, hb, hg, hc, hm, hs, ht⟩
  · have : ks = [] := List.eq_nil_of_length_eq_zero hn
    subst this
    exact ⟨none, 0, rfl, fun h => absurd rfl h⟩
  · refine ⟨_, cap, rfl, fun _ => ⟨g, cur, (0, 0), ⟨hb, hc⟩, rfl, hg, fun i k hk => ?_⟩⟩
    have h1 : (cur.toList.take (ks.length * 1))[i]? = some (str k) := by rw [ht, List.getElem?_map, hk]; rfl
    rw [List.getElem?_take] at h1
    split at h1
    · simpa using h1
    · cases h1

/-- The rows of nodes and expressions that are owned. -/
theorem row_cur {B e s n : Nat} {w : World} {v : Value} {xs : List Value} (h : w.ownsRow B e s v n xs) (hn : n ≠ 0) : ∃ g cap cur, v = .slice (some ⟨g, 0, none⟩) n cap ∧ B ≤ g ∧ w.heap[g]? = some (.cells ⟨xs ++ cur⟩ e (0, 0)) := by
  rcases h.2 with ⟨_, h0⟩ | ⟨g, cap, cur, rfl, hb, hg, hc, hm, hs, ht⟩
  · exact absurd h0 hn
  · refine ⟨g, cap, cur.toList.drop (n * s), rfl, hb, ?_⟩
    have e1 : xs ++ cur.toList.drop (n * s) = cur.toList := by rw [← ht, List.take_append_drop]
    rw [e1]
    exact hg

theorem NdIs.more {w : World} {P : Nat → Prop} : ∀ {vs : List Val} {l : List Value} (r : List Value), NdIs w P vs l → NdIs w P vs (l ++ r)
  | [], _, _, _ => trivial
  | v :: vs, l, r, h => by
    simp only [NdIs] at h ⊢
    obtain ⟨a, b, c, d, l', rfl, h2, h3, h4⟩ := h
    exact ⟨a, b, c, d, l' ++ r, rfl, h2, h3, NdIs.more r h4⟩
theorem NdEs.more {w : World} {P : Nat → Prop} : ∀ {es : List (List Bs × Val)} {l : List Value} (r : List Value), NdEs w P es l → NdEs w P es (l ++ r)
  | [], _, _, _ => trivial
  | (ks, v) :: es, l, r, h => by
    simp only [NdEs] at h ⊢
    obtain ⟨a, b, c, d, l', rfl, h2, h3, h4⟩ := h
    exact ⟨a, b, c, d, l' ++ r, rfl, h2, h3, NdEs.more r h4⟩
theorem LsIs.more {w : World} {P : Nat → Prop} : ∀ {es : List Ex} {l : List Value} (r : List Value), LsIs w P es l → LsIs w P es (l ++ r)
  | [], _, _, _ => trivial
  | x :: es, l, r, h => by
    obtain ⟨kv, a, b, c, d, l', rfl, h2, h3, h4, h5⟩ := h
    exact ⟨kv, a, b, c, d, l' ++ r, rfl, h2, h3, h4, LsIs.more r h5⟩

attribute [local irreducible] WL WC X WD WX
attribute [local irreducible] binOp IntKind.wrap Sem.run

set_option maxRecDepth 10000 in
set_option maxHeartbeats 4000000 in
theorem nameOf_any (n : Nat) (w : World) : Calls PP 13 #[.int .u32 (n : Int)] w fun e w' => e = .returned (str (nm n)) ∧ Fm w.heap.size [] w w' := by
  refine enter (L := [(0, .int .u32 (n : Int))]) Tryz.func13 rfl rfl rfl ⟨rfl, trivial⟩ ?_
  repeat (first | refine WL.pp rfl ?_ | refine WL.ns ?_ | refine WC.sr ?_)
  refine WL.bs rfl rfl (bsS4 [97] [98] [99] []) rfl (fun w1 hA => ?_)
  have hm : n % 4 < 4 := Nat.mod_lt _ (by omega)
  have hc : w1.cell? ⟨w.heap.size, n % 4, none⟩ = some (str (nm n)) := by
    refine cell_of hA.at_ (strs_get ?_)
    unfold nm
    rcases (by omega : n % 4 = 0 ∨ n % 4 = 1 ∨ n % 4 = 2 ∨ n % 4 = 3) with h | h | h | h <;> rw [h] <;> rfl
  repeat (first | refine WL.pp rfl ?_ | refine WL.ns ?_ | refine WL.bo rfl rfl (remU n 4 (by omega) _ _) rfl ?_ | refine WL.ix (i := n % 4) rfl rfl rfl hm (by rw [Nat.zero_add, Nat.mul_one]; rfl) ?_ | refine WL.ld rfl rfl hc rfl ?_ | refine WC.ret ?_)
  exact X.ret_ rfl rfl ⟨rfl, hA.fm (Nat.le_refl _)⟩

theorem bsS0 (w : World) : (Instr.buildSlice 34 0 ⟨[]⟩).run PP w = .ok (.slice (some ⟨w.heap.size, 0, none⟩) 0 0) (w.alloc (.cells #[] 9 (0, 0))) := by kernel_rfl
theorem bsS1 (a : Bs) (w : World) : (Instr.buildSlice 34 1 ⟨[(0, str a)]⟩).run PP w = .ok (.slice (some ⟨w.heap.size, 0, none⟩) 1 1) (w.alloc (.cells (strs [a]) 9 (0, 0))) := by kernel_rfl

set_option maxRecDepth 10000 in
set_option maxHeartbeats 8000000 in
theorem namesOf_any (n : Nat) (w : World) : Calls PP 18 #[.int .u32 (n : Int)] w fun e w' => ∃ v, e = .returned v ∧ RS w' (fun b => w.heap.size ≤ b) v (nms n) ∧ Up w.heap.size w w' := by
  have h3 : n % 3 < 3 := Nat.mod_lt _ (by omega)
  refine enter (L := [(0, .int .u32 (n : Int))]) Tryz.func18 rfl rfl rfl ⟨rfl, trivial⟩ ?_
  repeat (first | refine WL.pp rfl ?_ | refine WL.ns ?_ | refine WC.sr ?_)
  refine WL.bs rfl rfl bsS0 rfl (fun w1 hA => ?_)
  have hU : Up w.heap.size w w1 := hA.up (Nat.le_refl _)
  have hO : w1.ownsRow w.heap.size 9 1 (.slice (some ⟨w.heap.size, 0, none⟩) 0 0) 0 [] := ⟨rfl, .inr ⟨w.heap.size, 0, #[], rfl, Nat.le_refl _, hA.at_, Nat.le_refl _, by simp only [maxLen]; omega, rfl, rfl⟩⟩
  repeat (first | refine WL.pp rfl ?_ | refine WL.ns ?_ | refine WC.sr ?_ | refine WL.bo rfl rfl (remU n 3 (by omega) _ _) rfl ?_ | refine WL.adu rfl rfl (by omega) rfl ?_ | refine WC.seq ?_ | refine WC.block ?_)
  refine WC.loop (σ := Nat × Value) (I := fun s w' => w'.ownsRow w.heap.size 9 1 s.2 s.1 (((List.range s.1).map fun k => nm (n / 2 ^ (2 + 2 * k))).map str) ∧ Up w.heap.size w w' ∧ s.1 ≤ 1 + n % 3)
    (m := fun s => 1 + n % 3 - s.1) (Lf := fun s => [(0, .int .u32 (n : Int)), (3, s.2), (8, .int .u32 (1 + ((n % 3 : Nat) : Int))), (9, .int .u32 (s.1 : Int))])
    (0, .slice (some ⟨w.heap.size, 0, none⟩) 0 0) ⟨hO, hU, Nat.zero_le _⟩ ⟨rfl, rfl, rfl, rfl, trivial⟩ ?_
  clear hA hU hO
  rintro ⟨k, v⟩ w2 ⟨hO, hU, hk⟩
  dsimp only at hO hk ⊢
  by_cases hlt : k < 1 + n % 3
  · repeat (first | refine WL.pp rfl ?_ | refine WL.ns ?_ | refine WC.sr ?_ | refine WC.dT rfl (by first | omega | decide) ?_ | refine WL.az rfl rfl (wrap_u32 (by simp only [arV]; omega)) rfl ?_ | refine WC.seq ?_ | refine WC.reg ?_ | refine WC.block ?_ | refine X.sn ?_ | refine WC.skip ?_)
    have hsh := shrUU n (2 + 2 * k) (by omega) 29 w2 .u32
    refine WL.bo rfl rfl (by rw [Int.natCast_add, Int.natCast_mul] at hsh; exact hsh) rfl ?_
    refine WL.call rfl rfl rfl (nameOf_any (n / 2 ^ (2 + 2 * k)) w2) ?_
    rintro e w3 ⟨rfl, hF3⟩
    refine ⟨_, _, rfl, rfl, ?_⟩
    refine WL.bs rfl rfl (bsS1 _) rfl (fun w4 hA4 => ?_)
    have hO4 : w4.ownsRow w.heap.size 9 1 v k (((List.range k).map fun k => nm (n / 2 ^ (2 + 2 * k))).map str) := own_same hO (fun b o hb h => hA4.keep (hF3.keep _ _ h (by simp)))
    have hsz := hU.size
    have hsz3 := hF3.size
    refine WL.ap (m := 1) [str (nm (n / 2 ^ (2 + 2 * k)))] rfl rfl (rfl : rowT 34 = some (9, 1)) hO4 rfl (fun j u hu => ?_) (fun u hu => ?_) (by omega) (by rw [hA4.size]; omega) (fun v' w5 hO5 hU5 _ => ?_)
    · rw [add_zero]
      exact cell_of hA4.at_ (by simpa using hu)
    · simp only [List.mem_singleton] at hu
      subst hu; rfl
    refine ⟨_, rfl, ?_⟩
    repeat (first | refine WL.pp rfl ?_ | refine WL.adu rfl rfl (by omega) rfl ?_ | refine WC.reg ?_ | refine WL.nil ?_ | refine X.sn ?_ | refine X.bn ?_)
    refine X.again (k + 1, v') ⟨?_, ((hU.trans (hF3.up.mono hsz)).trans (hA4.up (by omega))).trans hU5, by dsimp only; omega⟩ (by dsimp only; omega) ⟨rfl, rfl, rfl, rfl, trivial⟩
    dsimp only
    rw [range_snoc, List.map_append]
    exact hO5
  · have hke : k = 1 + n % 3 := by omega
    subst hke
    repeat (first | refine WL.pp rfl ?_ | refine WL.ns ?_ | refine WC.sr ?_ | refine WC.dF rfl (by first | omega | decide) ?_ | refine WC.seq ?_ | refine X.sn ?_ | refine X.sx ?_ | refine X.bx ?_ | refine WC.exit ?_ | refine WC.ret ?_)
    refine X.ret_ rfl rfl ⟨v, rfl, ?_, hU⟩
    refine RS.own (ks := nms n) ?_
    have hl : (nms n).length = 1 + n % 3 := by simp [nms]
    rw [hl]
    exact hO
end Go.Proofs.YtaccphdkapmdhaaGreat

namespace Go.Proofs.YtaccphdkapmdhaaGreat
attribute [local irreducible] binOp IntKind.wrap Sem.run

theorem Moved.trans {P P' P'' : Nat → Prop} {a b c : World} (h : Moved P P' a b) (g : Moved P' P'' b c) : Moved P P'' a c := fun k o hp ho ht =>
  let ⟨q1, q2⟩ := h k o hp ho ht
  g k o q2 q1 ht

theorem bd7 (w : World) : (Instr.build 37 ⟨[(0, .int .i64 1), (1, str [55])]⟩).run PP w = .ok (.agg ⟨[.int .i64 1, str [55], .slice none 0 0, .slice none 0 0]⟩) w := by kernel_rfl
theorem bdKind (k : Int) (w : World) : (Instr.build 37 ⟨[(0, .int .i64 k)]⟩).run PP w = .ok (.agg ⟨[.int .i64 k, str [], .slice none 0 0, .slice none 0 0]⟩) w := by kernel_rfl
theorem bsNd (a b c d : Value) (w : World) : (Instr.buildSlice 35 1 ⟨[(0, .agg ⟨[a, b, c, d]⟩)]⟩).run PP w = .ok (.slice (some ⟨w.heap.size, 0, none⟩) 1 1) (w.alloc (.cells ⟨[a, b, c, d]⟩ 37 (0, 0))) := by kernel_rfl

theorem RS.nil (w : World) (P : Nat → Prop) : RS w P (.slice none 0 0) [] := ⟨none, 0, rfl, fun h => absurd rfl h⟩

/-- The making of a value. -/
def MtC (d : Nat) : Prop := ∀ (n : Nat) (w : World), n < UU → Calls PP 14 #[.int .u32 (n : Int), .int .i64 (d : Int)] w fun e w' =>
  ∃ a b c d', e = .returned (.agg ⟨[a, b, c, d']⟩) ∧ Nd w' (fun g => w.heap.size ≤ g) (mt d n) a b c ∧ RS w' (fun g => w.heap.size ≤ g) d' [] ∧ Up w.heap.size w w'

theorem nd7 (w : World) (P : Nat → Prop) : Nd w P (.sc 1 [55]) (.int .i64 1) (str [55]) (.slice none 0 0) := by
  rw [Nd]
  exact ⟨rfl, rfl, none, 0, rfl⟩

/-- Behind an append onto a row of items. -/
theorem Moved.ap {P : Nat → Prop} {w w' : World} {nb : Nat} {ev ev' : Value} (h1 : ∀ (k : Nat), k < w.heap.size → ev.ownBlock ≠ some k → w'.heap[k]? = w.heap[k]?) (h2 : ev'.ownBlock = ev.ownBlock ∨ ev'.ownBlock = some w.heap.size)
    (hp : ∀ b, P b → nb < b ∧ ev.ownBlock ≠ some b) : Moved P (fun b => nb < b ∧ ev'.ownBlock ≠ some b) w w' := fun b o hb ho _ => by
  obtain ⟨q1, q2⟩ := hp b hb
  have hlt := lt_of_heap ho
  refine ⟨by rw [h1 b hlt q2]; exact ho, q1, ?_⟩
  rcases h2 with e | e
  · rw [e]; exact q2
  · rw [e]
    intro h
    simp only [Option.some.injEq] at h
    omega

theorem Moved.st {P : Nat → Prop} {w w' : World} {nb : Nat} {o : Obj} (hS : St w nb o w') (hp : ∀ b, P b → nb < b) : Moved P P w w' := fun b _ hb ho _ =>
  ⟨hS.keep ho (by have := hp b hb; omega), hb⟩

set_option maxRecDepth 100000 in
set_option maxHeartbeats 32000000 in
theorem mtC_step (d : Nat) (hd : d ≤ 5) (ih : MtC d) : MtC (d + 1) := by
  intro n w hn
  refine enter (L := [(0, .int .u32 (n : Int)), (1, .int .i64 ((d + 1 : Nat) : Int))]) Tryz.func14 rfl rfl rfl ⟨rfl, rfl, trivial⟩ ?_
  repeat (refine WC.sr ?_)
  refine WL.al rfl rfl rfl (fun w1 hA => ?_)
  have hU1 : Up w.heap.size w w1 := hA.up (Nat.le_refl _)
  have hr1 := hA.at_
  have hsz1 := hA.size
  generalize hB : w.heap.size = B at *
  clear hA
  by_cases h0 : n % 4 = 0
  · have hmt : mt (d + 1) n = .tbl ((List.range (n / 2 ^ 2 % 4)).map fun k => (nms ((n / 2 ^ 4 + k * 977 % UU) % UU), mt d ((n * 2654435761 % UU + k) % UU))) := by simp [mt, h0]
    rw [hmt]
    have hk4 : n / 2 ^ 2 % 4 < 4 := Nat.mod_lt _ (by omega)
    repeat (first | refine WL.pp rfl ?_ | refine WL.ns ?_ | refine WC.sr ?_ | refine WC.dT rfl (by first | omega | decide) ?_ | refine WL.bo rfl rfl (remU n 4 (by omega) _ _) rfl ?_ | refine WL.p rfl ?_ | refine WC.seq ?_ | refine WC.block ?_ | refine WL.gT rfl rfl (by first | omega | decide) ?_)
    refine WL.bd rfl rfl (bdKind _) rfl ?_
    refine WL.al rfl rfl rfl (fun w2 hA2 => ?_)
    refine WL.sg rfl rfl rfl (by simp [oneV]) hA2.at_ (by simp) rfl (fun w3 hS3 => ?_)
    have hnb3 : w3.heap[w1.heap.size]? = some (.cells ⟨[.int .i64 9, str [], .slice none 0 0, .slice none 0 0]⟩ 37 (0, 0)) := by simpa using hS3.at_
    have hr3 := hS3.keep (hA2.keep hr1) (by omega)
    have hU3 : Up B w w3 := (hU1.trans (hA2.up (by omega))).trans (hS3.up (by omega))
    have hsz3 : w3.heap.size = w1.heap.size + 1 := by rw [hS3.size, hA2.size]
    generalize hnb : w1.heap.size = nb at *
    clear hS3 hA2
    repeat (first | refine WL.pp rfl ?_ | refine WL.ns ?_ | refine WC.sr ?_ | refine WL.bo rfl rfl (shrUU n 2 (by omega) _ _ _) rfl ?_ | refine WC.seq ?_)
    refine WL.bo rfl rfl (remU _ 4 (by omega) _ _) rfl ?_
    repeat (first | refine WL.pp rfl ?_ | refine WL.ns ?_ | refine WC.block ?_)
    refine WC.loop (σ := Nat × Value) (I := fun s w' => (∃ xs, w'.ownsRow (nb + 1) 37 4 s.2 s.1 xs ∧ NdEs w' (fun b => nb < b ∧ s.2.ownBlock ≠ some b) ((List.range s.1).map fun k => (nms ((n / 2 ^ 4 + k * 977 % UU) % UU), mt d ((n * 2654435761 % UU + k) % UU))) xs) ∧
      w'.heap[nb]? = some (.cells ⟨[.int .i64 9, str [], s.2, .slice none 0 0]⟩ 37 (0, 0)) ∧ w'.heap[B]? = some (.cells ⟨[.int .i64 0, str [], .slice none 0 0, .slice none 0 0]⟩ 37 (0, 0)) ∧ Up B w w' ∧ s.1 ≤ n / 2 ^ 2 % 4)
      (m := fun s => n / 2 ^ 2 % 4 - s.1) (Lf := fun s => [(0, .int .u32 (n : Int)), (1, .int .i64 ((d + 1 : Nat) : Int)), (4, .pointer (some ⟨B, 0, none⟩)), (5, .pointer (some ⟨nb, 0, none⟩)), (21, .int .u32 ((n / 2 ^ 2 % 4 : Nat) : Int)), (22, .int .u32 (s.1 : Int))])
      (0, .slice none 0 0) ⟨⟨[], World.ownsRow_nil w3 _ _ _, by simp [NdEs]⟩, hnb3, hr3, hU3, Nat.zero_le _⟩ ⟨rfl, rfl, rfl, rfl, rfl, rfl, trivial⟩ ?_
    clear hnb3 hr3 hU3 hsz3 hU1 hr1 w3
    rintro ⟨k, ev⟩ w2 ⟨⟨xs, hO, hN⟩, hb, hr, hU, hk⟩
    dsimp only at hO hN hb hk ⊢
    have hsz2 : B ≤ w2.heap.size := by rw [← hB]; exact hU.size
    have hnbl2 := lt_of_heap hb
    by_cases hlt : k < n / 2 ^ 2 % 4
    · repeat (first | refine WL.pp rfl ?_ | refine WL.ns ?_ | refine WC.sr ?_ | refine WC.dT rfl (by first | omega | decide) ?_ | refine WL.bo rfl rfl (mulU n 2654435761 _ _) rfl ?_ | refine WC.seq ?_ | refine WC.block ?_ | refine X.sn ?_ | refine WC.skip ?_)
      refine WL.bo rfl rfl (addU _ k _ _) rfl ?_
      repeat (first | refine WL.pp rfl ?_ | refine WL.su rfl rfl (by omega) rfl ?_)
      have hcall := ih ((n * 2654435761 % UU + k) % UU) w2 (Nat.mod_lt _ (by decide))
      have e1 : (((d + 1 : Nat) : Int) - 1) = (d : Int) := by omega
      rw [e1]
      refine WL.call rfl rfl rfl hcall ?_
      rintro e w3 ⟨a, b, c, kv0, rfl, hNv, hRv, hU3⟩
      refine ⟨_, _, rfl, rfl, ?_⟩
      obtain ⟨o1, o2, o3, _⟩ := hNv.one
      have o4 := hRv.one
      refine WL.al rfl rfl rfl (fun w4 hA4 => ?_)
      refine WL.sg rfl rfl rfl (by simp [o1, o2, o3, o4]) hA4.at_ (by simp) rfl (fun w5 hS5 => ?_)
      have hb5 : w5.heap[w3.heap.size]? = some (.cells ⟨[a, b, c, kv0]⟩ 37 (0, 0)) := by simpa using hS5.at_
      have hsz3 := hU3.size
      have hU35 : Up w3.heap.size w3 w5 := (hA4.up (Nat.le_refl _)).trans (hS5.up (Nat.le_refl _))
      have hsz5 : w5.heap.size = w3.heap.size + 1 := by rw [hS5.size, hA4.size]
      generalize htb : w3.heap.size = tb at *
      clear hA4 hS5
      repeat (first | refine WL.pp rfl ?_ | refine WL.ns ?_ | refine WC.sr ?_ | refine WL.bo rfl rfl (shrUU n 4 (by omega) _ _ _) rfl ?_)
      refine WL.bo rfl rfl (mulU k 977 _ _) rfl ?_
      refine WL.bo rfl rfl (addU _ _ _ _) rfl ?_
      refine WL.call rfl rfl rfl (namesOf_any ((n / 2 ^ 4 + k * 977 % UU) % UU) w5) ?_
      rintro e w6 ⟨kv, rfl, hRk, hU6⟩
      refine ⟨_, _, rfl, rfl, ?_⟩
      have hb6 := hU6.at (by omega) hb5
      have o5 := hRk.one
      repeat (refine WL.pp rfl ?_)
      refine WL.stB rfl rfl o5 hb6 rfl rfl (fun w7 hS7 => ?_)
      have hb7 : w7.heap[tb]? = some (.cells ⟨[a, b, c, kv]⟩ 37 (0, 0)) := hS7.at_
      have hsz6 := hU6.size
      have hsz7 := hS7.size
      have hU37 : Up tb w3 w7 := (hU35.trans (hU6.mono (by omega))).trans (hS7.up (Nat.le_refl _))
      have hU27 : Up w2.heap.size w2 w7 := hU3.trans (hU37.mono hsz3)
      have hRk7 : RS w7 (fun g => w5.heap.size ≤ g) kv (nms ((n / 2 ^ 4 + k * 977 % UU) % UU)) := hRk.keep fun g o hg ho _ => hS7.keep ho (by omega)
      have hNv7 : Nd w7 (fun g => w2.heap.size ≤ g) _ a b c := Nd.move (Moved.up (by rw [htb]; exact hU37) (fun b h _ => h)) _ _ _ _ hNv
      have hnb7 := hU27.at (lt_of_heap hb) hb
      have hr7 := hU27.at (lt_of_heap hr) hr
      have hO7 : w7.ownsRow (nb + 1) 37 4 ev k xs := own_same hO (fun g o hg h => hU27.at (lt_of_heap h) h)
      have hN7 := NdEs.move (Moved.up (P' := fun b => nb < b ∧ ev.ownBlock ≠ some b) hU27 (fun b h _ => h)) _ _ hN
      have hown : ∀ g, ev.ownBlock = some g → g < w2.heap.size := fun g hg => (hO.lt g hg).2
      repeat (first | refine WL.pp rfl ?_ | refine WL.ns ?_ | refine WL.ldB (b := nb) (i := 2) rfl rfl hnb7 rfl rfl ?_ | refine WL.lgB (b := tb) rfl rfl hb7 rfl rfl ?_ | refine WC.reg ?_)
      refine WL.bs rfl rfl (bsNd _ _ _ _) rfl (fun w8 hA8 => ?_)
      have hO8 : w8.ownsRow (nb + 1) 37 4 ev k xs := own_same hO7 (fun g o hg h => hA8.keep h)
      have hmv8 : ∀ (P : Nat → Prop), Moved P P w7 w8 := fun P => Moved.up (hA8.up (Nat.le_refl _)) (fun b h _ => h)
      have hnbl := lt_of_heap hnb7
      refine WL.apo (m := 1) [a, b, c, kv] rfl rfl (rfl : rowT 35 = some (37, 4)) hO8 rfl (fun j u hu => ?_) (fun u hu => ?_) (by omega) (by rw [hA8.size]; omega) (fun ev' w9 hO9 hF9 hG1 hG2 => ?_)
      · rw [add_zero]
        exact cell_of hA8.at_ (by simpa using hu)
      · simp only [List.mem_cons, List.not_mem_nil, or_false] at hu
        rcases hu with rfl | rfl | rfl | rfl <;> assumption
      have hnb9 : w9.heap[nb]? = some (.cells ⟨[.int .i64 9, str [], ev, .slice none 0 0]⟩ 37 (0, 0)) := by
        have := hA8.keep hnb7
        rw [hG1 nb (lt_of_heap this) (fun h => by have := (hO8.lt nb h).1; omega)]
        exact this
      have hr9 : w9.heap[B]? = some (.cells ⟨[.int .i64 0, str [], .slice none 0 0, .slice none 0 0]⟩ 37 (0, 0)) := by
        have := hA8.keep hr7
        rw [hG1 B (lt_of_heap this) (fun h => by have := (hO8.lt B h).1; omega)]
        exact this
      have hone' : oneV ev' = true := by
        rcases hO9.2 with ⟨rfl, _⟩ | ⟨g, cap, cur, rfl, _⟩ <;> rfl
      refine ⟨_, rfl, ?_⟩
      repeat (refine WL.pp rfl ?_)
      refine WL.stB rfl rfl hone' hnb9 rfl rfl (fun w10 hS10 => ?_)
      have hO10 : w10.ownsRow (nb + 1) 37 4 ev' (k + 1) (xs ++ [a, b, c, kv]) := own_same hO9 (fun g o hg h => hS10.keep h (by have := (hO9.lt g hg).1; omega))
      have mvA : ∀ (P : Nat → Prop), (∀ b, P b → nb < b ∧ ev.ownBlock ≠ some b) → Moved P (fun b => nb < b ∧ ev'.ownBlock ≠ some b) w7 w10 := fun P hP => ((hmv8 P).trans (Moved.ap hG1 hG2 hP)).trans (Moved.st hS10 (fun b h => h.1))
      have hfin : NdEs w10 (fun b => nb < b ∧ ev'.ownBlock ≠ some b) ((List.range (k + 1)).map fun k => (nms ((n / 2 ^ 4 + k * 977 % UU) % UU), mt d ((n * 2654435761 % UU + k) % UU))) (xs ++ [a, b, c, kv]) := by
        rw [range_snoc]
        refine NdEs.snoc (NdEs.move (mvA _ (fun b h => h)) _ _ hN7) (by rw [hO.1]; simp) (Nd.move (mvA _ (fun b h => ⟨by omega, fun e => by have := hown b e; omega⟩)) _ _ _ _ hNv7) (RS.move (mvA _ (fun b h => ⟨by omega, fun e => by have := hown b e; omega⟩)) hRk7)
      have hU10 : Up B w w10 := ((hU.trans (hU27.mono hsz2)).trans (hA8.up (by omega))).trans ((hF9.up.mono (by omega)).trans (hS10.up (by omega)))
      repeat (first | refine WL.pp rfl ?_ | refine WL.adu rfl rfl (by omega) rfl ?_ | refine WC.reg ?_ | refine WL.nil ?_ | refine X.sn ?_ | refine X.bn ?_)
      exact X.again (k + 1, ev') ⟨⟨_, hO10, hfin⟩, hS10.at_, hS10.keep hr9 (by omega), hU10, by dsimp only; omega⟩ (by dsimp only; omega) ⟨rfl, rfl, rfl, rfl, rfl, rfl, trivial⟩
    · have hke : k = n / 2 ^ 2 % 4 := by omega
      subst hke
      have hone' : oneV ev = true := by
        rcases hO.2 with ⟨rfl, _⟩ | ⟨g, cap, cur, rfl, _⟩ <;> rfl
      repeat (first | refine WL.pp rfl ?_ | refine WL.ns ?_ | refine WC.sr ?_ | refine WC.dF rfl (by first | omega | decide) ?_ | refine WL.lgB (b := nb) rfl rfl hb rfl rfl ?_ | refine WC.seq ?_ | refine X.sn ?_ | refine X.sx ?_ | refine X.bx ?_ | refine WC.exit ?_)
      refine WL.sg rfl rfl rfl (by simpa [oneV] using hone') hr (by simp) rfl (fun w3 hS3 => ?_)
      have hU3 : Up B w w3 := hU.trans (hS3.up (Nat.le_refl _))
      have hr3 : w3.heap[B]? = some (.cells ⟨[.int .i64 9, str [], ev, .slice none 0 0]⟩ 37 (0, 0)) := by simpa using hS3.at_
      repeat (first | refine WL.ns ?_ | refine X.sr ?_ | refine X.br ?_ | refine WC.ret ?_)
      refine X.retC rfl rfl rfl hr3 rfl ⟨_, _, _, _, rfl, ?_, RS.nil _ _, hU3⟩
      have hO3 : w3.ownsRow (nb + 1) 37 4 ev (n / 2 ^ 2 % 4) xs := own_same hO (fun g o hg h => hS3.keep h (by have := (hO.lt g hg).1; omega))
      have hN3 : NdEs w3 (fun g => B ≤ g) _ xs := NdEs.move (P' := fun g => B ≤ g) (fun b o hb ho _ => ⟨hS3.keep ho (by have := hb.1; omega), by have := hb.1; omega⟩) _ _ hN
      rw [Nd]
      refine ⟨rfl, rfl, ?_⟩
      rw [List.length_map, List.length_range]
      by_cases hz : n / 2 ^ 2 % 4 = 0
      · rcases hO3.2 with ⟨rfl, _⟩ | ⟨g, cap, cur, rfl, _⟩
        · exact ⟨none, 0, by rw [hz], fun h => by simp [hz] at h⟩
        · exact ⟨_, cap, rfl, fun h => by simp [hz] at h⟩
      · obtain ⟨g, cap, cur, rfl, hg, hgc⟩ := row_cur hO3 hz
        exact ⟨_, cap, rfl, fun _ => ⟨g, xs ++ cur, by omega, rfl, hgc, NdEs.more cur hN3⟩⟩
  · by_cases h1 : n % 4 = 1
    · have hmt : mt (d + 1) n = .arr ((List.range (n / 2 ^ 2 % 3)).map fun k => mt d ((n * 40503 % UU + k) % UU)) := by simp [mt, h1]
      rw [hmt]
      have hk3 : n / 2 ^ 2 % 3 < 3 := Nat.mod_lt _ (by omega)
      repeat (first | refine WL.pp rfl ?_ | refine WL.ns ?_ | refine WC.sr ?_ | refine WC.dT rfl (by first | omega | decide) ?_ | refine WC.dF rfl (by first | omega | decide) ?_ | refine WL.bo rfl rfl (remU n 4 (by omega) _ _) rfl ?_ | refine WL.p rfl ?_ | refine WC.seq ?_ | refine WC.block ?_ | refine WL.gT rfl rfl (by first | omega | decide) ?_)
      refine WL.bd rfl rfl (bdKind _) rfl ?_
      refine WL.al rfl rfl rfl (fun w2 hA2 => ?_)
      refine WL.sg rfl rfl rfl (by simp [oneV]) hA2.at_ (by simp) rfl (fun w3 hS3 => ?_)
      have hnb3 : w3.heap[w1.heap.size]? = some (.cells ⟨[.int .i64 8, str [], .slice none 0 0, .slice none 0 0]⟩ 37 (0, 0)) := by simpa using hS3.at_
      have hr3 := hS3.keep (hA2.keep hr1) (by omega)
      have hU3 : Up B w w3 := (hU1.trans (hA2.up (by omega))).trans (hS3.up (by omega))
      have hsz3 : w3.heap.size = w1.heap.size + 1 := by rw [hS3.size, hA2.size]
      generalize hnb : w1.heap.size = nb at *
      clear hS3 hA2
      repeat (first | refine WL.pp rfl ?_ | refine WL.ns ?_ | refine WC.sr ?_ | refine WL.bo rfl rfl (shrUU n 2 (by omega) _ _ _) rfl ?_ | refine WC.seq ?_)
      refine WL.bo rfl rfl (remU _ 3 (by omega) _ _) rfl ?_
      repeat (first | refine WL.pp rfl ?_ | refine WL.ns ?_ | refine WC.block ?_)
      refine WC.loop (σ := Nat × Value) (I := fun s w' => (∃ xs, w'.ownsRow (nb + 1) 37 4 s.2 s.1 xs ∧ NdIs w' (fun b => nb < b ∧ s.2.ownBlock ≠ some b) ((List.range s.1).map fun k => mt d ((n * 40503 % UU + k) % UU)) xs) ∧
        w'.heap[nb]? = some (.cells ⟨[.int .i64 8, str [], s.2, .slice none 0 0]⟩ 37 (0, 0)) ∧ w'.heap[B]? = some (.cells ⟨[.int .i64 0, str [], .slice none 0 0, .slice none 0 0]⟩ 37 (0, 0)) ∧ Up B w w' ∧ s.1 ≤ n / 2 ^ 2 % 3)
        (m := fun s => n / 2 ^ 2 % 3 - s.1) (Lf := fun s => [(0, .int .u32 (n : Int)), (1, .int .i64 ((d + 1 : Nat) : Int)), (4, .pointer (some ⟨B, 0, none⟩)), (8, .pointer (some ⟨nb, 0, none⟩)), (58, .int .u32 ((n / 2 ^ 2 % 3 : Nat) : Int)), (59, .int .u32 (s.1 : Int))])
        (0, .slice none 0 0) ⟨⟨[], World.ownsRow_nil w3 _ _ _, by simp [NdIs]⟩, hnb3, hr3, hU3, Nat.zero_le _⟩ ⟨rfl, rfl, rfl, rfl, rfl, rfl, trivial⟩ ?_
      clear hnb3 hr3 hU3 hsz3 hU1 hr1 w3
      rintro ⟨k, ev⟩ w2 ⟨⟨xs, hO, hN⟩, hb, hr, hU, hk⟩
      dsimp only at hO hN hb hk ⊢
      have hsz2 : B ≤ w2.heap.size := by rw [← hB]; exact hU.size
      have hnbl2 := lt_of_heap hb
      by_cases hlt : k < n / 2 ^ 2 % 3
      · repeat (first | refine WL.pp rfl ?_ | refine WL.ns ?_ | refine WC.sr ?_ | refine WC.dT rfl (by first | omega | decide) ?_ | refine WC.seq ?_ | refine WC.block ?_ | refine X.sn ?_ | refine WC.skip ?_)
        refine WC.draw (fun _ => True) ?_
        have hUd : Up B w w2.drew := hU.drew
        have hbd : w2.drew.heap[nb]? = _ := hb
        have hrd : w2.drew.heap[B]? = _ := hr
        have hOd : w2.drew.ownsRow (nb + 1) 37 4 ev k xs := own_same hO (fun _ _ _ h => h)
        have hNd := NdIs.move (P := fun b => nb < b ∧ ev.ownBlock ≠ some b) (P' := fun b => nb < b ∧ ev.ownBlock ≠ some b) (w := w2) (w' := w2.drew) (fun b o hb ho _ => ⟨ho, hb⟩) _ _ hN
        generalize w2.drew = w2 at hUd hbd hrd hOd hNd
        have hsz2 : B ≤ w2.heap.size := by rw [← hB]; exact hUd.size
        have hnbl2 := lt_of_heap hbd
        clear hU hb hr hO hN
        have hcall := ih ((n * 40503 % UU + k) % UU) w2 (Nat.mod_lt _ (by decide))
        have hown : ∀ g, ev.ownBlock = some g → g < w2.heap.size := fun g hg => (hOd.lt g hg).2
        have e1 : (((d + 1 : Nat) : Int) - 1) = (d : Int) := by omega
        -- behind the call, the new row and the append
        have fin : ∀ (w3 : World) (a b c kv0 : Value), Nd w3 (fun g => w2.heap.size ≤ g) (mt d ((n * 40503 % UU + k) % UU)) a b c → RS w3 (fun g => w2.heap.size ≤ g) kv0 [] → Up w2.heap.size w2 w3 → ∀ (w8 : World), Al w3 (.cells ⟨[a, b, c, kv0]⟩ 37 (0, 0)) w8 →
            ∃ ev' w9 w10, (Builtin.append_ #[35, 35] 35 #[ev, .slice (some ⟨w3.heap.size, 0, none⟩) 1 1]).run PP w8 = .ok ev' w9 ∧ oneV ev' = true ∧ w9.heap[nb]? = some (.cells ⟨[.int .i64 8, str [], ev, .slice none 0 0]⟩ 37 (0, 0)) ∧ w9.setCell ⟨nb, 2, none⟩ ev' = w10 ∧
              (∃ xs', w10.ownsRow (nb + 1) 37 4 ev' (k + 1) xs' ∧ NdIs w10 (fun b => nb < b ∧ ev'.ownBlock ≠ some b) ((List.range (k + 1)).map fun k => mt d ((n * 40503 % UU + k) % UU)) xs') ∧
              w10.heap[nb]? = some (.cells ⟨[.int .i64 8, str [], ev', .slice none 0 0]⟩ 37 (0, 0)) ∧ w10.heap[B]? = some (.cells ⟨[.int .i64 0, str [], .slice none 0 0, .slice none 0 0]⟩ 37 (0, 0)) ∧ Up B w w10 := by
          intro w3 a b c kv0 hNv hRv hU3 w8 hA8
          obtain ⟨o1, o2, o3, _⟩ := hNv.one
          have o4 := hRv.one
          have hsz3 := hU3.size
          have hU28 : Up w2.heap.size w2 w8 := hU3.trans (hA8.up hsz3)
          have hO8 : w8.ownsRow (nb + 1) 37 4 ev k xs := own_same hOd (fun g o hg h => hU28.at (lt_of_heap h) h)
          obtain ⟨ev', w9, hrun, hO9, hF9, hG1, hG2⟩ := apLaw (m := 1) (c := 1) 35 [a, b, c, kv0] (rfl : rowT 35 = some (37, 4)) hO8 rfl (fun j u hu => by
            rw [add_zero]
            exact cell_of hA8.at_ (by simpa using hu)) (fun u hu => by
            simp only [List.mem_cons, List.not_mem_nil, or_false] at hu
            rcases hu with rfl | rfl | rfl | rfl <;> assumption) (by omega) (by rw [hA8.size]; omega)
          have hone' : oneV ev' = true := by
            rcases hO9.2 with ⟨rfl, _⟩ | ⟨g, cap, cur, rfl, _⟩ <;> rfl
          have hnb8 := hU28.at hnbl2 hbd
          have hr8 := hU28.at (lt_of_heap hrd) hrd
          have hnb9 : w9.heap[nb]? = some (.cells ⟨[.int .i64 8, str [], ev, .slice none 0 0]⟩ 37 (0, 0)) := by
            rw [hG1 nb (lt_of_heap hnb8) (fun h => by have := (hO8.lt nb h).1; omega)]
            exact hnb8
          have hr9 : w9.heap[B]? = some (.cells ⟨[.int .i64 0, str [], .slice none 0 0, .slice none 0 0]⟩ 37 (0, 0)) := by
            rw [hG1 B (lt_of_heap hr8) (fun h => by have := (hO8.lt B h).1; omega)]
            exact hr8
          have hS10 := setCell_st (i := 2) ev' hnb9
          have mvA : ∀ (P : Nat → Prop) (w7 : World), Moved P P w7 w8 → (∀ b, P b → nb < b ∧ ev.ownBlock ≠ some b) → Moved P (fun b => nb < b ∧ ev'.ownBlock ≠ some b) w7 (w9.setCell ⟨nb, 2, none⟩ ev') := fun P w7 h7 hP => (h7.trans (Moved.ap hG1 hG2 hP)).trans (Moved.st hS10 (fun b h => h.1))
          refine ⟨ev', w9, _, hrun, hone', hnb9, rfl, ⟨xs ++ [a, b, c, kv0], own_same hO9 (fun g o hg h => hS10.keep h (by have := (hO9.lt g hg).1; omega)), ?_⟩, hS10.at_, hS10.keep hr9 (by omega), ?_⟩
          · rw [range_snoc]
            refine NdIs.snoc (NdIs.move (mvA _ w2 (Moved.up hU28 (fun b h _ => h)) (fun b h => h)) _ _ hNd) (by rw [hOd.1]; simp) (Nd.move (mvA _ w3 (Moved.up (hA8.up (Nat.le_refl _)) (fun b h _ => h)) (fun b h => ⟨by omega, fun e => by have := hown b e; omega⟩)) _ _ _ _ hNv) (RS.move (mvA _ w3 (Moved.up (hA8.up (Nat.le_refl _)) (fun b h _ => h)) (fun b h => ⟨by omega, fun e => by have := hown b e; omega⟩)) hRv)
          · exact ((hUd.trans (hU28.mono hsz2))).trans ((hF9.up.mono (by omega)).trans (hS10.up (by omega)))
        refine WD.tp 0 rfl (by kernel_rfl) POk.ok trivial rfl ?_
        refine WD.tp 2 rfl (by kernel_rfl) POk.ok trivial rfl ?_
        refine WD.tp 4 rfl (by kernel_rfl) POk.ok trivial rfl ?_
        refine WD.tp 6 rfl (by kernel_rfl) POk.ok trivial rfl ?_
        refine WD.tb 3 rfl (by kernel_rfl) POk.ok trivial rfl rfl (fun w => mulU n 40503 _ w) rfl ?_
        refine WD.tb 5 rfl (by kernel_rfl) POk.ok trivial rfl rfl (fun w => addU _ k _ w) rfl ?_
        refine WD.ta 7 rfl (by kernel_rfl) POk.ok trivial rfl rfl (by simp only [arV]; omega) rfl ?_
        have e2 : arV .sub ((d + 1 : Nat) : Int) 1 = (d : Int) := by simp only [arV]; omega
        have hld : ∀ w' : World, w'.heap[nb]? = some (.cells ⟨[.int .i64 8, str [], ev, .slice none 0 0]⟩ 37 (0, 0)) → w'.cell? ⟨nb, 2, none⟩ = some ev := fun w' h => cell_of h rfl
        refine WD.a2 1 8 (by kernel_rfl) ?_ ?_
        · refine WDo.v rfl rfl (fun a hf => ldA_run hf rfl (hld w2 hbd)) trivial rfl ?_
          refine WD.a1 8 (by kernel_rfl) ?_
          refine WDo.c rfl rfl rfl rfl (by rw [e2]; exact hcall) ?_
          rintro e w3 ⟨a, b, c, kv0, rfl, hNv, hRv, hU3⟩
          refine ⟨_, _, rfl, rfl, trivial, ?_⟩
          refine WD.a1 9 (by kernel_rfl) ?_
          refine WDo.v rfl rfl (fun ac hf => by rw [bsA_run hf rfl]; simp only [Sem.run_bind, bsNd, Result.andThen_ok, Sem.run_pure]; rfl) trivial rfl ?_
          have hA8 := alloc_al w3 (.cells ⟨[a, b, c, kv0]⟩ 37 (0, 0))
          generalize w3.alloc (.cells ⟨[a, b, c, kv0]⟩ 37 (0, 0)) = w8 at hA8
          obtain ⟨ev', w9, w10, q1, q2, q3, q4, q5, q6, q7, q8⟩ := fin w3 a b c kv0 hNv hRv hU3 w8 hA8
          refine WD.a1 10 (by kernel_rfl) ?_
          refine WDo.v rfl rfl (fun ac hf => by rw [apA_run hf rfl]; simp only [Sem.run_bind, q1, Result.andThen_ok, Sem.run_pure]; rfl) trivial rfl ?_
          refine WD.tp 11 rfl (by kernel_rfl) POk.ok trivial rfl ?_
          refine WD.rk 12 (by kernel_rfl) rfl rfl (fun ac hf => stA_run hf rfl q2 q3 rfl) trivial rfl ?_
          rw [q4]
          refine WD.nil (by kernel_rfl) ?_
          repeat (first | refine WL.pp rfl ?_ | refine WL.adu rfl rfl (by omega) rfl ?_ | refine WC.reg ?_ | refine WL.nil ?_ | refine X.sn ?_ | refine X.bn ?_)
          exact X.again (k + 1, ev') ⟨q5, q6, q7, q8, by dsimp only; omega⟩ (by dsimp only; omega) ⟨rfl, rfl, rfl, rfl, rfl, rfl, trivial⟩
        · refine WDo.c rfl rfl rfl rfl (by rw [e2]; exact hcall) ?_
          rintro e w3 ⟨a, b, c, kv0, rfl, hNv, hRv, hU3⟩
          refine ⟨_, _, rfl, rfl, trivial, ?_⟩
          refine WD.a2 1 9 (by kernel_rfl) ?_ ?_
          · refine WDo.v rfl rfl (fun a hf => ldA_run hf rfl (hld w3 (hU3.at hnbl2 hbd))) trivial rfl ?_
            refine WD.a1 9 (by kernel_rfl) ?_
            refine WDo.v rfl rfl (fun ac hf => by rw [bsA_run hf rfl]; simp only [Sem.run_bind, bsNd, Result.andThen_ok, Sem.run_pure]; rfl) trivial rfl ?_
            have hA8 := alloc_al w3 (.cells ⟨[a, b, c, kv0]⟩ 37 (0, 0))
            generalize w3.alloc (.cells ⟨[a, b, c, kv0]⟩ 37 (0, 0)) = w8 at hA8
            obtain ⟨ev', w9, w10, q1, q2, q3, q4, q5, q6, q7, q8⟩ := fin w3 a b c kv0 hNv hRv hU3 w8 hA8
            refine WD.a1 10 (by kernel_rfl) ?_
            refine WDo.v rfl rfl (fun ac hf => by rw [apA_run hf rfl]; simp only [Sem.run_bind, q1, Result.andThen_ok, Sem.run_pure]; rfl) trivial rfl ?_
            refine WD.tp 11 rfl (by kernel_rfl) POk.ok trivial rfl ?_
            refine WD.rk 12 (by kernel_rfl) rfl rfl (fun ac hf => stA_run hf rfl q2 q3 rfl) trivial rfl ?_
            rw [q4]
            refine WD.nil (by kernel_rfl) ?_
            repeat (first | refine WL.pp rfl ?_ | refine WL.adu rfl rfl (by omega) rfl ?_ | refine WC.reg ?_ | refine WL.nil ?_ | refine X.sn ?_ | refine X.bn ?_)
            exact X.again (k + 1, ev') ⟨q5, q6, q7, q8, by dsimp only; omega⟩ (by dsimp only; omega) ⟨rfl, rfl, rfl, rfl, rfl, rfl, trivial⟩
          · refine WDo.v rfl rfl (fun ac hf => by rw [bsA_run hf rfl]; simp only [Sem.run_bind, bsNd, Result.andThen_ok, Sem.run_pure]; rfl) trivial rfl ?_
            have hA8 := alloc_al w3 (.cells ⟨[a, b, c, kv0]⟩ 37 (0, 0))
            generalize w3.alloc (.cells ⟨[a, b, c, kv0]⟩ 37 (0, 0)) = w8 at hA8
            refine WD.a1 1 (by kernel_rfl) ?_
            refine WDo.v rfl rfl (fun a hf => ldA_run hf rfl (hld w8 (hA8.keep (hU3.at hnbl2 hbd)))) trivial rfl ?_
            obtain ⟨ev', w9, w10, q1, q2, q3, q4, q5, q6, q7, q8⟩ := fin w3 a b c kv0 hNv hRv hU3 w8 hA8
            refine WD.a1 10 (by kernel_rfl) ?_
            refine WDo.v rfl rfl (fun ac hf => by rw [apA_run hf rfl]; simp only [Sem.run_bind, q1, Result.andThen_ok, Sem.run_pure]; rfl) trivial rfl ?_
            refine WD.tp 11 rfl (by kernel_rfl) POk.ok trivial rfl ?_
            refine WD.rk 12 (by kernel_rfl) rfl rfl (fun ac hf => stA_run hf rfl q2 q3 rfl) trivial rfl ?_
            rw [q4]
            refine WD.nil (by kernel_rfl) ?_
            repeat (first | refine WL.pp rfl ?_ | refine WL.adu rfl rfl (by omega) rfl ?_ | refine WC.reg ?_ | refine WL.nil ?_ | refine X.sn ?_ | refine X.bn ?_)
            exact X.again (k + 1, ev') ⟨q5, q6, q7, q8, by dsimp only; omega⟩ (by dsimp only; omega) ⟨rfl, rfl, rfl, rfl, rfl, rfl, trivial⟩
      · have hke : k = n / 2 ^ 2 % 3 := by omega
        subst hke
        have hone' : oneV ev = true := by
          rcases hO.2 with ⟨rfl, _⟩ | ⟨g, cap, cur, rfl, _⟩ <;> rfl
        repeat (first | refine WL.pp rfl ?_ | refine WL.ns ?_ | refine WC.sr ?_ | refine WC.dF rfl (by first | omega | decide) ?_ | refine WL.lgB (b := nb) rfl rfl hb rfl rfl ?_ | refine WC.seq ?_ | refine X.sn ?_ | refine X.sx ?_ | refine X.bx ?_ | refine WC.exit ?_)
        refine WL.sg rfl rfl rfl (by simpa [oneV] using hone') hr (by simp) rfl (fun w3 hS3 => ?_)
        have hU3 : Up B w w3 := hU.trans (hS3.up (Nat.le_refl _))
        have hr3 : w3.heap[B]? = some (.cells ⟨[.int .i64 8, str [], ev, .slice none 0 0]⟩ 37 (0, 0)) := by simpa using hS3.at_
        repeat (first | refine WL.ns ?_ | refine X.sr ?_ | refine X.br ?_ | refine WC.ret ?_)
        refine X.retC rfl rfl rfl hr3 rfl ⟨_, _, _, _, rfl, ?_, RS.nil _ _, hU3⟩
        have hO3 : w3.ownsRow (nb + 1) 37 4 ev (n / 2 ^ 2 % 3) xs := own_same hO (fun g o hg h => hS3.keep h (by have := (hO.lt g hg).1; omega))
        have hN3 : NdIs w3 (fun g => B ≤ g) _ xs := NdIs.move (P' := fun g => B ≤ g) (fun b o hb ho _ => ⟨hS3.keep ho (by have := hb.1; omega), by have := hb.1; omega⟩) _ _ hN
        rw [Nd]
        refine ⟨rfl, rfl, ?_⟩
        rw [List.length_map, List.length_range]
        by_cases hz : n / 2 ^ 2 % 3 = 0
        · rcases hO3.2 with ⟨rfl, _⟩ | ⟨g, cap, cur, rfl, _⟩
          · exact ⟨none, 0, by rw [hz], fun h => by simp [hz] at h⟩
          · exact ⟨_, cap, rfl, fun h => by simp [hz] at h⟩
        · obtain ⟨g, cap, cur, rfl, hg, hgc⟩ := row_cur hO3 hz
          exact ⟨_, cap, rfl, fun _ => ⟨g, xs ++ cur, by omega, rfl, hgc, NdIs.more cur hN3⟩⟩
    · have hmt : mt (d + 1) n = .sc 1 [55] := by simp [mt, h0, h1]
      rw [hmt]
      repeat (first | refine WL.pp rfl ?_ | refine WL.ns ?_ | refine WC.sr ?_ | refine WC.dF rfl (by first | omega | decide) ?_ | refine WL.bo rfl rfl (remU n 4 (by omega) _ _) rfl ?_ | refine WL.p rfl ?_ | refine WC.seq ?_ | refine WC.block ?_ | refine X.sn ?_ | refine X.bn ?_ | refine WC.skip ?_ | refine WL.gT rfl rfl (by first | omega | decide) ?_)
      refine WL.bd rfl rfl bd7 rfl ?_
      refine WL.sg rfl rfl rfl (by simp [oneV]) hr1 (by simp) rfl (fun w3 hS3 => ?_)
      have hr3 : w3.heap[B]? = some (.cells ⟨[.int .i64 1, str [55], .slice none 0 0, .slice none 0 0]⟩ 37 (0, 0)) := by simpa using hS3.at_
      repeat (first | refine WL.ns ?_ | refine WC.ret ?_)
      exact X.retC rfl rfl rfl hr3 rfl ⟨_, _, _, _, rfl, nd7 _ _, RS.nil _ _, hU1.trans (hS3.up (Nat.le_refl _))⟩

set_option maxRecDepth 10000 in
set_option maxHeartbeats 8000000 in
theorem mtC_zero : MtC 0 := by
  intro n w hn
  refine enter (L := [(0, .int .u32 (n : Int)), (1, .int .i64 ((0 : Nat) : Int))]) Tryz.func14 rfl rfl rfl ⟨rfl, rfl, trivial⟩ ?_
  repeat (refine WC.sr ?_)
  refine WL.al rfl rfl rfl (fun w1 hA => ?_)
  repeat (first | refine WL.pp rfl ?_ | refine WL.ns ?_ | refine WC.sr ?_ | refine WC.bF rfl (by first | with_reducible rfl | exact Bool.not_true) ?_ | refine WL.p rfl ?_ | refine WC.seq ?_ | refine WC.block ?_ | refine X.sn ?_ | refine X.bn ?_ | refine WC.skip ?_ | refine WL.gF rfl rfl (by first | omega | decide) ?_)
  refine WL.bd rfl rfl bd7 rfl ?_
  refine WL.sg rfl rfl rfl (by simp [oneV]) hA.at_ (by simp) rfl (fun w3 hS3 => ?_)
  have hr3 : w3.heap[w.heap.size]? = some (.cells ⟨[.int .i64 1, str [55], .slice none 0 0, .slice none 0 0]⟩ 37 (0, 0)) := by simpa using hS3.at_
  repeat (first | refine WL.ns ?_ | refine WC.ret ?_)
  exact X.retC rfl rfl rfl hr3 rfl ⟨_, _, _, _, rfl, nd7 _ _, RS.nil _ _, (hA.up (Nat.le_refl _)).trans (hS3.up (Nat.le_refl _))⟩

theorem mtC_all (d : Nat) (hd : d ≤ 5) : MtC d := by
  induction d with
  | zero => exact mtC_zero
  | succ d ih => exact mtC_step d (by omega) (ih (by omega))
end Go.Proofs.YtaccphdkapmdhaaGreat

namespace Go.Proofs.YtaccphdkapmdhaaGreat

section
attribute [local semireducible] WL WC X WD WX
variable {all : List Oper} {Q : Exit → Act → World → Prop} {N : Nat} {L L' : Env} {o : Oper} {rest : List Oper} {w : World}

def mnA (L : Env) (op : Op) : Option (Int × Int) :=
  match op with
  | .call ⟨.builtin .min, ⟨[x, y]⟩, _⟩ => match ev L x, ev L y with
    | some (.int .i64 a), some (.int .i64 b) => some (a, b)
    | _, _ => none
  | _ => none

/-- 'min' of two whole numbers. -/
theorem WL.mn {a b : Nat} (m : Nat) (hg : grd all L o = some true) (h : mnA L o.op = some ((a : Int), (b : Int))) (hm : m = min a b) (hd : dstE N o (.int .i64 (m : Int)) L = some L') (k : WL all Q N L' rest w) : WL all Q N L (o :: rest) w := by
  refine WL.of_run hg (fun ac hf => ?_) hd k
  obtain ⟨dst, op, ty, pos, after, guard⟩ := o
  simp only at h
  unfold mnA at h
  split at h
  · rename_i x y t
    split at h
    · rename_i a' b' hx hy
      simp only [Option.some.injEq, Prod.mk.injEq] at h
      obtain ⟨rfl, rfl⟩ := h
      have e : (if b < a then (b : Int) else (a : Int)) = (m : Int) := by
        rw [hm]
        split <;> omega
      simp [execOp, resolve, invoke, builtin, hf.eval hx, hf.eval hy, Builtin.min_, Builtin.min2, e]
    · cases h
  · cases h
end

/-- A row of numbers of 32 bits. -/
def US (w : World) (v : Value) (l : List Nat) : Prop := ∃ ad cap, v = .slice ad l.length cap ∧ l.length ≤ cap ∧ (l ≠ [] → ∃ b o dc e fz, ad = some ⟨b, o, none⟩ ∧ w.heap[b]? = some (.cells dc e fz) ∧ ∀ (i n : Nat), l[i]? = some n → dc[o + i]? = some (.int .u32 (n : Int)))

theorem US.up {w w' v l} (h : US w v l) (hu : Up w.heap.size w w') : US w' v l := by
  obtain ⟨ad, cap, h1, h0, h2⟩ := h
  refine ⟨ad, cap, h1, h0, fun hne => ?_⟩
  obtain ⟨b, o, dc, e, fz, h3, h4, h5⟩ := h2 hne
  exact ⟨b, o, dc, e, fz, h3, hu.at (lt_of_heap h4) h4, h5⟩

theorem bsE0 (w : World) : (Instr.buildSlice 24 0 ⟨[]⟩).run PP w = .ok (.slice (some ⟨w.heap.size, 0, none⟩) 0 0) (w.alloc (.cells #[] 40 (0, 0))) := by kernel_rfl
theorem bsE1 (a b c d e f : Value) (w : World) : (Instr.buildSlice 24 1 ⟨[(0, .agg ⟨[a, b, c, d, e, f]⟩)]⟩).run PP w = .ok (.slice (some ⟨w.heap.size, 0, none⟩) 1 1) (w.alloc (.cells ⟨[a, b, c, d, e, f]⟩ 40 (0, 0))) := by kernel_rfl
theorem bdEx (ad : Option Addr) (n c : Nat) (w : World) : (Instr.build 40 ⟨[(1, .slice ad n c)]⟩).run PP w = .ok (.agg ⟨[.int .i64 0, .slice ad n c, .int .i64 0, str [], .slice none 0 0, .slice none 0 0]⟩) w := by kernel_rfl

attribute [local irreducible] binOp IntKind.wrap Sem.run

/-- An expression in a block of its own. -/
def XcAt (w : World) (P : Nat → Prop) (tb : Nat) (x : Ex) : Prop := ∃ kv a b c d, w.heap[tb]? = some (.cells ⟨[.int .i64 (exK x : Int), kv, a, b, c, d]⟩ 40 (0, 0)) ∧ RS w P kv (exKeys x) ∧ Nd w P (exV x) a b c ∧ RS w P d []

theorem nd0 (w : World) (P : Nat → Prop) : Nd w P (.sc 0 []) (.int .i64 0) (str []) (.slice none 0 0) := by
  rw [Nd]
  exact ⟨rfl, rfl, none, 0, rfl⟩

/-- A row of expressions that is owned. -/
theorem LsV.own {B : Nat} {w : World} {P : Nat → Prop} {v : Value} {es : List Ex} {xs : List Value} (hO : w.ownsRow B 40 6 v es.length xs) (hL : LsIs w P es xs) : LsV w P v es := by
  by_cases hz : es.length = 0
  · have : es = [] := List.eq_nil_of_length_eq_zero hz
    subst this
    rcases hO.2 with ⟨rfl, _⟩ | ⟨g, cap, cur, rfl, _⟩
    · exact ⟨none, 0, rfl, fun h => absurd rfl h⟩
    · exact ⟨_, cap, rfl, fun h => absurd rfl h⟩
  · obtain ⟨g, cap, cur, rfl, hg, hgc⟩ := row_cur hO hz
    exact ⟨_, cap, rfl, fun _ => ⟨g, _, rfl, hgc, LsIs.more cur hL⟩⟩

set_option maxRecDepth 100000 in
set_option maxHeartbeats 32000000 in
theorem linesOf_any (v : Value) (l : List Nat) (w : World) (hv : US w v l) (hl : ∀ n ∈ l, n < UU) :
    Calls PP 9 #[v] w fun e w' => ∃ lv xs, e = .returned lv ∧ w'.ownsRow w.heap.size 40 6 lv (linesOf l).length xs ∧ LsIs w' (fun b => w.heap.size ≤ b) (linesOf l) xs ∧ Up w.heap.size w w' := by
  obtain ⟨ad, cap, rfl, hlc, hrow⟩ := hv
  refine enter (L := [(0, .slice ad l.length cap)]) Tryz.func9 rfl rfl rfl ⟨rfl, trivial⟩ ?_
  repeat (first | refine WL.pp rfl ?_ | refine WL.ns ?_ | refine WC.sr ?_)
  refine WL.bs rfl rfl bsE0 rfl (fun w1 hA => ?_)
  have hU1 : Up w.heap.size w w1 := hA.up (Nat.le_refl _)
  have hO1 : w1.ownsRow w.heap.size 40 6 (.slice (some ⟨w.heap.size, 0, none⟩) 0 0) 0 [] := ⟨rfl, .inr ⟨w.heap.size, 0, #[], rfl, Nat.le_refl _, hA.at_, Nat.le_refl _, by simp only [maxLen]; omega, rfl, rfl⟩⟩
  obtain ⟨M, hM⟩ : ∃ M, M = min l.length 16 := ⟨_, rfl⟩
  have hll : (linesOf l).length = M := by simp [linesOf, hM, Nat.min_comm]
  repeat (first | refine WL.pp rfl ?_ | refine WL.ns ?_ | refine WC.sr ?_ | refine WL.mn (b := 16) M rfl rfl hM rfl ?_ | refine WL.s0 M rfl rfl rfl (by omega) rfl ?_ | refine WC.seq ?_ | refine WC.block ?_)
  refine WC.loop (σ := Nat × Value) (I := fun s w' => (∃ xs, w'.ownsRow w.heap.size 40 6 s.2 s.1 xs ∧ LsIs w' (fun b => w.heap.size ≤ b) ((linesOf l).take s.1) xs) ∧ Up w.heap.size w w' ∧ s.1 ≤ M)
    (m := fun s => M - s.1) (Lf := fun s => [(3, s.2), (12, .slice ad M cap), (13, .int .i64 (M : Int)), (14, .int .i64 (s.1 : Int))])
    (0, .slice (some ⟨w.heap.size, 0, none⟩) 0 0) ⟨⟨[], hO1, by simp [LsIs]⟩, hU1, Nat.zero_le _⟩ ⟨rfl, rfl, rfl, rfl, trivial⟩ ?_
  clear hA hU1 hO1
  rintro ⟨m, lv⟩ w2 ⟨⟨xs, hO, hL⟩, hU, hm⟩
  dsimp only at hO hL hm ⊢
  have hsz := hU.size
  by_cases hlt : m < M
  · have hml : m < l.length := by omega
    obtain ⟨n, hn⟩ : ∃ n, l[m]? = some n := ⟨_, List.getElem?_eq_getElem hml⟩
    have hnU := hl n (List.mem_of_getElem? hn)
    have hx : (linesOf l)[m]? = some (lineOf n) := by
      simp only [linesOf, List.getElem?_map, List.getElem?_take]
      rw [if_pos (by omega), hn]
      rfl
    have htake : (linesOf l).take (m + 1) = (linesOf l).take m ++ [lineOf n] := by rw [List.take_add_one, hx]; rfl
    have hne : l ≠ [] := by rintro rfl; simp at hml
    obtain ⟨b, o, dcs, _, fz, had, hb, hdc⟩ := hrow hne
    have hc2 : w2.cell? ⟨b, o + m, none⟩ = some (.int .u32 (n : Int)) := cell_of (hU.at (lt_of_heap hb) hb) (hdc m n hn)
    rw [had]
    repeat (first | refine WL.pp rfl ?_ | refine WL.ns ?_ | refine WC.sr ?_ | refine WC.dT rfl (by first | omega | decide) ?_ | refine WL.ix (i := m) rfl rfl rfl hlt (by rw [Nat.mul_one]; rfl) ?_ | refine WL.ld rfl rfl hc2 rfl ?_ | refine WC.seq ?_ | refine WC.block ?_ | refine X.sn ?_ | refine WC.skip ?_)
    refine WL.bo rfl rfl (shrUU n 3 (by omega) _ _ _) rfl ?_
    refine WL.call rfl rfl rfl (namesOf_any (n / 2 ^ 3) w2) ?_
    rintro e w3 ⟨kv, rfl, hR3, hU3⟩
    refine ⟨_, _, rfl, rfl, ?_⟩
    have hR3' := hR3
    obtain ⟨kad, kcap, rfl, -⟩ := hR3
    refine WL.bd rfl rfl (bdEx _ _ _) rfl ?_
    refine WL.al rfl rfl rfl (fun w4 hA4 => ?_)
    refine WL.sg rfl rfl rfl (by simp [oneV]) hA4.at_ (by simp) rfl (fun w5 hS5 => ?_)
    have hsz3 := hU3.size
    have hU35 : Up w3.heap.size w3 w5 := (hA4.up (Nat.le_refl _)).trans (hS5.up (Nat.le_refl _))
    have hU25 : Up w2.heap.size w2 w5 := hU3.trans (hU35.mono hsz3)
    have hb5 : w5.heap[w3.heap.size]? = some (.cells ⟨[.int .i64 0, .slice kad (nms (n / 2 ^ 3)).length kcap, .int .i64 0, str [], .slice none 0 0, .slice none 0 0]⟩ 40 (0, 0)) := by simpa using hS5.at_
    have hR5 : RS w5 (fun b => w.heap.size ≤ b) (.slice kad (nms (n / 2 ^ 3)).length kcap) (nms (n / 2 ^ 3)) := RS.move (Moved.up hU35 (fun b h _ => by omega)) hR3'
    generalize htb : w3.heap.size = tb at *
    clear hA4 hS5 hR3'
    repeat (first | refine WL.pp rfl ?_ | refine WL.ns ?_ | refine WC.sr ?_ | refine WL.bo rfl rfl (remU n 8 (by omega) _ _) rfl ?_ | refine WC.cut (x := .seq _ (.block _ _)) (σ := Unit) (fun _ w' => XcAt w' (fun b => w.heap.size ≤ b) tb (lineOf n) ∧ Up w2.heap.size w2 w' ∧ tb < w'.heap.size) (fun _ => [(3, lv), (6, .pointer (some ⟨tb, 0, none⟩)), (12, .slice (some ⟨b, o, none⟩) M cap), (13, .int .i64 (M : Int)), (14, .int .i64 (m : Int))]) ?_ ?_ | refine WC.seq ?_ | refine WC.block ?_)
    · have hn8 : n % 8 < 8 := Nat.mod_lt _ (by omega)
      have hR5' := hR5
      rcases (by omega : n % 8 = 0 ∨ n % 8 = 1 ∨ n % 8 = 2 ∨ 3 ≤ n % 8) with h | h | h | h
      · have hx2 : lineOf n = .tab (nms (n / 2 ^ 3)) := by unfold lineOf; rw [h]; rfl
        repeat (first | refine WL.pp rfl ?_ | refine WC.dT rfl (by first | omega | decide) ?_ | refine WC.reg ?_ | refine X.sn ?_ | refine WC.skip ?_)
        refine WL.stB rfl rfl rfl hb5 rfl rfl (fun w6 hS6 => ?_)
        repeat (first | refine WL.nil ?_ | refine X.bn ?_)
        refine X.cut () ⟨?_, hU25.trans (hS6.up (by omega)), by rw [hS6.size]; exact lt_of_heap hb5⟩ ⟨rfl, rfl, rfl, rfl, rfl, trivial⟩
        rw [hx2]
        exact ⟨_, _, _, _, _, hS6.at_, hR5.keep (fun g o hg ho ht => hS6.keep ho (fun e => by subst e; rw [hb5] at ho; cases ho; simp [tag] at ht)), nd0 _ _, RS.nil _ _⟩
      · have hx2 : lineOf n = .tab (nms (n / 2 ^ 3)) := by unfold lineOf; rw [h]; rfl
        repeat (first | refine WL.pp rfl ?_ | refine WL.ns ?_ | refine WC.dT rfl (by first | omega | decide) ?_ | refine WC.dF rfl (by first | omega | decide) ?_ | refine WC.reg ?_)
        refine WL.stB rfl rfl rfl hb5 rfl rfl (fun w6 hS6 => ?_)
        repeat (first | refine WL.nil ?_ | refine X.bn ?_)
        refine X.cut () ⟨?_, hU25.trans (hS6.up (by omega)), by rw [hS6.size]; exact lt_of_heap hb5⟩ ⟨rfl, rfl, rfl, rfl, rfl, trivial⟩
        rw [hx2]
        exact ⟨_, _, _, _, _, hS6.at_, hR5.keep (fun g o hg ho ht => hS6.keep ho (fun e => by subst e; rw [hb5] at ho; cases ho; simp [tag] at ht)), nd0 _ _, RS.nil _ _⟩
      · have hx2 : lineOf n = .atab (nms (n / 2 ^ 3)) := by unfold lineOf; rw [h]; rfl
        repeat (first | refine WL.pp rfl ?_ | refine WL.ns ?_ | refine WC.sr ?_ | refine WC.dT rfl (by first | omega | decide) ?_ | refine WC.dF rfl (by first | omega | decide) ?_ | refine WC.reg ?_)
        refine WL.stB rfl rfl rfl hb5 rfl rfl (fun w6 hS6 => ?_)
        repeat (first | refine WL.nil ?_ | refine X.bn ?_)
        refine X.cut () ⟨?_, hU25.trans (hS6.up (by omega)), by rw [hS6.size]; exact lt_of_heap hb5⟩ ⟨rfl, rfl, rfl, rfl, rfl, trivial⟩
        rw [hx2]
        exact ⟨_, _, _, _, _, hS6.at_, hR5.keep (fun g o hg ho ht => hS6.keep ho (fun e => by subst e; rw [hb5] at ho; cases ho; simp [tag] at ht)), nd0 _ _, RS.nil _ _⟩
      · have hx2 : lineOf n = .kv (nms (n / 2 ^ 3)) (mt 2 (n / 2 ^ 12)) := by
          unfold lineOf
          split <;> first | omega | rfl
        have hn12 : n / 2 ^ 12 < UU := Nat.lt_of_le_of_lt (Nat.div_le_self _ _) hnU
        repeat (first | refine WL.pp rfl ?_ | refine WL.ns ?_ | refine WC.sr ?_ | refine WC.dF rfl (by first | omega | decide) ?_ | refine WC.reg ?_)
        refine WL.bo rfl rfl (shrUU n 12 (by omega) _ _ _) rfl ?_
        refine WL.call rfl rfl rfl (mtC_all 2 (by omega) (n / 2 ^ 12) w5 hn12) ?_
        rintro e w6 ⟨a', b', c', d', rfl, hN6, hR6, hU6⟩
        refine ⟨_, _, rfl, rfl, ?_⟩
        have hb6 := hU6.at (lt_of_heap hb5) hb5
        obtain ⟨o1, o2, o3, _⟩ := hN6.one
        have o4 := hR6.one
        have hsz5 := hU35.size
        have hsz56 := hU6.size
        repeat (refine WL.pp rfl ?_)
        refine WL.sg rfl rfl rfl (by simp [o1, o2, o3, o4]) hb6 (by simp) rfl (fun w7 hS7 => ?_)
        have hne7 : ∀ (g : Nat) (o : Obj), w6.heap[g]? = some o → (tag o = 9 ∨ tag o = 37) → g ≠ tb := fun g o ho ht e => by
          subst e
          rw [hb6] at ho
          cases ho
          simp [tag] at ht
        have hmv : ∀ (P P' : Nat → Prop), (∀ b, P b → P' b) → Moved P P' w6 w7 := fun P P' hp b o hb ho ht => ⟨hS7.keep ho (hne7 b o ho ht), hp b hb⟩
        repeat (first | refine WL.nil ?_ | refine X.bn ?_)
        refine X.cut () ⟨?_, (hU25.trans (hU6.mono (by omega))).trans (hS7.up (by omega)), by rw [hS7.size]; exact lt_of_heap hb6⟩ ⟨rfl, rfl, rfl, rfl, rfl, trivial⟩
        rw [hx2]
        exact ⟨_, _, _, _, _, by simpa [exK] using hS7.at_, RS.move ((Moved.up hU6 (fun b h _ => h)).trans (hmv _ _ (fun b h => h))) hR5, Nd.move (hmv _ _ (fun b h => by omega)) _ _ _ _ hN6, RS.move (hmv _ _ (fun b h => by omega)) hR6⟩
    · rintro _ w6 ⟨⟨kv, a', b', c', d', hb6, hR6, hN6, hRd6⟩, hU26, htb6⟩
      obtain ⟨o1, o2, o3, _⟩ := hN6.one
      have o4 := hR6.one
      have o5 := hRd6.one
      have hones : ∀ u ∈ [Value.int .i64 (exK (lineOf n) : Int), kv, a', b', c', d'], oneV u = true := fun u hu => by
        simp only [List.mem_cons, List.not_mem_nil, or_false] at hu
        rcases hu with rfl | rfl | rfl | rfl | rfl | rfl
        · rfl
        · exact o4
        · exact o1
        · exact o2
        · exact o3
        · exact o5
      repeat (first | refine WL.pp rfl ?_ | refine WL.lgB (b := tb) rfl rfl hb6 rfl rfl ?_ | refine WC.reg ?_)
      refine WL.bs rfl rfl (bsE1 _ _ _ _ _ _) rfl (fun w7 hA7 => ?_)
      have hsz26 := hU26.size
      have hO7 : w7.ownsRow w.heap.size 40 6 lv m xs := own_same hO (fun g o hg h => hA7.keep (hU26.at (lt_of_heap h) h))
      have hL7 : LsIs w7 (fun b => w.heap.size ≤ b) ((linesOf l).take m) xs := LsIs.move (Moved.up (hU26.trans (hA7.up hsz26)) (fun b h _ => h)) _ _ hL
      have hk7 : Kept (fun b => w.heap.size ≤ b) w6 w7 := Kept.fm (hA7.fm (B := 0) (T := []) (Nat.zero_le _)) (by simp) (by simp)
      refine WL.apf (m := 1) [.int .i64 (exK (lineOf n) : Int), kv, a', b', c', d'] rfl rfl (rfl : rowT 24 = some (40, 6)) hO7 rfl (fun j u hu => ?_) hones (by omega) (by rw [hA7.size]; omega) (fun lv' w8 hO8 hF8 _ => ?_)
      · rw [add_zero]
        exact cell_of hA7.at_ (by simpa using hu)
      have hk8 : Kept (fun b => w.heap.size ≤ b) w7 w8 := Kept.fm hF8 (by simp) (by simp)
      refine ⟨_, rfl, ?_⟩
      repeat (first | refine WL.pp rfl ?_ | refine WC.reg ?_ | refine WL.nil ?_ | refine X.sn ?_ | refine X.bn ?_ | refine WL.ad rfl rfl (by omega) rfl ?_)
      refine X.again (m + 1, lv') ⟨⟨_, hO8, ?_⟩, ((hU.trans (hU26.mono hsz)).trans (hA7.up (by omega))).trans (hF8.up.mono (by omega)), by dsimp only; omega⟩ (by dsimp only; omega) ⟨rfl, rfl, rfl, rfl, trivial⟩
      dsimp only
      rw [htake]
      exact LsIs.snoc (LsIs.keep hk8 _ _ hL7) (by rw [hO.1, List.length_take, hll]; omega) ((hR6.keep hk7).keep hk8) (NdX.of (Nd.keep hk8 _ _ _ _ (Nd.keep hk7 _ _ _ _ hN6))) ((hRd6.keep hk7).keep hk8)
  · have hmM : m = M := by omega
    subst hmM
    repeat (first | refine WL.pp rfl ?_ | refine WL.ns ?_ | refine WC.sr ?_ | refine WC.dF rfl (by first | omega | decide) ?_ | refine WC.seq ?_ | refine X.sn ?_ | refine X.sx ?_ | refine X.bx ?_ | refine WC.exit ?_ | refine WC.ret ?_)
    refine X.ret_ rfl rfl ⟨lv, xs, rfl, by rw [hll]; exact hO, ?_, hU⟩
    rw [← hll, List.take_length] at hL
    exact hL
end Go.Proofs.YtaccphdkapmdhaaGreat

