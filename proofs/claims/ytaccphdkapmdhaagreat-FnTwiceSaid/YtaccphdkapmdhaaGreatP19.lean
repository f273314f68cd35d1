/- What expressions mean together: the reference, against the tracker. A new name, told once, told twice: what the tracker says of it. Plain Lean. Lines copied, and one more line: an order that is open. No condition. -/
import Derived.Test.YtaccphdkapmdhaaGreatP18
namespace Go.Proofs.YtaccphdkapmdhaaGreat
attribute [local irreducible] binOp IntKind.wrap Sem.run

theorem bsT1 (b : Nat) (w : World) : (Instr.buildSlice 79 1 ⟨[(0, pt b)]⟩).run PP w = .ok (.slice (some ⟨w.heap.size, 0, none⟩) 1 1) (w.alloc (.cells ⟨[pt b]⟩ 73 (0, 0))) := by kernel_rfl
theorem bdLst (a : Addr) (n c : Nat) (w : World) : (Instr.build 81 ⟨[(0, .int .i64 1), (3, .slice (some a) n c)]⟩).run PP w = .ok (.agg ⟨[.int .i64 1, .int .i64 0, .map none, .slice (some a) n c]⟩) w := by kernel_rfl

/-- Expressions of sizes that can be. -/
def MkX (x : Ex) : Prop := exKeys x ≠ [] ∧ (exKeys x).length ≤ 1000000000 ∧ MkV (exV x)

set_option maxRecDepth 100000 in
set_option maxHeartbeats 64000000 in
theorem mean_any (P : Nat → Prop) (lv : Value) (es : List Ex) (w : World) (hL : LsV w P lv es) (hP : ∀ b, P b → b < w.heap.size) (hok : ∀ x ∈ es, MkX x) (hlen : es.length ≤ 1000000000) :
    Calls PP 12 #[lv] w fun e w' => ∃ st : Nat, e = .returned (.tuple #[.int .i64 (foundV (meant es)), .int .i64 (st : Int)]) ∧ (st = 0 ↔ meant es = none) ∧ Up w.heap.size w w' := by
  obtain ⟨ad, cap, rfl, hrow⟩ := hL
  refine enter (L := [(0, .slice ad es.length cap)]) Tryz.func12 rfl rfl rfl ⟨rfl, trivial⟩ ?_
  repeat (first | refine WL.pp rfl ?_ | refine WL.ns ?_ | refine WC.sr ?_)
  refine WL.call rfl rfl rfl (mtab_any 1 w) ?_
  rintro e w1 ⟨r, m2, rfl, hb2, hm2, hc2, hM2, hU1⟩
  refine ⟨_, _, rfl, rfl, ?_⟩
  repeat (first | refine WL.pp rfl ?_ | refine WL.ns ?_ | refine WC.sr ?_ | refine WC.seq ?_ | refine WC.block ?_)
  have hO0 : Ord [(⟨-1, 3, false, []⟩ : Ent)] := fun i e he => by
    cases i with
    | zero =>
      simp only [List.getElem?_cons_zero, Option.some.injEq] at he
      subst he
      exact ⟨by decide, .inl rfl, by decide, by decide⟩
    | succ n => simp at he
  obtain ⟨f0, hf0, hJ0⟩ : ∃ f0 : Nat → Option TI, f0 0 = some (.tab r m2 []) ∧ J w.heap.size 0 w1 0 [(⟨-1, 3, false, []⟩ : Ent)] f0 := ⟨_, if_pos rfl, J.one (base := 0) hO0 rfl hc2 hM2 hb2 hm2⟩
  refine WC.loop (σ := Nat × Trk × (Nat → Option TI) × Nat) (I := fun s w' => Up w.heap.size w w' ∧ s.1 ≤ es.length ∧ J w.heap.size s.1 w' 0 s.2.1.ents s.2.2.1 ∧ (∃ m0 l0, s.2.2.1 0 = some (.tab r m0 l0)) ∧ (∃ t, s.2.2.1 s.2.1.cur = some t ∧ t.mp ≠ none ∧ t.tbl = s.2.2.2) ∧ firstBad s.2.1 (es.drop s.1) s.1 = meant es)
    (m := fun s => es.length - s.1) (Lf := fun s => [(4, pt r), (5, pt s.2.2.2), (15, .slice ad es.length cap), (16, .int .i64 (es.length : Int)), (17, .int .i64 (s.1 : Int))])
    (0, ⟨[⟨-1, 3, false, []⟩], 0⟩, f0, r) ⟨hU1, Nat.zero_le _, hJ0, ⟨m2, [], hf0⟩, ⟨.tab r m2 [], hf0, by simp [TI.mp], rfl⟩, (firstBad_begun es 0).symm⟩ ⟨rfl, rfl, rfl, rfl, rfl, trivial⟩ ?_
  clear hM2 hc2 hU1 hJ0 hO0
  rintro ⟨m, ⟨ents, cur⟩, f, now⟩ w2 ⟨hU, hm, hJ, ⟨m0, l0, hroot⟩, ⟨t, ht, htm, htn⟩, hfb⟩
  dsimp only at hU hm hJ hroot ht htn hfb ⊢
  have hsz2 := hU.size
  by_cases hml : m < es.length
  · obtain ⟨x, hx⟩ : ∃ x, es[m]? = some x := ⟨_, List.getElem?_eq_getElem hml⟩
    have hxm := List.mem_of_getElem? hx
    have hdrop : es.drop m = x :: es.drop (m + 1) := (List.drop_eq_getElem?_toList_append).trans (by rw [hx]; rfl)
    obtain ⟨hk0, hkl, hmv⟩ := hok x hxm
    have hne : es ≠ [] := by rintro rfl; simp at hml
    obtain ⟨g, cc, rfl, hg, hNd⟩ := hrow hne
    obtain ⟨kv', a', b', c', d', hcells, hR1, hNv, hR2⟩ := hNd.get hx
    obtain ⟨o1, o2, o3, _⟩ := hNv.one
    have o4 := hR1.one
    have o5 := hR2.one
    have hg2 := hU.at (lt_of_heap hg) hg
    have hgs : ents ≠ [] := by
      have := hJ.lt hroot
      rintro rfl
      simp at this
    have hbg : (Trk.mk ents cur).begun = ⟨ents, cur⟩ := by
      unfold Trk.begun
      cases ents with
      | nil => exact absurd rfl hgs
      | cons a l => rfl
    have hfb2 : meant es = if (ckX ⟨ents, cur⟩ x).2 then firstBad (ckX ⟨ents, cur⟩ x).1 (es.drop (m + 1)) (m + 1) else some m := by
      rw [← hfb, hdrop]
      simp only [firstBad, ckT, hbg]
    have hbad : (ckX ⟨ents, cur⟩ x).2 = false → meant es = some m := fun h => by rw [hfb2, h]; rfl
    have hgood : ∀ t', ckX ⟨ents, cur⟩ x = (t', true) → firstBad t' (es.drop (m + 1)) (m + 1) = meant es := fun t' h => by rw [hfb2, h]; rfl
    clear hfb2 hfb
    obtain ⟨kx, hkx⟩ : ∃ k, exK x = k := ⟨_, rfl⟩
    obtain ⟨ks, hks⟩ : ∃ k, exKeys x = k := ⟨_, rfl⟩
    rw [hkx] at hcells
    rw [hks] at hR1 hk0 hkl
    have hR1' := hR1
    obtain ⟨kad, kcap, rfl, hkrow⟩ := hR1
    obtain ⟨kb, dcs, fz, ⟨hPb, hkcap⟩, rfl, hkb, hdc⟩ := hkrow hk0
    have hl0 : 0 < ks.length := List.length_pos_iff.2 hk0
    obtain ⟨k, hk⟩ : ∃ k, ks[ks.length - 1]? = some k := ⟨_, List.getElem?_eq_getElem (by omega)⟩
    clear hkrow
    have hlc : ∀ (j : Nat) (y : Value), [.int .i64 (kx : Int), .slice (some ⟨kb, 0, none⟩) ks.length kcap, a', b', c', d'][j]? = some y → w2.cell? ⟨g, m * 6 + j, none⟩ = some y := fun j y hy => cell_of hg2 (by rw [List.getElem?_toArray]; exact hcells j y hy)
    repeat (first | refine WL.pp rfl ?_ | refine WL.ns ?_ | refine WC.sr ?_ | refine WC.dT rfl (by first | omega | decide) ?_ | refine WL.ix (i := m) rfl rfl rfl hml (by rw [Nat.zero_add]; rfl) ?_ | refine WL.lg (cs := [.int .i64 (kx : Int), .slice (some ⟨kb, 0, none⟩) ks.length kcap, a', b', c', d']) rfl rfl rfl hlc rfl ?_ | refine WC.seq ?_ | refine WC.block ?_ | refine X.sn ?_ | refine WC.skip ?_)
    refine WL.al rfl rfl rfl (fun w3 hA3 => ?_)
    repeat (refine WL.pp rfl ?_)
    have hones : ∀ u ∈ [Value.int .i64 (kx : Int), .slice (some ⟨kb, 0, none⟩) ks.length kcap, a', b', c', d'], oneV u = true := fun u hu => by
      simp only [List.mem_cons, List.not_mem_nil, or_false] at hu
      rcases hu with rfl | rfl | rfl | rfl | rfl | rfl
      · rfl
      · exact o4
      · exact o1
      · exact o2
      · exact o3
      · exact o5
    refine WL.sg rfl rfl rfl hones hA3.at_ (by simp) rfl (fun w4 hS4 => ?_)
    have hb4 : w4.heap[w2.heap.size]? = some (.cells ⟨[.int .i64 (kx : Int), .slice (some ⟨kb, 0, none⟩) ks.length kcap, a', b', c', d']⟩ 40 (0, 0)) := by simpa using hS4.at_
    have hU24 : Up w2.heap.size w2 w4 := (hA3.up (Nat.le_refl _)).trans (hS4.up (Nat.le_refl _))
    have hU4 : Up w.heap.size w w4 := hU.trans (hU24.mono hsz2)
    have hsz4 := hU24.size
    have hlt4 := lt_of_heap hb4
    have hJ4 : J w.heap.size m w4 0 ents f := hJ.keep (fun x o _ ho => hU24.at (lt_of_heap ho) ho)
    have hR4 : RS w4 P (.slice (some ⟨kb, 0, none⟩) ks.length kcap) ks := RS.move (fun g o hg ho _ => ⟨hU4.at (hP g hg) ho, hg⟩) hR1'
    have hNv4 : NdX w4 P x a' b' c' := NdX.move (fun g o hg ho _ => ⟨hU4.at (hP g hg) ho, hg⟩) hNv
    have hck0 : w4.cell? ⟨kb, ks.length - 1, none⟩ = some (str k) := cell_of (hU4.at (hP kb hPb) hkb) (hdc _ k hk)
    generalize hnb2 : w2.heap.size = nb2 at *
    clear hA3 hS4 hlc hg2 hJ
    repeat (first | refine WL.pp rfl ?_ | refine WL.ns ?_ | refine WC.sr ?_ | refine WL.ldB rfl rfl hb4 rfl rfl ?_ | refine WL.ix (i := ks.length - 1) rfl rfl (by omega) (by omega) (by rw [Nat.zero_add, Nat.mul_one]; rfl) ?_ | refine WL.ld rfl rfl hck0 rfl ?_ | refine WC.seq ?_ | refine WC.block ?_ | refine WL.su rfl rfl (by omega) rfl ?_)
    have hm1 : m ≤ m + 1 := Nat.le_succ m
    cases x with
    | kv ks' v =>
      simp only [exKeys] at hks
      subst hks
      simp only [exK] at hkx
      subst hkx
      obtain ⟨v1, hv1, hNv4⟩ := hNv4
      obtain rfl : v = v1 := (hv1 rfl).symm
      simp only [exV] at hmv
      have hlg : ∀ (j : Nat) (y : Value), [a', b', c', d'][j]? = some y → w4.cell? ⟨nb2, 0 + 2 + j, none⟩ = some y := fun j y hy => cell_of hb4 (by
        rw [List.getElem?_toArray, show 0 + 2 + j = j + 1 + 1 by omega]
        simpa using hy)
      repeat (first | refine WL.pp rfl ?_ | refine WC.dT rfl (by first | omega | decide) ?_ | refine WL.ldB rfl rfl hb4 rfl rfl ?_ | refine WL.lg (cs := [a', b', c', d']) rfl rfl rfl hlg rfl ?_ | refine WC.reg ?_)
      refine WL.call rfl rfl rfl (put_any v (made_all v) hmv w.heap.size m 0 cur now ents f t P _ ks' a' b' c' d' w4 hJ4 ht htm htn hR4 hNv4 o5 hP hk0 (by omega) hkl) ?_
      rintro e w5 ⟨st, es', f', rfl, hJ5, hE5, hU5, hs⟩
      refine ⟨_, _, rfl, rfl, ?_⟩
      obtain ⟨lr, hlr⟩ := hE5 0 _ hroot
      obtain ⟨t', ht', htb', _, htm'⟩ := hE5.mp ht
      rcases hs with ⟨hst0, hck⟩ | ⟨hst0, hck⟩
      · repeat (first | refine WL.pp rfl ?_ | refine WL.ns ?_ | refine WC.sr ?_ | refine WC.dF rfl (by first | omega | decide) ?_ | refine WC.reg ?_ | refine WL.nil ?_ | refine X.sn ?_ | refine X.bn ?_ | refine WC.skip ?_ | refine WL.ad rfl rfl (by omega) rfl ?_)
        exact X.again (m + 1, ⟨es', cur⟩, f', now) ⟨hU4.trans hU5, by dsimp only; omega, hJ5.toK hm1, ⟨m0, lr, hlr⟩, ⟨t', ht', htm' htm, by rw [htb']; exact htn⟩, hgood _ (by simp only [ckX, hck])⟩ (by dsimp only; omega) ⟨rfl, rfl, rfl, rfl, rfl, trivial⟩
      · rw [hbad (by simp only [ckX, hck])]
        repeat (first | refine WL.pp rfl ?_ | refine WL.ns ?_ | refine WC.sr ?_ | refine WC.dT rfl (by first | omega | decide) ?_ | refine WL.nil ?_ | refine X.sn ?_ | refine X.sr ?_ | refine X.bn ?_ | refine X.br ?_ | refine WC.ret ?_)
        exact X.ret_ rfl rfl ⟨st, rfl, by simp [hst0], hU4.trans hU5⟩
    | tab ks' =>
      simp only [exKeys] at hks
      subst hks
      simp only [exK] at hkx
      subst hkx
      clear hNv4
      repeat (first | refine WL.pp rfl ?_ | refine WC.sr ?_ | refine WC.dF rfl (by first | omega | decide) ?_ | refine WL.ldB rfl rfl hb4 rfl rfl ?_)
      refine WL.call rfl rfl rfl (walk_any w.heap.size m 0 r ents f P _ ks' w4 hJ4 _ hroot rfl (by simp [TI.mp]) hR4 hP hk0 (by omega) hkl) ?_
      rintro e w5 ⟨es', o, f', hck, hJ5, hE5, ⟨hU5, hNm5⟩, hend⟩
      have hU05 : Up w.heap.size w w5 := hU4.trans hU5
      have hb5 := hNm5 _ _ hb4 (by simp [tag])
      obtain ⟨lr, hlr⟩ := hE5 0 _ hroot
      rcases hend with ⟨rfl, rfl⟩ | ⟨p, k', t', rfl, hk', hp', hpm', rfl⟩
      · refine ⟨_, _, rfl, rfl, ?_⟩
        rw [hbad (by simp only [ckX, hck])]
        repeat (first | refine WL.pp rfl ?_ | refine WL.ns ?_ | refine WC.sr ?_ | refine WC.bT rfl (by first | with_reducible rfl | exact Bool.not_false) ?_ | refine WC.seq ?_ | refine X.sr ?_ | refine X.br ?_ | refine WC.ret ?_)
        exact X.ret_ rfl rfl ⟨1, rfl, by simp, hU05⟩
      · refine ⟨_, _, rfl, rfl, ?_⟩
        have hkk : k' = k := by rw [hk] at hk'; simpa using hk'.symm
        subst hkk
        obtain ⟨way, mb, l, hmp, hth, hM⟩ := hJ5.tb hp' hpm'
        have hsz5 := hU05.size
        repeat (first | refine WL.pp rfl ?_ | refine WL.ns ?_ | refine WC.sr ?_ | refine WC.bF rfl (by first | with_reducible rfl | exact Bool.not_true) ?_ | refine WL.ldB rfl rfl hth rfl rfl ?_ | refine WL.lk (m := mb) (k := k') l rfl rfl hM rfl ?_ | refine WC.seq ?_ | refine WC.block ?_ | refine X.sn ?_ | refine WC.skip ?_)
        rcases hJ5.names p t' mb l hp' hmp k' with ⟨hfn, hlk⟩ | ⟨j, u, hfj, hjb, hu, hlk⟩
        · rw [hlk]
          simp only [Option.isSome_none, ptO]
          repeat (first | refine WL.pp rfl ?_ | refine WL.ns ?_ | refine WC.sr ?_ | refine WC.bT rfl (by first | with_reducible rfl | exact Bool.not_false) ?_ | refine WL.ldB rfl rfl hb5 rfl rfl ?_ | refine WL.p rfl ?_ | refine WL.gT rfl rfl (by first | omega | decide) ?_)
          refine WL.call rfl rfl rfl (mtab_any 1 w5) ?_
          rintro e w6 ⟨b3, m3, rfl, hb3, hm3, hc3, hM3, hU6⟩
          refine ⟨_, _, rfl, rfl, ?_⟩
          have hth6 := hU6.at (lt_of_heap hth) hth
          have hMl := hM.lt
          repeat (first | refine WL.pp rfl ?_ | refine WL.ns ?_ | refine WC.sr ?_ | refine WL.ldB rfl rfl hth6 rfl rfl ?_)
          refine WL.mup (m := mb) (k := k') (b := b3) l rfl rfl (hM.keep (fun o ho => hU6.at hMl ho)) hlk rfl (fun w7 ob hS7 hM7 hob => ?_)
          have hc7 := hS7.keep hc3 (by omega)
          have hsz6 := hU6.size
          obtain ⟨f7, hE7, hn7, hJ7⟩ : ∃ f7 : Nat → Option TI, Ext f' f7 ∧ f7 es'.length = some (.tab b3 m3 []) ∧ J w.heap.size m w7 0 (es' ++ [⟨p, 3, true, k'⟩]) f7 :=
            ⟨_, Ext.add hJ5.none_at hp', if_pos rfl, hJ5.add hp' hmp k' hfn 3 true (by omega) (by omega) (by omega) (.tab b3 m3 []) (w' := w7) ⟨⟨1, hc7, fun _ => .inr ⟨rfl, rfl⟩⟩, hM3.keep (fun o ho => hS7.keep ho (by omega))⟩
              (fun y hy => by simp only [TI.all, List.mem_cons, List.not_mem_nil, or_false] at hy; rcases hy with rfl | rfl <;> omega)
              (fun y hy => by simp only [TI.all, List.mem_cons, List.not_mem_nil, or_false] at hy; rcases hy with rfl | rfl <;> omega)
              (fun m' l' h' => by simp only [TI.mp, Option.some.injEq, Prod.mk.injEq] at h'; exact h'.2.symm)
              (fun y o hy ho => hS7.keep (hU6.at (lt_of_heap ho) ho) hy) hM7⟩
          have hMB : w.heap.size ≤ mb := hJ5.low p t' hp' mb (TI.mp_all hmp)
          have hU7 : Up w.heap.size w w7 := (hU05.trans (hU6.mono (by omega))).trans (hS7.up hMB)
          obtain ⟨lr7, hlr7⟩ := hE7 0 _ hlr
          repeat (first | refine WL.pp rfl ?_ | refine WL.ns ?_ | refine WC.sr ?_ | refine WC.dF rfl (by first | omega | decide) ?_ | refine WC.reg ?_ | refine WL.nil ?_ | refine X.sn ?_ | refine X.bn ?_ | refine WC.skip ?_ | refine WL.ad rfl rfl (by omega) rfl ?_)
          exact X.again (m + 1, ⟨es' ++ [⟨p, 3, true, k'⟩], es'.length⟩, f7, b3) ⟨hU7, by dsimp only; omega, hJ7.toK hm1, ⟨m0, lr7, hlr7⟩, ⟨_, hn7, by simp [TI.mp], rfl⟩, hgood _ (by simp only [ckX, hck, hfn])⟩ (by dsimp only; omega) ⟨rfl, rfl, rfl, rfl, rfl, trivial⟩
        · rw [hlk]
          simp only [Option.isSome_some, ptO]
          obtain ⟨ej, hej, htj⟩ := hJ5.at_ j u hu
          have hcx : ckX ⟨ents, cur⟩ (.tab ks') = if ej.kind = 3 ∧ ej.expl = false then (⟨es'.set j { ej with expl := true }, j⟩, true) else (⟨es', cur⟩, false) := by
            simp only [ckX, hck, hfj, hej]
          cases u with
          | val bv =>
            obtain ⟨hk1, kd, wy, x, y, hbv, hkw⟩ := htj
            simp only [TI.blk]
            rw [hbad (by rw [hcx, if_neg (by omega)])]
            rcases hkw with ⟨rfl, rfl⟩ | ⟨rfl, rfl⟩
            · repeat (first | refine WL.pp rfl ?_ | refine WL.ns ?_ | refine WC.sr ?_ | refine WC.bF rfl (by first | with_reducible rfl | exact Bool.not_true) ?_ | refine WC.dT rfl (by first | omega | decide) ?_ | refine WL.ldB rfl rfl hb5 rfl rfl ?_ | refine WL.ldB rfl rfl hbv rfl rfl ?_ | refine WL.p rfl ?_ | refine WC.reg ?_ | refine WL.nil ?_ | refine X.sn ?_ | refine X.sr ?_ | refine X.bn ?_ | refine X.br ?_ | refine WC.ret ?_ | refine WL.gT rfl rfl (by first | omega | decide) ?_ | refine WL.gF rfl rfl (by first | omega | decide) ?_)
              exact X.ret_ rfl rfl ⟨1, rfl, by simp, hU05⟩
            · repeat (first | refine WL.pp rfl ?_ | refine WL.ns ?_ | refine WC.sr ?_ | refine WC.bF rfl (by first | with_reducible rfl | exact Bool.not_true) ?_ | refine WC.dT rfl (by first | omega | decide) ?_ | refine WC.dF rfl (by first | omega | decide) ?_ | refine WL.ldB rfl rfl hb5 rfl rfl ?_ | refine WL.ldB rfl rfl hbv rfl rfl ?_ | refine WL.p rfl ?_ | refine WC.reg ?_ | refine WL.nil ?_ | refine X.sn ?_ | refine X.sr ?_ | refine X.bn ?_ | refine X.br ?_ | refine WC.ret ?_ | refine WL.gT rfl rfl (by first | omega | decide) ?_ | refine WL.gF rfl rfl (by first | omega | decide) ?_)
              exact X.ret_ rfl rfl ⟨1, rfl, by simp, hU05⟩
          | tab bt mt lt =>
            have htj0 := htj
            obtain ⟨⟨wy, hbt, hw⟩, hMt⟩ := htj
            simp only [TI.blk]
            rcases hw hjb with ⟨hk2', rfl⟩ | ⟨hk3, hwy⟩
            · rw [hbad (by rw [hcx, if_neg (by omega)])]
              repeat (first | refine WL.pp rfl ?_ | refine WL.ns ?_ | refine WC.sr ?_ | refine WC.bF rfl (by first | with_reducible rfl | exact Bool.not_true) ?_ | refine WC.dT rfl (by first | omega | decide) ?_ | refine WC.dF rfl (by first | omega | decide) ?_ | refine WL.ldB rfl rfl hb5 rfl rfl ?_ | refine WL.ldB rfl rfl hbt rfl rfl ?_ | refine WL.p rfl ?_ | refine WC.reg ?_ | refine WL.nil ?_ | refine X.sn ?_ | refine X.sr ?_ | refine X.bn ?_ | refine X.br ?_ | refine WC.ret ?_ | refine WL.gT rfl rfl (by first | omega | decide) ?_ | refine WL.gF rfl rfl (by first | omega | decide) ?_)
              exact X.ret_ rfl rfl ⟨1, rfl, by simp, hU05⟩
            · cases hxe : ej.expl with
              | true =>
                rw [hxe] at hwy
                simp only [if_true] at hwy
                subst hwy
                rw [hbad (by rw [hcx, hxe, if_neg (by simp)])]
                repeat (first | refine WL.pp rfl ?_ | refine WL.ns ?_ | refine WC.sr ?_ | refine WC.bF rfl (by first | with_reducible rfl | exact Bool.not_true) ?_ | refine WC.dT rfl (by first | omega | decide) ?_ | refine WC.dF rfl (by first | omega | decide) ?_ | refine WL.ldB rfl rfl hb5 rfl rfl ?_ | refine WL.ldB rfl rfl hbt rfl rfl ?_ | refine WL.p rfl ?_ | refine WC.reg ?_ | refine WL.nil ?_ | refine X.sn ?_ | refine X.sr ?_ | refine X.bn ?_ | refine X.br ?_ | refine WC.ret ?_ | refine WL.gT rfl rfl (by first | omega | decide) ?_ | refine WL.gF rfl rfl (by first | omega | decide) ?_)
                exact X.ret_ rfl rfl ⟨1, rfl, by simp, hU05⟩
              | false =>
                rw [hxe] at hwy
                simp only [Bool.false_eq_true, if_false] at hwy
                subst hwy
                rw [if_pos ⟨hk3, hxe⟩] at hcx
                repeat (first | refine WL.pp rfl ?_ | refine WL.ns ?_ | refine WC.sr ?_ | refine WC.bF rfl (by first | with_reducible rfl | exact Bool.not_true) ?_ | refine WC.dT rfl (by first | omega | decide) ?_ | refine WL.ldB rfl rfl hb5 rfl rfl ?_ | refine WL.ldB rfl rfl hbt rfl rfl ?_ | refine WL.p rfl ?_ | refine WL.gT rfl rfl (by first | omega | decide) ?_)
                refine WL.stB rfl rfl rfl hbt rfl rfl (fun w6 hS6 => ?_)
                have hJ6 : J w.heap.size m w6 0 (es'.set j { ej with expl := true }) f' := hJ5.expl hu hjb hej hk3 hS6
                have hbB : w.heap.size ≤ bt := hJ5.low j _ hu bt (by simp [TI.all])
                repeat (first | refine WL.pp rfl ?_ | refine WL.ns ?_ | refine WC.sr ?_ | refine WC.dF rfl (by first | omega | decide) ?_ | refine WC.reg ?_ | refine WL.nil ?_ | refine X.sn ?_ | refine X.bn ?_ | refine WC.skip ?_ | refine WL.ad rfl rfl (by omega) rfl ?_)
                exact X.again (m + 1, ⟨es'.set j { ej with expl := true }, j⟩, f', bt) ⟨hU05.trans (hS6.up hbB), by dsimp only; omega, hJ6.toK hm1, ⟨m0, lr, hlr⟩, ⟨_, hu, by simp [TI.mp], rfl⟩, hgood _ hcx⟩ (by dsimp only; omega) ⟨rfl, rfl, rfl, rfl, rfl, trivial⟩
          | lst bl sl tl ml ll =>
            obtain ⟨hk4, ⟨vl, n, xs, hbl, hO, hv, hn0, hn1, hxs⟩, ⟨wy, htl⟩, hMl⟩ := htj
            simp only [TI.blk]
            rw [hbad (by rw [hcx, if_neg (by omega)])]
            repeat (first | refine WL.pp rfl ?_ | refine WL.ns ?_ | refine WC.sr ?_ | refine WC.bF rfl (by first | with_reducible rfl | exact Bool.not_true) ?_ | refine WC.dT rfl (by first | omega | decide) ?_ | refine WL.ldB rfl rfl hb5 rfl rfl ?_ | refine WL.ldB rfl rfl hbl rfl rfl ?_ | refine WL.p rfl ?_ | refine WC.reg ?_ | refine WL.nil ?_ | refine X.sn ?_ | refine X.sr ?_ | refine X.bn ?_ | refine X.br ?_ | refine WC.ret ?_ | refine WL.gT rfl rfl (by first | omega | decide) ?_ | refine WL.gF rfl rfl (by first | omega | decide) ?_)
            exact X.ret_ rfl rfl ⟨1, rfl, by simp, hU05⟩
    | atab ks' =>
      simp only [exKeys] at hks
      subst hks
      simp only [exK] at hkx
      subst hkx
      clear hNv4
      repeat (first | refine WL.pp rfl ?_ | refine WC.sr ?_ | refine WC.dF rfl (by first | omega | decide) ?_ | refine WL.ldB rfl rfl hb4 rfl rfl ?_)
      refine WL.call rfl rfl rfl (walk_any w.heap.size m 0 r ents f P _ ks' w4 hJ4 _ hroot rfl (by simp [TI.mp]) hR4 hP hk0 (by omega) hkl) ?_
      rintro e w5 ⟨es', o, f', hck, hJ5, hE5, ⟨hU5, hNm5⟩, hend⟩
      have hU05 : Up w.heap.size w w5 := hU4.trans hU5
      have hb5 := hNm5 _ _ hb4 (by simp [tag])
      obtain ⟨lr, hlr⟩ := hE5 0 _ hroot
      rcases hend with ⟨rfl, rfl⟩ | ⟨p, k', t', rfl, hk', hp', hpm', rfl⟩
      · refine ⟨_, _, rfl, rfl, ?_⟩
        rw [hbad (by simp only [ckX, hck])]
        repeat (first | refine WL.pp rfl ?_ | refine WL.ns ?_ | refine WC.sr ?_ | refine WC.bT rfl (by first | with_reducible rfl | exact Bool.not_false) ?_ | refine WC.seq ?_ | refine X.sr ?_ | refine X.br ?_ | refine WC.ret ?_)
        exact X.ret_ rfl rfl ⟨1, rfl, by simp, hU05⟩
      · refine ⟨_, _, rfl, rfl, ?_⟩
        have hkk : k' = k := by rw [hk] at hk'; simpa using hk'.symm
        subst hkk
        obtain ⟨way, mb, l, hmp, hth, hM⟩ := hJ5.tb hp' hpm'
        have hsz5 := hU05.size
        repeat (first | refine WL.pp rfl ?_ | refine WL.ns ?_ | refine WC.sr ?_ | refine WC.bF rfl (by first | with_reducible rfl | exact Bool.not_true) ?_ | refine WL.ldB rfl rfl hth rfl rfl ?_ | refine WL.lk (m := mb) (k := k') l rfl rfl hM rfl ?_ | refine WC.seq ?_ | refine WC.block ?_ | refine X.sn ?_ | refine WC.skip ?_)
        rcases hJ5.names p t' mb l hp' hmp k' with ⟨hfn, hlk⟩ | ⟨j, u, hfj, hjb, hu, hlk⟩
        · rw [hlk]
          simp only [Option.isSome_none, ptO]
          repeat (first | refine WL.pp rfl ?_ | refine WL.ns ?_ | refine WC.sr ?_ | refine WC.bT rfl (by first | with_reducible rfl | exact Bool.not_false) ?_ | refine WC.bF rfl (by first | with_reducible rfl | exact Bool.not_true) ?_ | refine WL.ldB rfl rfl hb5 rfl rfl ?_ | refine WL.p rfl ?_ | refine WL.gT rfl rfl (by first | omega | decide) ?_ | refine WL.gF rfl rfl (by first | omega | decide) ?_)
          refine WL.call rfl rfl rfl (mtab_any 1 w5) ?_
          rintro e w6 ⟨b3, m3, rfl, hb3, hm3, hc3, hM3, hU6⟩
          refine ⟨_, _, rfl, rfl, ?_⟩
          have hth6 := hU6.at (lt_of_heap hth) hth
          have hMl := hM.lt
          have hsz6 := hU6.size
          have hlt3 := lt_of_heap hc3
          have hlm3 := hM3.lt
          repeat (first | refine WL.pp rfl ?_ | refine WL.ns ?_ | refine WL.ldB rfl rfl hth6 rfl rfl ?_ | refine WC.reg ?_)
          refine WL.bs rfl rfl (bsT1 _) rfl (fun w7 hA7 => ?_)
          refine WL.bd rfl rfl (bdLst _ _ _) rfl ?_
          refine WL.bx rfl rfl rfl (fun w8 hA8 => ?_)
          have hsz7 : w7.heap.size = w6.heap.size + 1 := hA7.size
          have hk58 : ∀ (y : Nat) (o : Obj), w6.heap[y]? = some o → w8.heap[y]? = some o := fun y o ho => hA8.keep (hA7.keep ho)
          refine WL.mup (m := mb) (k := k') (b := w7.heap.size) l rfl rfl (hM.keep (fun o ho => hk58 _ _ (hU6.at hMl ho))) hlk rfl (fun w9 ob hS9 hM9 hob => ?_)
          have hrow9 : w9.heap[w6.heap.size]? = some (.cells ⟨[pt b3]⟩ 73 (0, 0)) := hS9.keep (hA8.keep hA7.at_) (by omega)
          have hbox9 : w9.heap[w7.heap.size]? = some (.cells ⟨[.int .i64 1, .int .i64 0, .map none, .slice (some ⟨w6.heap.size, 0, none⟩) 1 1]⟩ 81 (0, 0)) := hS9.keep hA8.at_ (by omega)
          have hc9 := hS9.keep (hk58 _ _ hc3) (by omega)
          obtain ⟨f7, hE7, hn7, hJ7⟩ : ∃ f7 : Nat → Option TI, Ext f' f7 ∧ f7 es'.length = some (.lst w7.heap.size w6.heap.size b3 m3 []) ∧ J w.heap.size (m + 1) w9 0 (es' ++ [⟨p, 4, true, k'⟩]) f7 :=
            ⟨_, Ext.add hJ5.none_at hp', if_pos rfl, (hJ5.toK hm1).add hp' hmp k' hfn 4 true (by omega) (by omega) (by omega) (.lst w7.heap.size w6.heap.size b3 m3 []) (w' := w9)
              ⟨rfl, ⟨_, 1, [pt b3], hbox9, ⟨rfl, .inr ⟨w6.heap.size, 1, _, rfl, by omega, hrow9, Nat.le_refl _, by simp only [maxLen]; omega, rfl, rfl⟩⟩, rfl, by omega, by omega, rfl⟩, ⟨1, hc9⟩, hM3.keep (fun o ho => hS9.keep (hk58 _ _ ho) (by omega))⟩
              (fun y hy => by simp only [TI.all, List.mem_cons, List.not_mem_nil, or_false] at hy; rcases hy with rfl | rfl | rfl | rfl <;> omega)
              (fun y hy => by simp only [TI.all, List.mem_cons, List.not_mem_nil, or_false] at hy; rcases hy with rfl | rfl | rfl | rfl <;> omega)
              (fun m' l' h' => by simp only [TI.mp, Option.some.injEq, Prod.mk.injEq] at h'; exact h'.2.symm)
              (fun y o hy ho => hS9.keep (hk58 _ _ (hU6.at (lt_of_heap ho) ho)) hy) hM9⟩
          have hMB : w.heap.size ≤ mb := hJ5.low p t' hp' mb (TI.mp_all hmp)
          have hU9 : Up w.heap.size w w9 := ((hU05.trans (hU6.mono (by omega))).trans ((hA7.up (by omega)).trans (hA8.up (by omega)))).trans (hS9.up hMB)
          obtain ⟨lr7, hlr7⟩ := hE7 0 _ hlr
          repeat (first | refine WL.pp rfl ?_ | refine WL.ns ?_ | refine WC.sr ?_ | refine WC.dF rfl (by first | omega | decide) ?_ | refine WC.reg ?_ | refine WL.nil ?_ | refine X.sn ?_ | refine X.bn ?_ | refine WC.skip ?_ | refine WL.ad rfl rfl (by omega) rfl ?_)
          exact X.again (m + 1, ⟨es' ++ [⟨p, 4, true, k'⟩], es'.length⟩, f7, b3) ⟨hU9, by dsimp only; omega, hJ7, ⟨m0, lr7, hlr7⟩, ⟨_, hn7, by simp [TI.mp], rfl⟩, hgood _ (by simp only [ckX, hck, hfn])⟩ (by dsimp only; omega) ⟨rfl, rfl, rfl, rfl, rfl, trivial⟩
        · rw [hlk]
          simp only [Option.isSome_some, ptO]
          obtain ⟨ej, hej, htj⟩ := hJ5.at_ j u hu
          have hcx : ckX ⟨ents, cur⟩ (.atab ks') = if ej.kind = 4 then (⟨clrE j es', j⟩, true) else (⟨es', cur⟩, false) := by
            simp only [ckX, hck, hfj, kindE, hej]
          cases u with
          | val bv =>
            obtain ⟨hk1, kd, wy, x, y, hbv, hkw⟩ := htj
            simp only [TI.blk]
            rw [hbad (by rw [hcx, if_neg (by omega)])]
            rcases hkw with ⟨rfl, rfl⟩ | ⟨rfl, rfl⟩
            · repeat (first | refine WL.pp rfl ?_ | refine WL.ns ?_ | refine WC.sr ?_ | refine WC.bF rfl (by first | with_reducible rfl | exact Bool.not_true) ?_ | refine WC.dT rfl (by first | omega | decide) ?_ | refine WC.dF rfl (by first | omega | decide) ?_ | refine WL.ldB rfl rfl hb5 rfl rfl ?_ | refine WL.ldB rfl rfl hbv rfl rfl ?_ | refine WL.p rfl ?_ | refine WC.reg ?_ | refine WL.nil ?_ | refine X.sn ?_ | refine X.sr ?_ | refine X.bn ?_ | refine X.br ?_ | refine WC.ret ?_ | refine WL.gT rfl rfl (by first | omega | decide) ?_ | refine WL.gF rfl rfl (by first | omega | decide) ?_)
              exact X.ret_ rfl rfl ⟨1, rfl, by simp, hU05⟩
            · repeat (first | refine WL.pp rfl ?_ | refine WL.ns ?_ | refine WC.sr ?_ | refine WC.bF rfl (by first | with_reducible rfl | exact Bool.not_true) ?_ | refine WC.dT rfl (by first | omega | decide) ?_ | refine WC.dF rfl (by first | omega | decide) ?_ | refine WL.ldB rfl rfl hb5 rfl rfl ?_ | refine WL.ldB rfl rfl hbv rfl rfl ?_ | refine WL.p rfl ?_ | refine WC.reg ?_ | refine WL.nil ?_ | refine X.sn ?_ | refine X.sr ?_ | refine X.bn ?_ | refine X.br ?_ | refine WC.ret ?_ | refine WL.gT rfl rfl (by first | omega | decide) ?_ | refine WL.gF rfl rfl (by first | omega | decide) ?_)
              exact X.ret_ rfl rfl ⟨1, rfl, by simp, hU05⟩
          | tab bt mt lt =>
            obtain ⟨⟨wy, hbt, hw⟩, hMt⟩ := htj
            simp only [TI.blk]
            have hw' := hw hjb
            rw [hbad (by rw [hcx, if_neg (by omega)])]
            repeat (first | refine WL.pp rfl ?_ | refine WL.ns ?_ | refine WC.sr ?_ | refine WC.bF rfl (by first | with_reducible rfl | exact Bool.not_true) ?_ | refine WC.dT rfl (by first | omega | decide) ?_ | refine WC.dF rfl (by first | omega | decide) ?_ | refine WL.ldB rfl rfl hb5 rfl rfl ?_ | refine WL.ldB rfl rfl hbt rfl rfl ?_ | refine WL.p rfl ?_ | refine WC.reg ?_ | refine WL.nil ?_ | refine X.sn ?_ | refine X.sr ?_ | refine X.bn ?_ | refine X.br ?_ | refine WC.ret ?_ | refine WL.gT rfl rfl (by first | omega | decide) ?_ | refine WL.gF rfl rfl (by first | omega | decide) ?_)
            exact X.ret_ rfl rfl ⟨1, rfl, by simp, hU05⟩
          | lst bl sl tl ml ll =>
            obtain ⟨hk4, ⟨vl, n, xs, hbl, hO, hv, hn0, hn1, hxs⟩, ⟨wy, htl⟩, hMl⟩ := htj
            simp only [TI.blk]
            rw [if_pos hk4] at hcx
            repeat (first | refine WL.pp rfl ?_ | refine WL.ns ?_ | refine WC.sr ?_ | refine WC.bF rfl (by first | with_reducible rfl | exact Bool.not_true) ?_ | refine WC.dT rfl (by first | omega | decide) ?_ | refine WL.ldB rfl rfl hb5 rfl rfl ?_ | refine WL.ldB rfl rfl hbl rfl rfl ?_ | refine WL.p rfl ?_ | refine WL.gT rfl rfl (by first | omega | decide) ?_ | refine WL.gF rfl rfl (by first | omega | decide) ?_)
            refine WL.call rfl rfl rfl (mtab_any 1 w5) ?_
            rintro e w6 ⟨b3, m3, rfl, hb3, hm3, hc3, hM3, hU6⟩
            refine ⟨_, _, rfl, rfl, ?_⟩
            have hbl6 := hU6.at (lt_of_heap hbl) hbl
            have hsz6 := hU6.size
            have hlt3 := lt_of_heap hc3
            have hlm3 := hM3.lt
            have hlbl := lt_of_heap hbl
            repeat (first | refine WL.pp rfl ?_ | refine WL.ns ?_ | refine WL.ldB rfl rfl hbl6 rfl rfl ?_ | refine WC.reg ?_)
            refine WL.bs rfl rfl (bsT1 _) rfl (fun w7 hA7 => ?_)
            have hsz7 : w7.heap.size = w6.heap.size + 1 := hA7.size
            have hk57 : ∀ (y : Nat) (o : Obj), w5.heap[y]? = some o → w7.heap[y]? = some o := fun y o ho => hA7.keep (hU6.at (lt_of_heap ho) ho)
            have hO7 : w7.ownsRow w.heap.size 73 1 vl n xs := own_same hO (fun g o _ ho => hk57 g o ho)
            have hxl : xs.length = n := by have := hO.1; omega
            have hcells7 := hA7.at_
            have hbl7 := hk57 _ _ hbl
            have hblg : vl.ownBlock ≠ some bl := fun h => by
              rcases hO7.2 with ⟨rfl, _⟩ | ⟨g', cp', cu', rfl, _, hg', _⟩
              · cases h
              · simp only [Value.ownBlock, Option.some.injEq] at h
                subst h
                rw [hbl7] at hg'
                cases hg'
            refine WL.apo (m := 1) [pt b3] rfl rfl (rfl : rowT 79 = some (73, 1)) hO7 rfl (fun j u hu => ?_) (fun u hu => ?_) (by omega) (by omega) (fun v' w8 hO8 hF8 hG10 hG20 => ?_)
            · rw [add_zero]
              exact cell_of hcells7 (by simpa using hu)
            · simp only [List.mem_cons, List.not_mem_nil, or_false] at hu
              subst hu
              rfl
            have hG1 : ∀ (k : Nat), k < w7.heap.size → vl.ownBlock ≠ some k → w8.heap[k]? = w7.heap[k]? := hG10
            have hG2 : v'.ownBlock = vl.ownBlock ∨ v'.ownBlock = some w7.heap.size := hG20
            have hsz8 := hF8.size
            have hG : ∀ (y : Nat) (o : Obj), y ≠ sl → w7.heap[y]? = some o → w8.heap[y]? = some o := fun y o hy ho => by
              rw [hG1 y (lt_of_heap ho) (by rw [hv]; simpa using fun h => hy h.symm)]
              exact ho
            have hbl8 : w8.heap[bl]? = some (.cells ⟨[.int .i64 1, .int .i64 0, .map none, vl]⟩ 81 (0, 0)) := by
              rw [hG1 bl (lt_of_heap hbl7) hblg]
              exact hbl7
            have hone' : oneV v' = true := by
              rcases hO8.2 with ⟨rfl, _⟩ | ⟨g, cap, cur, rfl, _⟩ <;> rfl
            obtain ⟨s', hs'⟩ : ∃ s', v'.ownBlock = some s' := by
              rcases hO8.2 with ⟨_, h0⟩ | ⟨g, cap, cur, rfl, _⟩
              · omega
              · exact ⟨g, rfl⟩
            refine ⟨_, rfl, ?_⟩
            repeat (refine WL.pp rfl ?_)
            refine WL.stB rfl rfl hone' hbl8 rfl rfl (fun w9 hS9 => ?_)
            have hslt := hJ5.all_lt hu
            have hsl : sl < w5.heap.size := hslt sl (by simp [TI.all])
            have hs'c : s' = sl ∨ s' = w7.heap.size := by
              rcases hG2 with h | h
              · left
                rw [hs', hv] at h
                simpa using h
              · right
                rw [hs'] at h
                simpa using h
            have hO9 : w9.ownsRow w.heap.size 73 1 v' (n + 1) (xs ++ [pt b3]) := own_same hO8 (fun g o hg ho => hS9.keep ho (by
              rintro rfl
              rcases hO8.2 with ⟨rfl, _⟩ | ⟨g', cp', cu', rfl, _, hg', _⟩
              · cases hg
              · simp only [Value.ownBlock, Option.some.injEq] at hg
                subst hg
                rw [hbl8] at hg'
                cases hg'))
            have hbB : w.heap.size ≤ bl := hJ5.low j _ hu bl (by simp [TI.all])
            have hslB : w.heap.size ≤ sl := hJ5.low j _ hu sl (by simp [TI.all])
            have hc9 : w9.heap[b3]? = some (.cells (tabC 1 m3) 81 (0, 0)) := hS9.keep (hG b3 _ (by omega) (hA7.keep hc3)) (by omega)
            have hM9 : MP w9 m3 [] := hM3.keep (fun o ho => hS9.keep (hG m3 _ (by omega) (hA7.keep ho)) (by omega))
            have hJ9 := (hJ5.toK hm1).reopen (s' := s') (tb' := b3) (m' := m3) (w' := w9) hu (by omega) hej
              ⟨hk4, ⟨v', n + 1, xs ++ [pt b3], hS9.at_, hO9, hs', by omega, by omega, by simp [hxl]⟩, ⟨1, hc9⟩, hM9⟩
              (fun y hy => by simp only [TI.all, List.mem_cons, List.not_mem_nil, or_false] at hy; rcases hy with rfl | rfl | rfl | rfl <;> omega)
              (fun y o hy hy2 ho => hS9.keep (hG y o hy2 (hk57 y o ho)) hy)
            have hO := hJ5.ord
            have hn9 : clrF j es' f' (.lst bl s' b3 m3 []) j = some (.lst bl s' b3 m3 []) := by unfold clrF; rw [if_pos rfl]
            have hlr9 : clrF j es' f' (.lst bl s' b3 m3 []) 0 = some ((TI.tab r m0 l0).setL lr) := by
              rw [clrF_at hO (newAt.low hO (hJ5.lt hlr) (Nat.zero_le _)) (by omega)]
              exact hlr
            have hU9 : Up w.heap.size w w9 := ((hU05.trans (hU6.mono (by omega))).trans ((hA7.up (by omega)).trans (hF8.up))).trans (hS9.up hbB)
            repeat (first | refine WL.pp rfl ?_ | refine WL.ns ?_ | refine WC.sr ?_ | refine WC.dF rfl (by first | omega | decide) ?_ | refine WC.reg ?_ | refine WL.nil ?_ | refine X.sn ?_ | refine X.bn ?_ | refine WC.skip ?_ | refine WL.ad rfl rfl (by omega) rfl ?_)
            exact X.again (m + 1, ⟨clrE j es', j⟩, _, b3) ⟨hU9, by dsimp only; omega, hJ9, ⟨m0, lr, hlr9⟩, ⟨_, hn9, by simp [TI.mp], rfl⟩, hgood _ hcx⟩ (by dsimp only; omega) ⟨rfl, rfl, rfl, rfl, rfl, trivial⟩
  · have hmv : es.drop m = [] := List.drop_eq_nil_of_le (by omega)
    rw [hmv] at hfb
    have hmn : meant es = none := by rw [← hfb]; rfl
    rw [hmn]
    repeat (first | refine WL.pp rfl ?_ | refine WL.ns ?_ | refine WC.sr ?_ | refine WC.dF rfl (by first | omega | decide) ?_ | refine WC.seq ?_ | refine X.sn ?_ | refine X.sx ?_ | refine X.bx ?_ | refine WC.exit ?_ | refine WC.ret ?_)
    exact X.ret_ rfl rfl ⟨0, rfl, by simp, hU⟩

end Go.Proofs.YtaccphdkapmdhaaGreat

namespace Go.Proofs.YtaccphdkapmdhaaGreat

mutual
/-- All names are short. -/
def SmV : Val → Prop
  | .sc _ _ => True
  | .arr vs => SmI vs
  | .tbl es => SmE es
def SmI : List Val → Prop
  | [] => True
  | v :: vs => SmV v ∧ SmI vs
def SmE : List (List Bs × Val) → Prop
  | [] => True
  | (ks, v) :: es => (∀ k ∈ ks, k.length ≤ 1) ∧ SmV v ∧ SmE es
end
theorem SmI_of : ∀ (vs : List Val), (∀ v ∈ vs, SmV v) → SmI vs
  | [], _ => trivial
  | v :: vs, h => by
    simp only [SmI]
    exact ⟨h v (by simp), SmI_of vs (fun v hv => h v (by simp [hv]))⟩
theorem SmE_of : ∀ (es : List (List Bs × Val)), (∀ ks v, (ks, v) ∈ es → (∀ k ∈ ks, k.length ≤ 1) ∧ SmV v) → SmE es
  | [], _ => trivial
  | (ks, v) :: es, h => by
    simp only [SmE]
    exact ⟨(h ks v (by simp)).1, (h ks v (by simp)).2, SmE_of es (fun ks v hv => h ks v (by simp [hv]))⟩
theorem mt_sm : ∀ (d n : Nat), SmV (mt d n)
  | 0, n => by simp [mt, SmV]
  | d + 1, n => by
    unfold mt
    split
    · rw [SmV]
      refine SmE_of _ fun ks v h => ?_
      obtain ⟨k, _, hk⟩ := List.mem_map.1 h
      simp only [Prod.mk.injEq] at hk
      obtain ⟨rfl, rfl⟩ := hk
      exact ⟨(nms_ok _).2.2.1, mt_sm d _⟩
    · split
      · rw [SmV]
        refine SmI_of _ fun v h => ?_
        obtain ⟨k, _, rfl⟩ := List.mem_map.1 h
        exact mt_sm d _
      · simp [SmV]

def SmX (x : Ex) : Prop := (∀ k ∈ exKeys x, k.length ≤ 1) ∧ SmV (exV x)
theorem lineOf_sm (n : Nat) : SmX (lineOf n) := by
  unfold lineOf
  split
  · exact ⟨(nms_ok _).2.2.1, by simp [exV, SmV]⟩
  · exact ⟨(nms_ok _).2.2.1, by simp [exV, SmV]⟩
  · exact ⟨(nms_ok _).2.2.1, by simp [exV, SmV]⟩
  · exact ⟨(nms_ok _).2.2.1, mt_sm _ _⟩
theorem linesOf_sm (l : List Nat) : ∀ x ∈ linesOf l, SmX x := fun x hx => by
  obtain ⟨n, _, rfl⟩ := List.mem_map.1 hx
  exact lineOf_sm n

/-- All entries' names are short. -/
abbrev Few (es : List Ent) : Prop := ∀ e ∈ es, e.name.length ≤ 1

theorem Few.snoc {es : List Ent} (h : Few es) {p : Int} {k : Nat} {x : Bool} {nm : Bs} (hn : nm.length ≤ 1) : Few (es ++ [⟨p, k, x, nm⟩]) := fun e he => by
  rcases List.mem_append.1 he with he | he
  · exact h e he
  · simp only [List.mem_singleton] at he
    subst he
    exact hn

theorem ckK_few {f : List Ent → Nat → List Ent × Bool} (hf : ∀ es id, Few es → Few (f es id).1) : ∀ (ks : List Bs) (es : List Ent) (p : Nat), (∀ k ∈ ks, k.length ≤ 1) → Few es → Few (ckK f ks es p).1
  | [], es, p, _, h => h
  | [k], es, p, hk, h => by
    simp only [ckK]
    split
    · exact h
    · exact hf _ _ (h.snoc (hk k (by simp)))
  | k :: k2 :: ks, es, p, hk, h => by
    simp only [ckK]
    split
    · exact ckK_few hf (k2 :: ks) _ _ (fun a ha => hk a (by simp only [List.mem_cons] at ha ⊢; exact .inr ha)) (h.snoc (hk k (by simp)))
    · split
      · exact ckK_few hf (k2 :: ks) _ _ (fun a ha => hk a (by simp only [List.mem_cons] at ha ⊢; exact .inr ha)) h
      · exact h

mutual
theorem ckV_few : ∀ (v : Val) (es : List Ent) (id : Nat), SmV v → Few es → Few (ckV v es id).1
  | .sc _ _, es, id, _, h => by rw [ckV]; exact h
  | .arr vs, es, id, hv, h => by rw [ckV]; rw [SmV] at hv; exact ckIs_few vs es id hv h
  | .tbl ts, es, id, hv, h => by rw [ckV]; rw [SmV] at hv; exact ckEs_few ts es id hv h
theorem ckIs_few : ∀ (vs : List Val) (es : List Ent) (id : Nat), SmI vs → Few es → Few (ckIs vs es id).1
  | [], es, id, _, h => by rw [ckIs]; exact h
  | v :: vs, es, id, hv, h => by
    rw [SmI] at hv
    rw [ckIs]
    split
    · exact ckIs_few vs es id hv.2 h
    · have h2 := ckV_few v (es ++ [⟨id, 5, false, []⟩]) es.length hv.1 (h.snoc (by simp))
      split
      · rename_i es' he
        rw [he] at h2
        exact ckIs_few vs es' id hv.2 h2
      · rename_i es' he
        rw [he] at h2
        exact h2
theorem ckEs_few : ∀ (ts : List (List Bs × Val)) (es : List Ent) (id : Nat), SmE ts → Few es → Few (ckEs ts es id).1
  | [], es, id, _, h => by rw [ckEs]; exact h
  | (ks, v) :: ts, es, id, hv, h => by
    rw [SmE] at hv
    rw [ckEs]
    have h2 := ckK_few (fun es id h => ckV_few v es id hv.2.1 h) ks es id hv.1 h
    split
    · rename_i es' he
      rw [he] at h2
      exact ckEs_few ts es' id hv.2.2 h2
    · rename_i es' he
      rw [he] at h2
      exact h2
end

theorem ckH_few : ∀ (ks : List Bs) (es : List Ent) (p : Nat), (∀ k ∈ ks, k.length ≤ 1) → Few es → Few (ckH ks es p).1 ∧ ∀ q k, (ckH ks es p).2 = some (q, k) → k.length ≤ 1
  | [], es, p, _, h => ⟨h, fun q k hq => by simp [ckH] at hq⟩
  | [k], es, p, hk, h => ⟨h, fun q k' hq => by
      simp only [ckH, Option.some.injEq, Prod.mk.injEq] at hq
      rw [← hq.2]
      exact hk k (by simp)⟩
  | k :: k2 :: ks, es, p, hk, h => by
    simp only [ckH]
    split
    · exact ckH_few (k2 :: ks) _ _ (fun a ha => hk a (by simp only [List.mem_cons] at ha ⊢; exact .inr ha)) (h.snoc (hk k (by simp)))
    · split
      · exact ckH_few (k2 :: ks) _ _ (fun a ha => hk a (by simp only [List.mem_cons] at ha ⊢; exact .inr ha)) h
      · exact ⟨h, fun q k hq => by cases hq⟩

theorem Few.clr {es : List Ent} (h : Few es) (hO : Ord es) (id : Nat) : Few (clrE id es) := fun a ha => by
  obtain ⟨m, hm⟩ := List.getElem?_of_mem ha
  obtain ⟨j, e, he, hj⟩ := newAt.onto hO (List.getElem?_eq_some_iff.1 hm).1
  obtain ⟨e', h1, _, _, h2, _⟩ := hj.ent hO he
  rw [hm] at h1
  simp only [Option.some.injEq] at h1
  subst h1
  rw [h2]
  exact h e (List.mem_of_getElem? he)

theorem Few.set {es : List Ent} (h : Few es) {i : Nat} {e : Ent} (he : e.name.length ≤ 1) : Few (es.set i e) := fun a ha => by
  rcases List.mem_or_eq_of_mem_set ha with ha | rfl
  · exact h a ha
  · exact he

theorem ckX_few {t : Trk} (hO : TOk t) (x : Ex) (hx : SmX x) (h : Few t.ents) : Few (ckX t x).1.ents := by
  cases x with
  | kv ks v => exact ckK_few (fun es id h => ckV_few v es id hx.2 h) ks _ _ hx.1 h
  | tab ks =>
    have h1 := ckH_few ks t.ents 0 hx.1 h
    simp only [ckX]
    obtain ⟨⟨es, o⟩, hr⟩ : ∃ r, ckH ks t.ents 0 = r := ⟨_, rfl⟩
    rw [hr] at h1 ⊢
    cases o with
    | none => exact h1.1
    | some q =>
      obtain ⟨p, k⟩ := q
      have hk := h1.2 p k rfl
      simp only
      split
      · exact h1.1.snoc hk
      · split
        · rename_i e he
          split
          · exact h1.1.set (h1.1 e (List.mem_of_getElem? he))
          · exact h1.1
        · exact h1.1
  | atab ks =>
    have h1 := ckH_few ks t.ents 0 hx.1 h
    have hO1 : Ord (ckH ks t.ents 0).1 := by
      have := ckH_grow ks t.ents 0 hO.1 (by have := hO.2; omega)
      exact this.1.1
    simp only [ckX]
    obtain ⟨⟨es, o⟩, hr⟩ : ∃ r, ckH ks t.ents 0 = r := ⟨_, rfl⟩
    rw [hr] at h1 hO1 ⊢
    cases o with
    | none => exact h1.1
    | some q =>
      obtain ⟨p, k⟩ := q
      have hk := h1.2 p k rfl
      simp only
      split
      · exact h1.1.snoc hk
      · split
        · exact h1.1.clr hO1 _
        · exact h1.1

def runT : Trk → List Ex → Trk
  | t, [] => t
  | t, x :: l => runT (ckT t x).1 l

theorem firstBad_run : ∀ (a b : List Ex) (t : Trk) (n : Nat), firstBad t a n = none → firstBad t (a ++ b) n = firstBad (runT t a) b (n + a.length)
  | [], b, t, n, _ => by simp [runT]
  | x :: a, b, t, n, h => by
    simp only [firstBad, List.cons_append, runT] at h ⊢
    split at h
    · rename_i hb
      rw [if_pos hb, firstBad_run a b _ _ h, List.length_cons, show n + 1 + a.length = n + (a.length + 1) by omega]
    · cases h

theorem runT_few : ∀ (a : List Ex) (t : Trk), TPre t → Few t.ents → (∀ x ∈ a, SmX x) → TPre (runT t a) ∧ Few (runT t a).ents
  | [], t, h, hf, _ => ⟨h, hf⟩
  | x :: a, t, h, hf, hs => by
    have hb := (begun_ok h).1
    have hfb : Few t.begun.ents := by
      unfold Trk.begun
      split
      · intro e he
        simp only [List.mem_singleton] at he
        subst he
        simp
      · exact hf
    exact runT_few a (ckT t x).1 (.inr (ckX_ok hb x).1) (ckX_few hb x (hs x (by simp)) hfb) (fun y hy => hs y (by simp [hy]))

def oth : Bs := [111, 116, 104, 101, 114]
/-- The law's expression. -/
def exO (k : Nat) (nm : Bs) : Ex := if k = 0 then .kv [oth, nm] (.sc 1 [55]) else if k = 1 then .tab [oth, nm] else .atab [oth, nm]

theorem Few.no {es : List Ent} (h : Few es) (p : Nat) : findE es p oth = none := findE_no fun i e he => by
  cases hb : e.is p oth with
  | false => rfl
  | true =>
    have h1 := h e (List.mem_of_getElem? he)
    rw [(Ent.is_parent hb).2.2] at h1
    simp [oth] at h1

theorem exO_twice {t : Trk} (hO : TOk t) (hF : Few t.ents) (k : Nat) (nm : Bs) : ∃ t1 t2, ckX t (exO k nm) = (t1, true) ∧ t1.ents ≠ [] ∧ ckX t1 (exO k nm) = (t2, decide (¬ k = 0 ∧ ¬ k = 1)) := by
  obtain ⟨es, cur⟩ := t
  have hlen : cur < es.length := hO.2
  have get1 : ∀ (p kd kd2 : Nat) (x2 : Bool), p < es.length → kd ≠ 5 → findE (es ++ [⟨p, kd, false, oth⟩] ++ [⟨es.length, kd2, x2, nm⟩]) p oth = some es.length := by
    intro p kd kd2 x2 hp h5
    rw [findE_ext (by simp; omega) oth (by
      intro e he
      simp only [List.mem_singleton] at he
      subst he
      simp only
      omega), findE_snoc hp oth h5, hF.no p]
    simp
  have get2 : ∀ (p kd kd2 : Nat) (x2 : Bool), kd2 ≠ 5 → findE (es ++ [⟨p, kd, false, oth⟩] ++ [⟨es.length, kd2, x2, nm⟩]) es.length nm = some (es.length + 1) := by
    intro p kd kd2 x2 h5
    rw [findE_snoc (by simp) nm h5, findE_last (by simp)]
    simp
  have at1 : ∀ (p kd kd2 : Nat) (x2 : Bool), (es ++ [(⟨p, kd, false, oth⟩ : Ent)] ++ [⟨es.length, kd2, x2, nm⟩])[es.length]? = some ⟨p, kd, false, oth⟩ := by
    intro p kd kd2 x2
    rw [List.getElem?_append_left (by simp), List.getElem?_append_right (Nat.le_refl _), Nat.sub_self]
    rfl
  have at2 : ∀ (p kd kd2 : Nat) (x2 : Bool), (es ++ [(⟨p, kd, false, oth⟩ : Ent)] ++ [⟨es.length, kd2, x2, nm⟩])[es.length + 1]? = some ⟨es.length, kd2, x2, nm⟩ := by
    intro p kd kd2 x2
    rw [List.getElem?_append_right (by simp)]
    simp
  by_cases h0 : k = 0
  · have he : exO k nm = .kv [oth, nm] (.sc 1 [55]) := by simp [exO, h0]
    have hd : decide (¬ k = 0 ∧ ¬ k = 1) = false := by simp [h0]
    rw [he, hd]
    refine ⟨⟨es ++ [⟨cur, 2, false, oth⟩] ++ [⟨es.length, 1, false, nm⟩], cur⟩, ⟨es ++ [⟨cur, 2, false, oth⟩] ++ [⟨es.length, 1, false, nm⟩], cur⟩, ?_, by simp, ?_⟩
    · simp only [ckX, ckK, hF.no cur]
      rw [findE_last (by simp)]
      simp [ckV]
    · simp only [ckX, ckK, get1 cur 2 1 false hlen (by omega), kindE, at1, get2 cur 2 1 false (by omega), if_true]
  · by_cases h1 : k = 1
    · have he : exO k nm = .tab [oth, nm] := by simp [exO, h1]
      have hd : decide (¬ k = 0 ∧ ¬ k = 1) = false := by simp [h1]
      rw [he, hd]
      refine ⟨⟨es ++ [⟨(0 : Nat), 3, false, oth⟩] ++ [⟨es.length, 3, true, nm⟩], es.length + 1⟩, ⟨es ++ [⟨(0 : Nat), 3, false, oth⟩] ++ [⟨es.length, 3, true, nm⟩], es.length + 1⟩, ?_, by simp, ?_⟩
      · simp only [ckX, ckH, hF.no 0]
        rw [findE_last (by simp)]
        simp
      · simp only [ckX, ckH, get1 0 3 3 true (by omega) (by omega), kindE, at1, get2 0 3 3 true (by omega), at2]
        simp only [Nat.reduceEqDiff, false_or, true_or, or_false, if_true, get2 0 3 3 true (by omega), at2, Bool.true_eq_false, and_false, if_false]
    · have he : exO k nm = .atab [oth, nm] := by simp [exO, h0, h1]
      have hd : decide (¬ k = 0 ∧ ¬ k = 1) = true := by simp [h0, h1]
      rw [he, hd]
      refine ⟨⟨es ++ [⟨(0 : Nat), 3, false, oth⟩] ++ [⟨es.length, 4, true, nm⟩], es.length + 1⟩, ⟨clrE (es.length + 1) (es ++ [⟨(0 : Nat), 3, false, oth⟩] ++ [⟨es.length, 4, true, nm⟩]), es.length + 1⟩, ?_, by simp, ?_⟩
      · simp only [ckX, ckH, hF.no 0]
        rw [findE_last (by simp)]
        simp
      · simp only [ckX, ckH, get1 0 3 4 true (by omega) (by omega), kindE, at1, get2 0 3 4 true (by omega), at2]
        simp only [Nat.reduceEqDiff, false_or, true_or, or_false, if_true, get2 0 3 4 true (by omega), at2]

theorem twice_law {ls : List Ex} (h : meant ls = none) (hs : ∀ x ∈ ls, SmX x) (k : Nat) (nm : Bs) :
    meant (ls ++ [exO k nm]) = none ∧ meant (ls ++ [exO k nm] ++ [exO k nm]) = if ¬ k = 0 ∧ ¬ k = 1 then none else some (ls.length + 1) := by
  obtain ⟨hp, hf⟩ := runT_few ls ⟨[], 0⟩ (.inl rfl) (fun e he => by simp at he) hs
  have hb := (begun_ok hp).1
  have hfb : Few (runT ⟨[], 0⟩ ls).begun.ents := by
    unfold Trk.begun
    split
    · intro e he
      simp only [List.mem_singleton] at he
      subst he
      simp
    · exact hf
  obtain ⟨t1, t2, h1, hne, h2⟩ := exO_twice hb hfb k nm
  have hb1 : t1.begun = t1 := by
    unfold Trk.begun
    cases he : t1.ents with
    | nil => exact absurd he hne
    | cons a l => rfl
  constructor
  · unfold meant
    rw [firstBad_run ls _ _ 0 h]
    simp only [firstBad, ckT, h1, if_true]
  · unfold meant
    rw [List.append_assoc, firstBad_run ls _ _ 0 h]
    simp only [List.cons_append, List.nil_append, firstBad, ckT, h1, if_true, hb1, h2]
    by_cases hk : ¬ k = 0 ∧ ¬ k = 1
    · simp [hk]
    · simp only [decide_eq_true_eq, if_neg hk]
      simp

end Go.Proofs.YtaccphdkapmdhaaGreat

namespace Go.Proofs.YtaccphdkapmdhaaGreat

section
attribute [local semireducible] WL WC X WD WDo
variable {all : List Oper} {Q : Exit → Act → World → Prop} {N : Nat} {L L' : Env} {o : Oper} {w : World} {S : World → Prop} {fuel : Nat} {listed : Array Bool}

theorem WDo.bs {i t n e : Nat} {vs : List (Nat × Value)} {c : Array Value} (hi : all[i]? = some o) (hg : grd all L o = some true) (h : bsA L o.op = some (t, n, vs))
    (hr : ∀ w, (Instr.buildSlice t n ⟨vs⟩).run PP w = .ok (.slice (some ⟨w.heap.size, 0, none⟩) n n) (w.alloc (.cells c e (0, 0)))) (hS : ∀ w', Al w (.cells c e (0, 0)) w' → S w')
    (hd : dstE N o (.slice (some ⟨w.heap.size, 0, none⟩) n n) L = some L') (k : ∀ w', Al w (.cells c e (0, 0)) w' → WD all Q N S fuel (listed.setIfInBounds i true) L' w') : WDo all Q N S fuel listed L w i :=
  WDo.v hi hg (fun a hf => by rw [bsA_run hf h]; simp [hr]) (hS _ (alloc_al w _)) hd (k _ (alloc_al w _))

/-- Lines appended. -/
theorem apRunL {v : Value} {xs : List Value} {B k0 lcap : Nat} {lad : Option Addr} {es : List Ex} {P : Nat → Prop} (h : apA L o.op = some (24, v, .slice lad es.length lcap)) (hown : w.ownsRow B 40 6 v k0 xs) (hV : LsV w P (.slice lad es.length lcap) es)
    (hm : k0 + es.length ≤ 1000000) (hB : B ≤ w.heap.size) :
    ∃ v' w' ys, (∀ a, Fr N L a → (execOp a.eval o).run PP w = .ok (.value v') w') ∧ w'.ownsRow B 40 6 v' (k0 + es.length) (xs ++ ys) ∧ LsIs w P es ys ∧ ys.length = es.length * 6 ∧ Fm B [40] w w' ∧
      (∀ (k : Nat), k < w.heap.size → v.ownBlock ≠ some k → w'.heap[k]? = w.heap[k]?) ∧ (v'.ownBlock = v.ownBlock ∨ v'.ownBlock = some w.heap.size) := by
  obtain ⟨ad', cap', hv, hrow⟩ := hV
  simp only [Value.slice.injEq] at hv
  obtain ⟨rfl, _, rfl⟩ := hv
  cases lad with
  | none =>
    have he : es = [] := by
      cases es with
      | nil => rfl
      | cons x l => obtain ⟨g, cur, h1, _⟩ := hrow (by simp); cases h1
    subst he
    refine ⟨v, w, [], fun a hf => ?_, by simpa using hown, trivial, rfl, Fm.refl _ _ _, fun _ _ _ => rfl, .inl rfl⟩
    obtain ⟨i, z, hu, hi, hz, hsz, hby, hzs, h0⟩ := row_parts (show rowT 24 = some (40, 6) from rfl)
    rw [apA_run hf h]
    rcases hown.2 with ⟨rfl, rfl⟩ | ⟨g, cap, cur, rfl, _, _, hnc, _⟩
    · simp [Builtin.append_, run_underlying hu, sizeOf, typeInfo, hi, Builtin.lenOf, Builtin.firstCells]
    · simp [Builtin.append_, run_underlying hu, sizeOf, typeInfo, hi, Builtin.lenOf, Builtin.firstCells, hnc, storeCells]
  | some ad =>
    by_cases hz : es = []
    · subst hz
      obtain ⟨v', w', h1, h2, h3, h4, h5⟩ := apRunO (N := N) (m := 0) [] h (rfl : rowT 24 = some (40, 6)) hown rfl (fun j u hu => by simp at hu) (fun u hu => by simp at hu) (by simp only [List.length_nil] at hm; omega) hB
      exact ⟨v', w', [], h1, h2, trivial, rfl, h3, h4, h5⟩
    · obtain ⟨g, cur, had, hg, hL⟩ := hrow hz
      simp only [Option.some.injEq] at had
      subst had
      have hlen := hL.lenGe
      have hl6 : (cur.take (es.length * 6)).length = es.length * 6 := by rw [List.length_take]; omega
      obtain ⟨v', w', h1, h2, h3, h4, h5⟩ := apRunO (N := N) (m := es.length) (cur.take (es.length * 6)) h (rfl : rowT 24 = some (40, 6)) hown hl6 (fun j u hu => by
        rw [add_zero]
        refine cell_of hg ?_
        rw [List.getElem?_take] at hu
        split at hu
        · simpa using hu
        · cases hu) (LsIs.one hL.tk hl6) (by omega) hB
      exact ⟨v', w', _, h1, h2, hL.tk, hl6, h3, h4, h5⟩
end
attribute [local irreducible] binOp IntKind.wrap Sem.run

/-- A line more. -/
theorem LsV.snocX {w' : World} {B : Nat} {v' : Value} {es : List Ex} {x : Ex} {ys cs : List Value} {P : Nat → Prop} (hO : w'.ownsRow B 40 6 v' (es.length + 1) (ys ++ cs)) (hy : LsIs w' P es ys) (hyl : ys.length = es.length * 6) (hc : LsIs w' P [x] cs) : LsV w' P v' (es ++ [x]) :=
  LsV.own (B := B) (xs := ys ++ cs) (by simpa using hO) (LsIs.app hy hyl hc)

theorem LsIs.upT {w w' : World} {es : List Ex} {l : List Value} {B : Nat} (h : LsIs w (fun _ => True) es l) (hf : Fm B [40] w w') : LsIs w' (fun _ => True) es l :=
  LsIs.keep (Kept.fm hf (by simp) (by simp)) _ _ h

noncomputable abbrev tw10Ops : List Oper := regOf ((Tryz.f4.body).getD .skip) 10

section
variable {W0 : World} (b8 lcap : Nat) (lad : Option Addr) (es : List Ex) (x : Ex) (cs : List Value) {Q : Exit → Act → World → Prop} [POk Q]

abbrev Tw10K (W0 : World) (b8 lcap : Nat) (lad : Option Addr) (es : List Ex) (x : Ex) (Q : Exit → Act → World → Prop) : Prop := ∀ (v : Value) (w : World), LsV w (fun _ => True) v (es ++ [x]) → Up W0.heap.size W0 w → X .normal Q Tryz.f4.ntmps [(9, v), (5, .slice lad es.length lcap), (8, pt b8)] w

set_option maxRecDepth 100000 in
set_option maxHeartbeats 16000000 in
theorem tw10_e (hk : Tw10K W0 b8 lcap lad es x Q) (h8 : b8 < W0.heap.size) (hl6 : cs.length = 6) (hel : es.length ≤ 1000) (w : World) (hU : Up W0.heap.size W0 w) (hS : w.heap[b8]? = some (.cells ⟨cs⟩ 40 (0, 0))) (v2 : Value) (ys : List Value) (hO : w.ownsRow W0.heap.size 40 6 v2 es.length ys) (hy : LsIs w (fun _ => True) es ys) (hyl : ys.length = es.length * 6)
    (b4 : Nat) (h4 : w.heap[b4]? = some (.cells ⟨cs⟩ 40 (0, 0))) (hc : LsIs w (fun _ => True) [x] cs) :
    WD tw10Ops Q Tryz.f4.ntmps (fun w' => w'.heap[b8]? = some (.cells ⟨cs⟩ 40 (0, 0))) 2 ⟨[true, true, true, true, true, false, false]⟩ [(42, v2), (44, .slice (some ⟨b4, 0, none⟩) 1 1), (5, .slice lad es.length lcap), (8, pt b8)] w := by
  refine WD.a1 5 (by kernel_rfl) ?_
  obtain ⟨v', w', h1, h2, h3, h4', h5⟩ := apRunO (N := Tryz.f4.ntmps) (L := [(42, v2), (44, .slice (some ⟨b4, 0, none⟩) 1 1), (5, .slice lad es.length lcap), (8, pt b8)]) (o := tw10Ops[5]) (m := 1) cs rfl (rfl : rowT 24 = some (40, 6)) hO hl6 (fun j u hu => by
    rw [add_zero]
    exact cell_of h4 (by simpa using hu)) (LsIs.one hc (by rw [hl6]; rfl)) (by omega) hU.size
  have hS' : w'.heap[b8]? = some (.cells ⟨cs⟩ 40 (0, 0)) := h3.up.at h8 hS
  refine WDo.v rfl rfl h1 hS' rfl ?_
  refine WD.tp 6 rfl (by kernel_rfl) POk.ok hS' rfl ?_
  refine WD.nil (by kernel_rfl) ?_
  exact X.weaken [(9, v'), (5, .slice lad es.length lcap), (8, pt b8)] ⟨rfl, rfl, rfl, trivial⟩ (hk v' w' (LsV.snocX h2 (hy.upT h3) hyl (hc.upT h3)) (hU.trans h3.up))

set_option maxRecDepth 100000 in
set_option maxHeartbeats 16000000 in
theorem tw10_d (hk : Tw10K W0 b8 lcap lad es x Q) (h8 : b8 < W0.heap.size) (hl6 : cs.length = 6) (hel : es.length ≤ 1000) (w : World) (hU : Up W0.heap.size W0 w) (hS : w.heap[b8]? = some (.cells ⟨cs⟩ 40 (0, 0))) (v0 : Value) (hO : w.ownsRow W0.heap.size 40 6 v0 0 []) (hV : LsV w (fun _ => True) (.slice lad es.length lcap) es)
    (b4 : Nat) (h4 : w.heap[b4]? = some (.cells ⟨cs⟩ 40 (0, 0))) (hne : v0.ownBlock ≠ some b4) (hc : LsIs w (fun _ => True) [x] cs) :
    WD tw10Ops Q Tryz.f4.ntmps (fun w' => w'.heap[b8]? = some (.cells ⟨cs⟩ 40 (0, 0))) 3 ⟨[true, true, false, true, true, false, false]⟩ [(40, v0), (41, .slice lad es.length lcap), (44, .slice (some ⟨b4, 0, none⟩) 1 1), (5, .slice lad es.length lcap), (8, pt b8)] w := by
  refine WD.a1 2 (by kernel_rfl) ?_
  obtain ⟨v', w', ys, h1, h2, h3, h3', h3'', h4', h5⟩ := apRunL (N := Tryz.f4.ntmps) (L := [(40, v0), (41, .slice lad es.length lcap), (44, .slice (some ⟨b4, 0, none⟩) 1 1), (5, .slice lad es.length lcap), (8, pt b8)]) (o := tw10Ops[2]) rfl hO hV (by omega) hU.size
  have hS' : w'.heap[b8]? = some (.cells ⟨cs⟩ 40 (0, 0)) := h3''.up.at h8 hS
  refine WDo.v rfl rfl h1 hS' rfl ?_
  have h4'' : w'.heap[b4]? = some (.cells ⟨cs⟩ 40 (0, 0)) := by rw [h4' b4 (lt_of_heap h4) hne]; exact h4
  exact WD.weaken (L' := [(42, v'), (44, .slice (some ⟨b4, 0, none⟩) 1 1), (5, .slice lad es.length lcap), (8, pt b8)]) ⟨rfl, rfl, rfl, rfl, trivial⟩ (tw10_e b8 lcap lad es x cs hk h8 hl6 hel w' (hU.trans h3''.up) hS' v' ys (by simpa using h2) (h3.upT h3'') h3' b4 h4'' (hc.upT h3''))

set_option maxRecDepth 100000 in
set_option maxHeartbeats 16000000 in
theorem tw10_any (hk : Tw10K W0 b8 lcap lad es x Q) (h8 : W0.heap[b8]? = some (.cells ⟨cs⟩ 40 (0, 0))) (hone : ∀ u ∈ cs, oneV u = true) (hl6 : cs.length = 6) (hel : es.length ≤ 1000) (hV : LsV W0 (fun _ => True) (.slice lad es.length lcap) es) (hc : LsIs W0 (fun _ => True) [x] cs) :
    WD tw10Ops Q Tryz.f4.ntmps (fun w' => w'.heap[b8]? = some (.cells ⟨cs⟩ 40 (0, 0))) 7 (Array.replicate 7 false) [(5, .slice lad es.length lcap), (8, pt b8)] W0 := by
  have h8l := lt_of_heap h8
  obtain ⟨c0, c1, c2, c3, c4, c5, rfl⟩ : ∃ c0 c1 c2 c3 c4 c5, cs = [c0, c1, c2, c3, c4, c5] := by
    match cs, hl6 with
    | [c0, c1, c2, c3, c4, c5], _ => exact ⟨c0, c1, c2, c3, c4, c5, rfl⟩
  refine WD.tp 1 rfl (by kernel_rfl) POk.ok h8 rfl ?_
  refine WD.tg (cs := [c0, c1, c2, c3, c4, c5]) 3 rfl (by kernel_rfl) POk.ok h8 rfl rfl rfl (fun w' hw' => cells_block hw' rfl) rfl ?_
  refine WD.a2 0 4 (by kernel_rfl) ?_ ?_
  · refine WDo.bs rfl rfl rfl bsE0 (fun w' hA => hA.keep h8) rfl (fun w1 hA1 => ?_)
    have hU1 : Up W0.heap.size W0 w1 := hA1.up (Nat.le_refl _)
    have hsz1 : w1.heap.size = W0.heap.size + 1 := hA1.size
    have hO1 : w1.ownsRow W0.heap.size 40 6 (.slice (some ⟨W0.heap.size, 0, none⟩) 0 0) 0 [] := ⟨rfl, .inr ⟨W0.heap.size, 0, #[], rfl, Nat.le_refl _, hA1.at_, Nat.le_refl _, by simp only [maxLen]; omega, rfl, rfl⟩⟩
    have hF1 : Fm W0.heap.size [40] W0 w1 := hA1.fm (Nat.le_refl _)
    have hV1 : LsV w1 (fun _ => True) (.slice lad es.length lcap) es := hV.up hU1
    have hc1 := hc.upT hF1
    have h81 := hA1.keep h8
    refine WD.a2 2 4 (by kernel_rfl) ?_ ?_
    · obtain ⟨v', w2, ys, h1, h2, h3, h3', h3'', h4', h5⟩ := apRunL (N := Tryz.f4.ntmps) (L := [(40, .slice (some ⟨W0.heap.size, 0, none⟩) 0 0), (43, .agg ⟨[c0, c1, c2, c3, c4, c5]⟩), (41, .slice lad es.length lcap), (5, .slice lad es.length lcap), (8, pt b8)]) (o := tw10Ops[2]) rfl hO1 hV1 (by omega) hU1.size
      have hS2 := h3''.up.at h8l h81
      refine WDo.v rfl rfl h1 hS2 rfl ?_
      have hU2 := hU1.trans h3''.up
      refine WD.a1 4 (by kernel_rfl) ?_
      refine WDo.bs rfl rfl rfl (bsE1 c0 c1 c2 c3 c4 c5) (fun w' hA => hA.keep hS2) rfl (fun w3 hA3 => ?_)
      have hF3 : Fm W0.heap.size [40] w2 w3 := hA3.fm hU2.size
      exact WD.weaken (L' := [(42, v'), (44, .slice (some ⟨w2.heap.size, 0, none⟩) 1 1), (5, .slice lad es.length lcap), (8, pt b8)]) ⟨rfl, rfl, rfl, rfl, trivial⟩ (tw10_e b8 lcap lad es x _ hk h8l hl6 hel w3 (hU2.trans hF3.up) (hA3.keep hS2) v' ys (own_same (by simpa using h2) (fun g o _ ho => hA3.keep ho)) ((h3.upT h3'').upT hF3) h3' _ hA3.at_ ((hc1.upT h3'').upT hF3))
    · refine WDo.bs rfl rfl rfl (bsE1 c0 c1 c2 c3 c4 c5) (fun w' hA => hA.keep h81) rfl (fun w3 hA3 => ?_)
      have hF3 : Fm W0.heap.size [40] w1 w3 := hA3.fm hU1.size
      exact WD.weaken (L' := [(40, .slice (some ⟨W0.heap.size, 0, none⟩) 0 0), (41, .slice lad es.length lcap), (44, .slice (some ⟨w1.heap.size, 0, none⟩) 1 1), (5, .slice lad es.length lcap), (8, pt b8)]) ⟨rfl, rfl, rfl, rfl, rfl, trivial⟩ (tw10_d b8 lcap lad es x _ hk h8l hl6 hel w3 (hU1.trans hF3.up) (hA3.keep h81) _ (own_same hO1 (fun g o _ ho => hA3.keep ho)) (hV1.up (hA3.up (Nat.le_refl _))) _ hA3.at_ (by simp only [Value.ownBlock, ne_eq, Option.some.injEq]; omega) (hc1.upT hF3))
  · refine WDo.bs rfl rfl rfl (bsE1 c0 c1 c2 c3 c4 c5) (fun w' hA => hA.keep h8) rfl (fun w1 hA1 => ?_)
    have hU1 : Up W0.heap.size W0 w1 := hA1.up (Nat.le_refl _)
    have hsz1 : w1.heap.size = W0.heap.size + 1 := hA1.size
    have hF1 : Fm W0.heap.size [40] W0 w1 := hA1.fm (Nat.le_refl _)
    have h81 := hA1.keep h8
    refine WD.a1 0 (by kernel_rfl) ?_
    refine WDo.bs rfl rfl rfl bsE0 (fun w' hA => hA.keep h81) rfl (fun w3 hA3 => ?_)
    have hF3 : Fm W0.heap.size [40] w1 w3 := hA3.fm hU1.size
    have hO3 : w3.ownsRow W0.heap.size 40 6 (.slice (some ⟨w1.heap.size, 0, none⟩) 0 0) 0 [] := ⟨rfl, .inr ⟨w1.heap.size, 0, #[], rfl, hU1.size, hA3.at_, Nat.le_refl _, by simp only [maxLen]; omega, rfl, rfl⟩⟩
    exact WD.weaken (L' := [(40, .slice (some ⟨w1.heap.size, 0, none⟩) 0 0), (41, .slice lad es.length lcap), (44, .slice (some ⟨W0.heap.size, 0, none⟩) 1 1), (5, .slice lad es.length lcap), (8, pt b8)]) ⟨rfl, rfl, rfl, rfl, rfl, trivial⟩ (tw10_d b8 lcap lad es x _ hk h8l hl6 hel w3 (hU1.trans hF3.up) (hA3.keep h81) _ hO3 ((hV.up hU1).up (hA3.up (Nat.le_refl _))) _ (hA3.keep hA1.at_) (by simp only [Value.ownBlock, ne_eq, Option.some.injEq]; omega) ((hc.upT hF1).upT hF3))
end

noncomputable abbrev tw11Ops : List Oper := regOf ((Tryz.f4.body).getD .skip) 11

section
variable {W0 : World} (b8 lcap : Nat) (lad : Option Addr) (u5 : Value) (es : List Ex) (x : Ex) (cs : List Value) {Q : Exit → Act → World → Prop} [POk Q]

abbrev Tw11K (W0 : World) (b8 lcap : Nat) (lad : Option Addr) (u5 : Value) (es : List Ex) (x : Ex) (Q : Exit → Act → World → Prop) : Prop := ∀ (v : Value) (w : World), LsV w (fun _ => True) v (es ++ [x]) → Up W0.heap.size W0 w → X .normal Q Tryz.f4.ntmps [(10, v), (9, .slice lad es.length lcap), (5, u5), (8, pt b8)] w

set_option maxRecDepth 100000 in
set_option maxHeartbeats 16000000 in
theorem tw11_e (hk : Tw11K W0 b8 lcap lad u5 es x Q) (h8 : b8 < W0.heap.size) (hl6 : cs.length = 6) (hel : es.length ≤ 1000) (w : World) (hU : Up W0.heap.size W0 w) (hS : w.heap[b8]? = some (.cells ⟨cs⟩ 40 (0, 0))) (v2 : Value) (ys : List Value) (hO : w.ownsRow W0.heap.size 40 6 v2 es.length ys) (hy : LsIs w (fun _ => True) es ys) (hyl : ys.length = es.length * 6)
    (b4 : Nat) (h4 : w.heap[b4]? = some (.cells ⟨cs⟩ 40 (0, 0))) (hc : LsIs w (fun _ => True) [x] cs) :
    WD tw11Ops Q Tryz.f4.ntmps (fun w' => w'.heap[b8]? = some (.cells ⟨cs⟩ 40 (0, 0))) 2 ⟨[true, true, true, true, true, false, false]⟩ [(48, v2), (50, .slice (some ⟨b4, 0, none⟩) 1 1), (9, .slice lad es.length lcap), (5, u5), (8, pt b8)] w := by
  refine WD.a1 5 (by kernel_rfl) ?_
  obtain ⟨v', w', h1, h2, h3, h4', h5⟩ := apRunO (N := Tryz.f4.ntmps) (L := [(48, v2), (50, .slice (some ⟨b4, 0, none⟩) 1 1), (9, .slice lad es.length lcap), (5, u5), (8, pt b8)]) (o := tw11Ops[5]) (m := 1) cs rfl (rfl : rowT 24 = some (40, 6)) hO hl6 (fun j u hu => by
    rw [add_zero]
    exact cell_of h4 (by simpa using hu)) (LsIs.one hc (by rw [hl6]; rfl)) (by omega) hU.size
  have hS' : w'.heap[b8]? = some (.cells ⟨cs⟩ 40 (0, 0)) := h3.up.at h8 hS
  refine WDo.v rfl rfl h1 hS' rfl ?_
  refine WD.tp 6 rfl (by kernel_rfl) POk.ok hS' rfl ?_
  refine WD.nil (by kernel_rfl) ?_
  exact X.weaken [(10, v'), (9, .slice lad es.length lcap), (5, u5), (8, pt b8)] ⟨rfl, rfl, rfl, rfl, trivial⟩ (hk v' w' (LsV.snocX h2 (hy.upT h3) hyl (hc.upT h3)) (hU.trans h3.up))

set_option maxRecDepth 100000 in
set_option maxHeartbeats 16000000 in
theorem tw11_d (hk : Tw11K W0 b8 lcap lad u5 es x Q) (h8 : b8 < W0.heap.size) (hl6 : cs.length = 6) (hel : es.length ≤ 1000) (w : World) (hU : Up W0.heap.size W0 w) (hS : w.heap[b8]? = some (.cells ⟨cs⟩ 40 (0, 0))) (v0 : Value) (hO : w.ownsRow W0.heap.size 40 6 v0 0 []) (hV : LsV w (fun _ => True) (.slice lad es.length lcap) es)
    (b4 : Nat) (h4 : w.heap[b4]? = some (.cells ⟨cs⟩ 40 (0, 0))) (hne : v0.ownBlock ≠ some b4) (hc : LsIs w (fun _ => True) [x] cs) :
    WD tw11Ops Q Tryz.f4.ntmps (fun w' => w'.heap[b8]? = some (.cells ⟨cs⟩ 40 (0, 0))) 3 ⟨[true, true, false, true, true, false, false]⟩ [(46, v0), (47, .slice lad es.length lcap), (50, .slice (some ⟨b4, 0, none⟩) 1 1), (9, .slice lad es.length lcap), (5, u5), (8, pt b8)] w := by
  refine WD.a1 2 (by kernel_rfl) ?_
  obtain ⟨v', w', ys, h1, h2, h3, h3', h3'', h4', h5⟩ := apRunL (N := Tryz.f4.ntmps) (L := [(46, v0), (47, .slice lad es.length lcap), (50, .slice (some ⟨b4, 0, none⟩) 1 1), (9, .slice lad es.length lcap), (5, u5), (8, pt b8)]) (o := tw11Ops[2]) rfl hO hV (by omega) hU.size
  have hS' : w'.heap[b8]? = some (.cells ⟨cs⟩ 40 (0, 0)) := h3''.up.at h8 hS
  refine WDo.v rfl rfl h1 hS' rfl ?_
  have h4'' : w'.heap[b4]? = some (.cells ⟨cs⟩ 40 (0, 0)) := by rw [h4' b4 (lt_of_heap h4) hne]; exact h4
  exact WD.weaken (L' := [(48, v'), (50, .slice (some ⟨b4, 0, none⟩) 1 1), (9, .slice lad es.length lcap), (5, u5), (8, pt b8)]) ⟨rfl, rfl, rfl, rfl, rfl, trivial⟩ (tw11_e b8 lcap lad u5 es x cs hk h8 hl6 hel w' (hU.trans h3''.up) hS' v' ys (by simpa using h2) (h3.upT h3'') h3' b4 h4'' (hc.upT h3''))

set_option maxRecDepth 100000 in
set_option maxHeartbeats 16000000 in
theorem tw11_any (hk : Tw11K W0 b8 lcap lad u5 es x Q) (h8 : W0.heap[b8]? = some (.cells ⟨cs⟩ 40 (0, 0))) (hone : ∀ u ∈ cs, oneV u = true) (hl6 : cs.length = 6) (hel : es.length ≤ 1000) (hV : LsV W0 (fun _ => True) (.slice lad es.length lcap) es) (hc : LsIs W0 (fun _ => True) [x] cs) :
    WD tw11Ops Q Tryz.f4.ntmps (fun w' => w'.heap[b8]? = some (.cells ⟨cs⟩ 40 (0, 0))) 7 (Array.replicate 7 false) [(9, .slice lad es.length lcap), (5, u5), (8, pt b8)] W0 := by
  have h8l := lt_of_heap h8
  obtain ⟨c0, c1, c2, c3, c4, c5, rfl⟩ : ∃ c0 c1 c2 c3 c4 c5, cs = [c0, c1, c2, c3, c4, c5] := by
    match cs, hl6 with
    | [c0, c1, c2, c3, c4, c5], _ => exact ⟨c0, c1, c2, c3, c4, c5, rfl⟩
  refine WD.tp 1 rfl (by kernel_rfl) POk.ok h8 rfl ?_
  refine WD.tg (cs := [c0, c1, c2, c3, c4, c5]) 3 rfl (by kernel_rfl) POk.ok h8 rfl rfl rfl (fun w' hw' => cells_block hw' rfl) rfl ?_
  refine WD.a2 0 4 (by kernel_rfl) ?_ ?_
  · refine WDo.bs rfl rfl rfl bsE0 (fun w' hA => hA.keep h8) rfl (fun w1 hA1 => ?_)
    have hU1 : Up W0.heap.size W0 w1 := hA1.up (Nat.le_refl _)
    have hsz1 : w1.heap.size = W0.heap.size + 1 := hA1.size
    have hO1 : w1.ownsRow W0.heap.size 40 6 (.slice (some ⟨W0.heap.size, 0, none⟩) 0 0) 0 [] := ⟨rfl, .inr ⟨W0.heap.size, 0, #[], rfl, Nat.le_refl _, hA1.at_, Nat.le_refl _, by simp only [maxLen]; omega, rfl, rfl⟩⟩
    have hF1 : Fm W0.heap.size [40] W0 w1 := hA1.fm (Nat.le_refl _)
    have hV1 : LsV w1 (fun _ => True) (.slice lad es.length lcap) es := hV.up hU1
    have hc1 := hc.upT hF1
    have h81 := hA1.keep h8
    refine WD.a2 2 4 (by kernel_rfl) ?_ ?_
    · obtain ⟨v', w2, ys, h1, h2, h3, h3', h3'', h4', h5⟩ := apRunL (N := Tryz.f4.ntmps) (L := [(46, .slice (some ⟨W0.heap.size, 0, none⟩) 0 0), (49, .agg ⟨[c0, c1, c2, c3, c4, c5]⟩), (47, .slice lad es.length lcap), (9, .slice lad es.length lcap), (5, u5), (8, pt b8)]) (o := tw11Ops[2]) rfl hO1 hV1 (by omega) hU1.size
      have hS2 := h3''.up.at h8l h81
      refine WDo.v rfl rfl h1 hS2 rfl ?_
      have hU2 := hU1.trans h3''.up
      refine WD.a1 4 (by kernel_rfl) ?_
      refine WDo.bs rfl rfl rfl (bsE1 c0 c1 c2 c3 c4 c5) (fun w' hA => hA.keep hS2) rfl (fun w3 hA3 => ?_)
      have hF3 : Fm W0.heap.size [40] w2 w3 := hA3.fm hU2.size
      exact WD.weaken (L' := [(48, v'), (50, .slice (some ⟨w2.heap.size, 0, none⟩) 1 1), (9, .slice lad es.length lcap), (5, u5), (8, pt b8)]) ⟨rfl, rfl, rfl, rfl, rfl, trivial⟩ (tw11_e b8 lcap lad u5 es x _ hk h8l hl6 hel w3 (hU2.trans hF3.up) (hA3.keep hS2) v' ys (own_same (by simpa using h2) (fun g o _ ho => hA3.keep ho)) ((h3.upT h3'').upT hF3) h3' _ hA3.at_ ((hc1.upT h3'').upT hF3))
    · refine WDo.bs rfl rfl rfl (bsE1 c0 c1 c2 c3 c4 c5) (fun w' hA => hA.keep h81) rfl (fun w3 hA3 => ?_)
      have hF3 : Fm W0.heap.size [40] w1 w3 := hA3.fm hU1.size
      exact WD.weaken (L' := [(46, .slice (some ⟨W0.heap.size, 0, none⟩) 0 0), (47, .slice lad es.length lcap), (50, .slice (some ⟨w1.heap.size, 0, none⟩) 1 1), (9, .slice lad es.length lcap), (5, u5), (8, pt b8)]) ⟨rfl, rfl, rfl, rfl, rfl, rfl, trivial⟩ (tw11_d b8 lcap lad u5 es x _ hk h8l hl6 hel w3 (hU1.trans hF3.up) (hA3.keep h81) _ (own_same hO1 (fun g o _ ho => hA3.keep ho)) (hV1.up (hA3.up (Nat.le_refl _))) _ hA3.at_ (by simp only [Value.ownBlock, ne_eq, Option.some.injEq]; omega) (hc1.upT hF3))
  · refine WDo.bs rfl rfl rfl (bsE1 c0 c1 c2 c3 c4 c5) (fun w' hA => hA.keep h8) rfl (fun w1 hA1 => ?_)
    have hU1 : Up W0.heap.size W0 w1 := hA1.up (Nat.le_refl _)
    have hsz1 : w1.heap.size = W0.heap.size + 1 := hA1.size
    have hF1 : Fm W0.heap.size [40] W0 w1 := hA1.fm (Nat.le_refl _)
    have h81 := hA1.keep h8
    refine WD.a1 0 (by kernel_rfl) ?_
    refine WDo.bs rfl rfl rfl bsE0 (fun w' hA => hA.keep h81) rfl (fun w3 hA3 => ?_)
    have hF3 : Fm W0.heap.size [40] w1 w3 := hA3.fm hU1.size
    have hO3 : w3.ownsRow W0.heap.size 40 6 (.slice (some ⟨w1.heap.size, 0, none⟩) 0 0) 0 [] := ⟨rfl, .inr ⟨w1.heap.size, 0, #[], rfl, hU1.size, hA3.at_, Nat.le_refl _, by simp only [maxLen]; omega, rfl, rfl⟩⟩
    exact WD.weaken (L' := [(46, .slice (some ⟨w1.heap.size, 0, none⟩) 0 0), (47, .slice lad es.length lcap), (50, .slice (some ⟨W0.heap.size, 0, none⟩) 1 1), (9, .slice lad es.length lcap), (5, u5), (8, pt b8)]) ⟨rfl, rfl, rfl, rfl, rfl, rfl, trivial⟩ (tw11_d b8 lcap lad u5 es x _ hk h8l hl6 hel w3 (hU1.trans hF3.up) (hA3.keep h81) _ hO3 ((hV.up hU1).up (hA3.up (Nat.le_refl _))) _ (hA3.keep hA1.at_) (by simp only [Value.ownBlock, ne_eq, Option.some.injEq]; omega) ((hc.upT hF1).upT hF3))
end

end Go.Proofs.YtaccphdkapmdhaaGreat

