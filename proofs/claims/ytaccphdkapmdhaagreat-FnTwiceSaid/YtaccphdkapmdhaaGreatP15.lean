/- The writer: values. The writer: documents. The laws' documents: names, values. No condition. -/
import Derived.Test.YtaccphdkapmdhaaGreatP14
namespace Go.Proofs.YtaccphdkapmdhaaGreat
section
attribute [local semireducible] WL WC X WD WX
variable {all : List Oper} {Q : Exit → Act → World → Prop} {N : Nat} {L L' : Env} {o : Oper} {w : World} {S : World → Prop} {fuel : Nat} {listed : Array Bool}
/-- An operation of two operands, taken now. -/
theorem WD.tb {bop : BinOp} {t : Nat} {x y v : Value} (i : Nat) (hi : all[i]? = some o) (hs : sideOk all listed i = true) (hQ : PanicOk Q) (hS : S w) (hg : grd all L o = some true) (h : boA L o.op = some (bop, t, x, y)) (hr : ∀ w, (binOp bop t x y).run PP w = .ok v w)
    (hd : dstE N o v L = some L') (k : WD all Q N S fuel (listed.setIfInBounds i true) L' w) : WD all Q N S (fuel + 1) listed L w :=
  WD.tr i hi hs hQ hS hg (fun w' _ a hf => boA_run hf h (hr w')) hd k
/-- A struct read whole, taken now. -/
theorem WD.tg {n b ofs : Nat} {cs : List Value} (i : Nat) (hi : all[i]? = some o) (hs : sideOk all listed i = true) (hQ : PanicOk Q) (hS : S w) (hg : grd all L o = some true) (h : lgA L o.op = some (n, ⟨b, ofs, none⟩)) (hn : cs.length = n)
    (hc : ∀ w', S w' → ∀ j v, cs[j]? = some v → w'.cell? ⟨b, ofs + j, none⟩ = some v) (hd : dstE N o (.agg cs.toArray) L = some L') (k : WD all Q N S fuel (listed.setIfInBounds i true) L' w) : WD all Q N S (fuel + 1) listed L w :=
  WD.tr i hi hs hQ hS hg (fun w' hw' _ hf => lgA_run hf h hn (hc w' hw')) hd k
end
attribute [local irreducible] binOp IntKind.wrap Sem.run

/-- The writing of a value. -/
def WrV (v : Val) : Prop := ∀ (sp : Nat) (code : Bs) (i : Nat) (P : Nat → Prop) (a b c d : Value) (w : World), SB w sp code i → Nd w P v a b c → oneV d = true → Ok7 v → Pot code i + kV v ≤ 900000000 →
  Calls PP 29 #[.pointer (some ⟨sp, 0, none⟩), .agg ⟨[a, b, c, d]⟩] w (Wro sp code i (kV v) (VS v) w)

set_option maxRecDepth 10000 in
set_option maxHeartbeats 8000000 in
theorem wrSc (kind : Nat) (text : Bs) : WrV (.sc kind text) := by
  intro sp code i P a b c d w hS hn hd hok hi
  simp only [Nd] at hn
  obtain ⟨rfl, rfl, ad, cap, rfl⟩ := hn
  simp only [Ok7] at hok
  obtain ⟨rfl, rfl⟩ := hok
  have hlt := hS.lt
  refine enter (L := [(0, .pointer (some ⟨sp, 0, none⟩)), (1, .agg ⟨[.int .i64 1, str [55], .slice ad 0 cap, d]⟩)]) Tryz.func29 rfl rfl rfl ⟨rfl, rfl, trivial⟩ ?_
  repeat (refine WC.sr ?_)
  refine WL.bx rfl rfl rfl (fun w1 hA => ?_)
  have h1 : w1.heap[w.heap.size]? = some (.cells ⟨[.int .i64 1, str [55], .slice ad 0 cap, d]⟩ 37 (0, 0)) := hA.at_
  repeat (first | refine WL.pp rfl ?_ | refine WL.ns ?_ | refine WC.sr ?_ | refine WC.dF rfl (by first | omega | decide) ?_ | refine WL.ldB (b := w.heap.size) (i := 0) rfl rfl h1 rfl rfl ?_ | refine WC.seq ?_ | refine WC.block ?_ | refine X.sn ?_ | refine X.bn ?_ | refine WC.skip ?_)
  refine WL.ldB (b := w.heap.size) (i := 1) rfl rfl h1 rfl rfl ?_
  repeat (first | refine WL.pp rfl ?_ | refine WL.ns ?_ | refine WC.ret ?_)
  exact X.ret_ rfl rfl ⟨[55], i, rfl, VS.seven, hS.fm (hA.fm (B := 0) (T := []) (Nat.zero_le _)) (by simp) (by simp), hA.fm (by omega), by simp [kV]; omega⟩

set_option maxRecDepth 100000 in
set_option maxHeartbeats 32000000 in
theorem wrArr (vs : List Val) (hvs : ∀ v ∈ vs, WrV v) : WrV (.arr vs) := by
  intro sp code i P a b c d w hS hn hd hok hi
  simp only [Nd] at hn
  obtain ⟨rfl, rfl, ad, cap, rfl, hrow⟩ := hn
  simp only [Ok7] at hok
  simp only [kV] at hi
  have hvl := kVs_len vs
  have hlt := hS.lt
  refine enter (L := [(0, .pointer (some ⟨sp, 0, none⟩)), (1, .agg ⟨[.int .i64 8, str [], .slice ad vs.length cap, d]⟩)]) Tryz.func29 rfl rfl rfl ⟨rfl, rfl, trivial⟩ ?_
  repeat (refine WC.sr ?_)
  refine WL.bx rfl rfl rfl (fun w1 hA => ?_)
  have hF1 : Fm sp [68] w w1 := hA.fm (by omega)
  have h1 : w1.heap[w.heap.size]? = some (.cells ⟨[.int .i64 8, str [], .slice ad vs.length cap, d]⟩ 37 (0, 0)) := hA.at_
  have hS1 := hS.fm (hA.fm (B := 0) (T := []) (Nat.zero_le _)) (by simp) (by simp)
  generalize hnb : w.heap.size = nb at *
  have hsz1 : w1.heap.size = nb + 1 := by rw [hA.size, hnb]
  clear hA
  repeat (first | refine WL.pp rfl ?_ | refine WL.ns ?_ | refine WC.sr ?_ | refine WC.dT rfl (by first | omega | decide) ?_ | refine WC.dF rfl (by first | omega | decide) ?_ | refine WL.ldB (b := nb) (i := 0) rfl rfl h1 rfl rfl ?_ | refine WC.seq ?_ | refine WC.block ?_)
  refine WL.ldB (b := nb) (i := 2) rfl rfl h1 rfl rfl ?_
  repeat (first | refine WL.pp rfl ?_ | refine WL.ns ?_ | refine WC.block ?_)
  refine WC.loop (σ := Nat × Bs × Nat) (I := fun s w' => AccA (vs.take s.1) s.2.1 ∧ SB w' sp code s.2.2 ∧ Fm sp [68] w w' ∧ w'.heap[nb]? = some (.cells ⟨[.int .i64 8, str [], .slice ad vs.length cap, d]⟩ 37 (0, 0)) ∧ s.1 ≤ vs.length ∧ s.2.1.length + Pot code s.2.2 ≤ Pot code i + kVs (vs.take s.1) ∧ (s.1 = 0 → s.2.1 = []))
    (m := fun s => vs.length - s.1) (Lf := fun s => [(0, .pointer (some ⟨sp, 0, none⟩)), (3, .pointer (some ⟨nb, 0, none⟩)), (5, str (91 :: s.2.1)), (22, .slice ad vs.length cap), (23, .int .i64 (vs.length : Int)), (24, .int .i64 (s.1 : Int))])
    (0, [], i) ⟨AccA.nil, hS1, hF1, h1, Nat.zero_le _, by simp [kVs], fun _ => rfl⟩ ⟨rfl, rfl, rfl, rfl, rfl, rfl, trivial⟩ ?_
  clear hS1 hF1 h1 hsz1 hS
  rintro ⟨m, out, j⟩ w2 ⟨hD, hS, hF, hnode, hm, hp, hz⟩
  dsimp only at hD hS hm hp hz ⊢
  have hjj := Pot.ge code j
  have hsz2 := hF.size
  have hkl : kVs (vs.take m) ≤ kVs vs := by
    have := kVs_app (vs.take m) (vs.drop m)
    rw [List.take_append_drop] at this
    omega
  by_cases hml : m < vs.length
  · obtain ⟨v, hv⟩ : ∃ v, vs[m]? = some v := ⟨_, List.getElem?_eq_getElem hml⟩
    have hvm := List.mem_of_getElem? hv
    have htake : vs.take (m + 1) = vs.take m ++ [v] := by rw [List.take_add_one, hv]; rfl
    have htk : kVs (vs.take (m + 1)) = kVs (vs.take m) + (43 + kV v) := by rw [htake, kVs_app]; simp [kVs]
    have htk2 : kVs (vs.take (m + 1)) ≤ kVs vs := by
      have := kVs_app (vs.take (m + 1)) (vs.drop (m + 1))
      rw [List.take_append_drop] at this
      omega
    have hne : vs ≠ [] := by rintro rfl; simp at hml
    obtain ⟨g, cur, hP, had, hg, hNd⟩ := hrow hne
    obtain ⟨a', b', c', d', hcells, hNv, hR⟩ := hNd.get hv
    obtain ⟨o1, o2, o3, _⟩ := hNv.one
    have o4 := hR.one
    have hg2 := hF.keep _ _ hg (by simp [tag])
    have hlc : ∀ (j : Nat) (x : Value), [a', b', c', d'][j]? = some x → w2.cell? ⟨g, m * 4 + j, none⟩ = some x := fun j x hx => cell_of hg2 (by rw [List.getElem?_toArray]; exact hcells j x hx)
    rw [had]
    repeat (first | refine WL.pp rfl ?_ | refine WL.ns ?_ | refine WC.sr ?_ | refine WC.dT rfl (by first | omega | decide) ?_ | refine WL.ix (i := m) rfl rfl rfl hml (by rw [Nat.zero_add]; rfl) ?_ | refine WL.lg (cs := [a', b', c', d']) rfl rfl rfl hlc rfl ?_ | refine WC.seq ?_ | refine WC.block ?_ | refine X.sn ?_ | refine WC.skip ?_)
    refine WL.al rfl rfl rfl (fun w3 hA3 => ?_)
    repeat (refine WL.pp rfl ?_)
    refine WL.sg rfl rfl rfl (by simp [o1, o2, o3, o4]) hA3.at_ (by simp) rfl (fun w4 hS4 => ?_)
    have hF4 : Fm sp [68] w w4 := (hF.trans (hA3.fm (by omega))).stN hS4 (by omega) (by omega)
    have hF24 : Fm 0 [] w2 w4 := (hA3.fm (B := 0) (T := []) (Nat.zero_le _)).stN hS4 (Nat.le_refl _) (Nat.zero_le _)
    have hb4 : w4.heap[w2.heap.size]? = some (.cells ⟨[a', b', c', d']⟩ 37 (0, 0)) := by simpa using hS4.at_
    have hS4' := hS.fm hF24 (by simp) (by simp)
    have hnode4 := hF24.keep _ _ hnode (by simp)
    have hNv4 := Nd.keep (Kept.fm (P := P) hF4 (by simp) (by simp)) _ _ _ _ hNv
    generalize hnb2 : w2.heap.size = nb2 at *
    clear hA3 hS4 hF24 hS hlc hg2
    repeat (first | refine WL.pp rfl ?_ | refine WL.ns ?_ | refine WC.sr ?_ | refine WC.cut (x := .seq _ (.cond _ _ _)) (σ := Bs) (fun o w' => w' = w4 ∧ (∀ g1 s g2, GapS g1 → VS v s → GapS g2 → AccA (vs.take (m + 1)) (o ++ (g1 ++ s ++ g2))) ∧ o.length ≤ out.length + 1) (fun o => [(0, .pointer (some ⟨sp, 0, none⟩)), (3, .pointer (some ⟨nb, 0, none⟩)), (5, str (91 :: o)), (7, .pointer (some ⟨nb2, 0, none⟩)), (22, .slice (some ⟨g, 0, none⟩) vs.length cap), (23, .int .i64 (vs.length : Int)), (24, .int .i64 (m : Int))]) ?_ ?_)
    · by_cases hm0 : m = 0
      · subst hm0
        have e0 : vs.take 1 = [v] := by rw [htake]; rfl
        have hout := hz rfl
        subst hout
        repeat (first | refine WC.dF rfl (by first | omega | decide) ?_ | refine WC.skip ?_)
        refine X.cut [] ⟨rfl, fun g1 s g2 h1 h2 h3 => ?_, by simp⟩ ⟨rfl, rfl, rfl, rfl, rfl, rfl, rfl, trivial⟩
        rw [e0]
        exact AccA.first h1 h2 h3
      · have hne2 : vs.take m ≠ [] := by
          intro h
          have := congrArg List.length h
          rw [List.length_take, List.length_nil] at this
          omega
        repeat (first | refine WL.pp rfl ?_ | refine WC.dT rfl (by first | omega | decide) ?_ | refine WL.bo rfl rfl (add_str (91 :: out) [44] (by simp; omega) _ _) rfl ?_ | refine WC.reg ?_ | refine WL.nil ?_)
        refine X.cut (out ++ [44]) ⟨rfl, fun g1 s g2 h1 h2 h3 => ?_, by simp⟩ ⟨rfl, rfl, rfl, rfl, rfl, rfl, rfl, trivial⟩
        rw [htake]
        exact hD.more hne2 h1 h2 h3
    · rintro o w5 ⟨rfl, hacc, hol⟩
      skip
      refine WC.draw (fun w' => w'.heap[nb2]? = some (.cells ⟨[a', b', c', d']⟩ 37 (0, 0))) ?_
      have hSd : w5.drew.heap[nb2]? = some (.cells ⟨[a', b', c', d']⟩ 37 (0, 0)) := hb4
      refine WD.tp 0 rfl (by kernel_rfl) POk.ok hSd rfl ?_
      refine WD.tp 1 rfl (by kernel_rfl) POk.ok hSd rfl ?_
      refine WD.tp 3 rfl (by kernel_rfl) POk.ok hSd rfl ?_
      refine WD.tp 7 rfl (by kernel_rfl) POk.ok hSd rfl ?_
      refine WD.tg (cs := [a', b', c', d']) 4 rfl (by kernel_rfl) POk.ok hSd rfl rfl rfl (fun w' hw' => cells_block hw' rfl) rfl ?_
      have hS5 := hS4'.fm (Fm.refl 0 [] w5).drew (by simp) (by simp)
      have hF5 : Fm sp [68] w w5.drew := hF4.drew
      refine WD.rc 2 (by kernel_rfl) rfl rfl rfl rfl (gap_any sp code j w5.drew hS5 (by omega)) ?_
      rintro e w6 ⟨g1, j1, rfl, hg1, hS6, hF6, hp6⟩
      refine ⟨_, _, rfl, rfl, hF6.keep _ _ hSd (by simp [tag]), ?_⟩
      have hSd6 := hF6.keep _ _ hSd (by simp [tag])
      refine WD.rc 5 (by kernel_rfl) rfl rfl rfl rfl (hvs v hvm sp code j1 P a' b' c' d' w6 hS6 (Nd.keep (Kept.fm (P := P) hF6 (by simp) (by simp)) _ _ _ _ (Nd.keep (Kept.fm (P := P) (Fm.refl 0 [] w5).drew (by simp) (by simp)) _ _ _ _ hNv4)) o4 (hok.mem v hvm) (by omega)) ?_
      rintro e w7 ⟨s, j2, rfl, hs, hS7, hF7, hp7⟩
      have hSd7 := hF7.keep _ _ hSd6 (by simp [tag])
      refine ⟨_, _, rfl, rfl, hSd7, ?_⟩
      have hj2 := Pot.ge code j2
      refine WD.tb 6 rfl (by kernel_rfl) POk.ok hSd7 rfl rfl (fun w => add_str g1 s (by omega) _ w) rfl ?_
      refine WD.rc 8 (by kernel_rfl) rfl rfl rfl rfl (gap_any sp code j2 w7 hS7 (by omega)) ?_
      rintro e w8 ⟨g2, j3, rfl, hg2, hS8, hF8, hp8⟩
      have hSd8 := hF8.keep _ _ hSd7 (by simp [tag])
      refine ⟨_, _, rfl, rfl, hSd8, ?_⟩
      refine WD.tb 9 rfl (by kernel_rfl) POk.ok hSd8 rfl rfl (fun w => add_str (g1 ++ s) g2 (by simp; omega) _ w) rfl ?_
      refine WD.tb 10 rfl (by kernel_rfl) POk.ok hSd8 rfl rfl (fun w => add_str (91 :: o) (g1 ++ s ++ g2) (by simp; omega) _ w) rfl ?_
      refine WD.tp 11 rfl (by kernel_rfl) POk.ok hSd8 rfl ?_
      refine WD.nil (by kernel_rfl) ?_
      have hFF := ((hF5.trans hF6).trans hF7).trans hF8
      repeat (first | refine WL.pp rfl ?_ | refine WC.reg ?_ | refine WL.nil ?_ | refine X.sn ?_ | refine X.bn ?_ | refine WL.ad rfl rfl (by omega) rfl ?_)
      refine X.again (m + 1, o ++ (g1 ++ s ++ g2), j3) ⟨hacc g1 s g2 hg1 hs hg2, hS8, hFF, ((hF6.trans hF7).trans hF8).keep _ _ (show w5.drew.heap[nb]? = some (.cells ⟨[.int .i64 8, str [], .slice (some ⟨g, 0, none⟩) vs.length cap, d]⟩ 37 (0, 0)) from by rw [← had]; exact hnode4) (by simp [tag]), by dsimp only; omega, by dsimp only; rw [htk]; simp only [List.length_append]; omega, fun h => by simp at h⟩ (by dsimp only; omega) ⟨rfl, rfl, rfl, rfl, rfl, rfl, trivial⟩
  · have hmm : m = vs.length := by omega
    subst hmm
    rw [List.take_length] at hD hp
    repeat (first | refine WL.pp rfl ?_ | refine WL.ns ?_ | refine WC.sr ?_ | refine WC.dF rfl (by first | omega | decide) ?_ | refine WC.cut (x := .seq _ (.cond _ _ _)) (σ := Bs × Nat) (fun s w' => (s.1 = [] ∨ (s.1 = [44] ∧ vs ≠ [])) ∧ SB w' sp code s.2 ∧ Fm sp [68] w w' ∧ s.1.length + Pot code s.2 ≤ Pot code j + 2) (fun s => [(0, .pointer (some ⟨sp, 0, none⟩)), (5, str (91 :: (out ++ s.1)))]) ?_ ?_ | refine WC.seq ?_ | refine X.sn ?_ | refine X.sx ?_ | refine X.bx ?_ | refine WC.exit ?_)
    · repeat (first | refine WL.pp rfl ?_ | refine WL.ldB (b := nb) (i := 2) rfl rfl hnode rfl rfl ?_)
      by_cases hl0 : 0 < vs.length
      · have hne : vs ≠ [] := by rintro rfl; simp at hl0
        repeat (first | refine WL.p rfl ?_ | refine WL.gT rfl rfl (by first | omega | decide) ?_)
        refine WL.call rfl rfl rfl (pick_any sp code j 4 w2 hS (by omega) (by omega)) ?_
        rintro e w3 ⟨rfl, hS3, hF3⟩
        refine ⟨_, _, rfl, rfl, ?_⟩
        have p1 := Pot.to code (show j + 1 = j + 1 from rfl)
        by_cases h0 : pkv code j % 4 = 0
        · repeat (first | refine WL.pp rfl ?_ | refine WL.ns ?_ | refine WC.dT rfl (by first | omega | decide) ?_ | refine WL.bo rfl rfl (add_str (91 :: out) [44] (by simp; omega) _ _) rfl ?_ | refine WL.p rfl ?_ | refine WC.reg ?_ | refine WL.nil ?_)
          exact X.cut ([44], j + 1) ⟨.inr ⟨rfl, hne⟩, hS3, hF.trans hF3, by simp only [List.length_singleton]; omega⟩ ⟨rfl, rfl, trivial⟩
        · repeat (first | refine WL.ns ?_ | refine WC.dF rfl (by first | omega | decide) ?_ | refine WL.p rfl ?_ | refine WC.skip ?_)
          exact X.cut ([], j + 1) ⟨.inl rfl, hS3, hF.trans hF3, by simp; omega⟩ ⟨rfl, by simp; rfl, trivial⟩
      · repeat (first | refine WL.ns ?_ | refine WC.bF rfl (by first | with_reducible rfl | exact Bool.not_true) ?_ | refine WL.p rfl ?_ | refine WC.skip ?_ | refine WL.gF rfl rfl (by first | omega | decide) ?_)
        exact X.cut ([], j) ⟨.inl rfl, hS, hF, by simp⟩ ⟨rfl, by simp; rfl, trivial⟩
    · rintro ⟨cm, j1⟩ w3 ⟨hcm, hS3, hF3, hp3⟩
      dsimp only at hcm hS3 hp3
      have hj1 := Pot.ge code j1
      repeat (first | refine WL.pp rfl ?_ | refine WC.sr ?_)
      refine WL.call rfl rfl rfl (gap_any sp code j1 w3 hS3 (by omega)) ?_
      rintro e w4 ⟨g, j2, rfl, hg, hS4, hF4, hp4⟩
      refine ⟨_, _, rfl, rfl, ?_⟩
      have hcl : cm.length ≤ 1 := by rcases hcm with rfl | ⟨rfl, _⟩ <;> simp
      repeat (refine WL.bo rfl rfl (add_str (91 :: (out ++ cm)) g (by simp; omega) _ _) rfl ?_)
      refine WL.bo rfl rfl (add_str _ [93] (by simp; omega) _ _) rfl ?_
      repeat (first | refine WL.pp rfl ?_ | refine WL.ns ?_ | refine X.sr ?_ | refine X.br ?_ | refine WC.ret ?_)
      refine X.ret_ rfl rfl ⟨_, j2, rfl, ?_, hS4, hF3.trans hF4, ?_⟩
      · have := AccA.close hD hcm hg
        simpa using this
      · simp only [kV, List.length_append, List.length_cons, List.length_nil]
        omega

set_option maxRecDepth 100000 in
set_option maxHeartbeats 32000000 in
theorem wrTbl (es : List (List Bs × Val)) (hvs : ∀ ks v, (ks, v) ∈ es → WrV v) : WrV (.tbl es) := by
  intro sp code i P a b c d w hS hn hd hok hi
  simp only [Nd] at hn
  obtain ⟨rfl, rfl, ad, cap, rfl, hrow⟩ := hn
  simp only [Ok7] at hok
  simp only [kV] at hi
  have hvl := kVE_len es
  have hlt := hS.lt
  refine enter (L := [(0, .pointer (some ⟨sp, 0, none⟩)), (1, .agg ⟨[.int .i64 9, str [], .slice ad es.length cap, d]⟩)]) Tryz.func29 rfl rfl rfl ⟨rfl, rfl, trivial⟩ ?_
  repeat (refine WC.sr ?_)
  refine WL.bx rfl rfl rfl (fun w1 hA => ?_)
  have hF1 : Fm sp [68] w w1 := hA.fm (by omega)
  have h1 : w1.heap[w.heap.size]? = some (.cells ⟨[.int .i64 9, str [], .slice ad es.length cap, d]⟩ 37 (0, 0)) := hA.at_
  have hS1 := hS.fm (hA.fm (B := 0) (T := []) (Nat.zero_le _)) (by simp) (by simp)
  generalize hnb : w.heap.size = nb at *
  clear hA
  repeat (first | refine WL.pp rfl ?_ | refine WL.ns ?_ | refine WC.sr ?_ | refine WC.dT rfl (by first | omega | decide) ?_ | refine WC.dF rfl (by first | omega | decide) ?_ | refine WL.ldB (b := nb) (i := 0) rfl rfl h1 rfl rfl ?_ | refine WC.seq ?_ | refine WC.block ?_)
  refine WL.call rfl rfl rfl (blanks_any sp code i w1 hS1 (by have := Pot.ge code i; omega)) ?_
  rintro e w1' ⟨b0, rfl, hb0, hb0l, hS1', hF1'⟩
  refine ⟨_, _, rfl, rfl, ?_⟩
  have h1 := hF1'.keep _ _ h1 (by simp [tag])
  have p0 := Pot.to code (show i + 1 = i + 1 from rfl)
  repeat (first | refine WL.pp rfl ?_ | refine WL.ns ?_ | refine WC.sr ?_ | refine WL.bo rfl rfl (add_str [123] b0 (by simp; omega) _ _) rfl ?_ | refine WC.seq ?_)
  refine WL.ldB (b := nb) (i := 2) rfl rfl h1 rfl rfl ?_
  repeat (first | refine WL.pp rfl ?_ | refine WL.ns ?_ | refine WC.block ?_)
  refine WC.loop (σ := Nat × Bs × Nat) (I := fun s w' => AccT (es.take s.1) s.2.1 ∧ SB w' sp code s.2.2 ∧ Fm sp [68] w w' ∧ s.1 ≤ es.length ∧ s.2.1.length + Pot code s.2.2 ≤ Pot code i + 3 + kVE (es.take s.1) ∧ (s.1 = 0 → s.2.1 = b0))
    (m := fun s => es.length - s.1) (Lf := fun s => [(0, .pointer (some ⟨sp, 0, none⟩)), (8, str (123 :: s.2.1)), (67, .slice ad es.length cap), (68, .int .i64 (es.length : Int)), (69, .int .i64 (s.1 : Int))])
    (0, b0, i + 1) ⟨AccT.nil hb0, hS1', hF1.trans hF1', Nat.zero_le _, by simp [kVE]; omega, fun _ => rfl⟩ ⟨rfl, rfl, rfl, rfl, rfl, trivial⟩ ?_
  clear hS1 hF1 h1 hS hS1' hF1'
  rintro ⟨m, out, j⟩ w2 ⟨hD, hS, hF, hm, hp, hz⟩
  dsimp only at hD hS hm hp hz ⊢
  have hjj := Pot.ge code j
  have hsz2 := hF.size
  have hkl : kVE (es.take m) ≤ kVE es := by
    have := kVE_app (es.take m) (es.drop m)
    rw [List.take_append_drop] at this
    omega
  by_cases hml : m < es.length
  · obtain ⟨⟨ks, v⟩, hv⟩ : ∃ e, es[m]? = some e := ⟨_, List.getElem?_eq_getElem hml⟩
    have hvm := List.mem_of_getElem? hv
    obtain ⟨⟨hks0, hksl⟩, hokv⟩ := hok.mem ks v hvm
    have htake : es.take (m + 1) = es.take m ++ [(ks, v)] := by rw [List.take_add_one, hv]; rfl
    have htk : kVE (es.take (m + 1)) = kVE (es.take m) + (14 + kKs ks + kV v) := by rw [htake, kVE_app]; simp [kVE]
    have htk2 : kVE (es.take (m + 1)) ≤ kVE es := by
      have := kVE_app (es.take (m + 1)) (es.drop (m + 1))
      rw [List.take_append_drop] at this
      omega
    have hne : es ≠ [] := by rintro rfl; simp at hml
    obtain ⟨g, cur, hP, had, hg, hNd⟩ := hrow hne
    obtain ⟨a', b', c', d', hcells, hNv, hR⟩ := hNd.get hv
    obtain ⟨o1, o2, o3, _⟩ := hNv.one
    have o4 := hR.one
    have hg2 := hF.keep _ _ hg (by simp [tag])
    have hlc : ∀ (j : Nat) (x : Value), [a', b', c', d'][j]? = some x → w2.cell? ⟨g, m * 4 + j, none⟩ = some x := fun j x hx => cell_of hg2 (by rw [List.getElem?_toArray]; exact hcells j x hx)
    rw [had]
    repeat (first | refine WL.pp rfl ?_ | refine WL.ns ?_ | refine WC.sr ?_ | refine WC.dT rfl (by first | omega | decide) ?_ | refine WL.ix (i := m) rfl rfl rfl hml (by rw [Nat.zero_add]; rfl) ?_ | refine WL.lg (cs := [a', b', c', d']) rfl rfl rfl hlc rfl ?_ | refine WC.seq ?_ | refine WC.block ?_ | refine X.sn ?_ | refine WC.skip ?_)
    refine WL.al rfl rfl rfl (fun w3 hA3 => ?_)
    repeat (refine WL.pp rfl ?_)
    refine WL.sg rfl rfl rfl (by simp [o1, o2, o3, o4]) hA3.at_ (by simp) rfl (fun w4 hS4 => ?_)
    have hF4 : Fm sp [68] w w4 := (hF.trans (hA3.fm (by omega))).stN hS4 (by omega) (by omega)
    have hF24 : Fm 0 [] w2 w4 := (hA3.fm (B := 0) (T := []) (Nat.zero_le _)).stN hS4 (Nat.le_refl _) (Nat.zero_le _)
    have hb4 : w4.heap[w2.heap.size]? = some (.cells ⟨[a', b', c', d']⟩ 37 (0, 0)) := by simpa using hS4.at_
    have hS4' := hS.fm hF24 (by simp) (by simp)
    have hNv4 := Nd.keep (Kept.fm (P := P) hF4 (by simp) (by simp)) _ _ _ _ hNv
    have hR4 := hR.keep (Kept.fm (P := P) hF4 (by simp) (by simp))
    generalize hnb2 : w2.heap.size = nb2 at *
    clear hA3 hS4 hF24 hS hlc hg2
    repeat (first | refine WL.pp rfl ?_ | refine WL.ns ?_ | refine WC.sr ?_ | refine WC.cut (x := .seq _ (.cond _ _ _)) (σ := Bs × Nat) (fun s w' => SB w' sp code s.2 ∧ Fm sp [68] w4 w' ∧ (∀ k b1 b2 s' b3, KeyS ks k → BL b1 → BL b2 → VS v s' → BL b3 → AccT (es.take (m + 1)) (s.1 ++ (k ++ b1 ++ [61] ++ b2 ++ s' ++ b3))) ∧ s.1.length + Pot code s.2 ≤ out.length + Pot code j + 4) (fun s => [(0, .pointer (some ⟨sp, 0, none⟩)), (8, str (123 :: s.1)), (10, .pointer (some ⟨nb2, 0, none⟩)), (67, .slice (some ⟨g, 0, none⟩) es.length cap), (68, .int .i64 (es.length : Int)), (69, .int .i64 (m : Int))]) ?_ ?_)
    · by_cases hm0 : m = 0
      · subst hm0
        have e0 : es.take 1 = [(ks, v)] := by rw [htake]; rfl
        have hout := hz rfl
        subst hout
        repeat (first | refine WC.dF rfl (by first | omega | decide) ?_ | refine WC.skip ?_)
        refine X.cut (out, j) ⟨hS4', Fm.refl _ _ _, fun k b1 b2 s' b3 q1 q2 q3 q4 q5 => ?_, by dsimp only; omega⟩ ⟨rfl, rfl, rfl, rfl, rfl, rfl, trivial⟩
        rw [e0]
        exact AccT.first hb0 q1 q2 q3 q4 q5
      · have hne2 : es.take m ≠ [] := by
          intro h
          have := congrArg List.length h
          rw [List.length_take, List.length_nil] at this
          omega
        repeat (first | refine WL.pp rfl ?_ | refine WC.dT rfl (by first | omega | decide) ?_ | refine WC.reg ?_)
        refine WL.call rfl rfl rfl (blanks_any sp code j w4 hS4' (by omega)) ?_
        rintro e w5 ⟨bb, rfl, hbb, hbl, hS5, hF5⟩
        refine ⟨_, _, rfl, rfl, ?_⟩
        have p1 := Pot.to code (show j + 1 = j + 1 from rfl)
        repeat (refine WL.bo rfl rfl (add_str [44] bb (by simp; omega) _ _) rfl ?_)
        refine WL.bo rfl rfl (add_str (123 :: out) _ (by simp; omega) _ _) rfl ?_
        repeat (first | refine WL.pp rfl ?_ | refine WL.nil ?_)
        refine X.cut (out ++ ([44] ++ bb), j + 1) ⟨hS5, hF5, fun k b1 b2 s' b3 q1 q2 q3 q4 q5 => ?_, by dsimp only; simp only [List.length_append, List.length_singleton]; omega⟩ ⟨rfl, rfl, rfl, rfl, rfl, rfl, trivial⟩
        rw [htake]
        exact hD.more hne2 hbb q1 q2 q3 q4 q5
    · rintro ⟨o, j0⟩ w5 ⟨hS5, hF45, hacc, hol⟩
      dsimp only at hS5 hacc hol
      have hj0 := Pot.ge code j0
      skip
      refine WC.draw (fun w' => w'.heap[nb2]? = some (.cells ⟨[a', b', c', d']⟩ 37 (0, 0))) ?_
      have hSd : w5.drew.heap[nb2]? = some (.cells ⟨[a', b', c', d']⟩ 37 (0, 0)) := hF45.keep _ _ hb4 (by simp [tag])
      have hS5d := hS5.fm (Fm.refl 0 [] w5).drew (by simp) (by simp)
      have hF5d : Fm sp [68] w4 w5.drew := hF45.drew
      generalize w5.drew = w5 at hSd hS5d hF5d
      refine WD.tp 0 rfl (by kernel_rfl) POk.ok hSd rfl ?_
      refine WD.tp 1 rfl (by kernel_rfl) POk.ok hSd rfl ?_
      refine WD.tp 2 rfl (by kernel_rfl) POk.ok hSd rfl ?_
      refine WD.tp 5 rfl (by kernel_rfl) POk.ok hSd rfl ?_
      refine WD.tp 9 rfl (by kernel_rfl) POk.ok hSd rfl ?_
      refine WD.tp 12 rfl (by kernel_rfl) POk.ok hSd rfl ?_
      refine WD.tp 16 rfl (by kernel_rfl) POk.ok hSd rfl ?_
      refine WD.tl 3 rfl (by kernel_rfl) POk.ok hSd rfl rfl (fun w' hw' => cell_of (b := nb2) (i := 3) hw' rfl) rfl ?_
      refine WD.tg (cs := [a', b', c', d']) 13 rfl (by kernel_rfl) POk.ok hSd rfl rfl rfl (fun w' hw' => cells_block hw' rfl) rfl ?_
      refine WD.rc 4 (by kernel_rfl) rfl rfl rfl rfl (keyW_any sp code j0 P d' ks w5 hS5d (hR4.keep (Kept.fm (P := P) hF5d (by simp) (by simp))) hksl hks0 (by omega)) ?_
      rintro e w6 ⟨k, j1, rfl, hk, hS6, hF6, hp6⟩
      have hSd6 := hF6.keep _ _ hSd (by simp [tag])
      refine ⟨_, _, rfl, rfl, hSd6, ?_⟩
      have hj1 := Pot.ge code j1
      refine WD.rc 6 (by kernel_rfl) rfl rfl rfl rfl (blanks_any sp code j1 w6 hS6 (by omega)) ?_
      rintro e w7 ⟨b1, rfl, hb1, hb1l, hS7, hF7⟩
      have hSd7 := hF7.keep _ _ hSd6 (by simp [tag])
      refine ⟨_, _, rfl, rfl, hSd7, ?_⟩
      have p7 := Pot.to code (show j1 + 1 = j1 + 1 from rfl)
      refine WD.tb 7 rfl (by kernel_rfl) POk.ok hSd7 rfl rfl (fun w => add_str k b1 (by omega) _ w) rfl ?_
      refine WD.tb 8 rfl (by kernel_rfl) POk.ok hSd7 rfl rfl (fun w => add_str (k ++ b1) [61] (by simp; omega) _ w) rfl ?_
      refine WD.rc 10 (by kernel_rfl) rfl rfl rfl rfl (blanks_any sp code (j1 + 1) w7 hS7 (by omega)) ?_
      rintro e w8 ⟨b2, rfl, hb2, hb2l, hS8, hF8⟩
      have hSd8 := hF8.keep _ _ hSd7 (by simp [tag])
      refine ⟨_, _, rfl, rfl, hSd8, ?_⟩
      have p8 := Pot.to code (show j1 + 1 + 1 = j1 + 2 by omega)
      refine WD.tb 11 rfl (by kernel_rfl) POk.ok hSd8 rfl rfl (fun w => add_str (k ++ b1 ++ [61]) b2 (by simp; omega) _ w) rfl ?_
      have hF58 := (hF6.trans hF7).trans hF8
      refine WD.rc 14 (by kernel_rfl) rfl rfl rfl rfl (hvs ks v hvm sp code (j1 + 1 + 1) P a' b' c' d' w8 hS8 (Nd.keep (Kept.fm (P := P) (hF5d.trans hF58) (by simp) (by simp)) _ _ _ _ hNv4) o4 hokv (by omega)) ?_
      rintro e w9 ⟨s, j2, rfl, hs, hS9, hF9, hp9⟩
      have hSd9 := hF9.keep _ _ hSd8 (by simp [tag])
      refine ⟨_, _, rfl, rfl, hSd9, ?_⟩
      have hj2 := Pot.ge code j2
      refine WD.tb 15 rfl (by kernel_rfl) POk.ok hSd9 rfl rfl (fun w => add_str (k ++ b1 ++ [61] ++ b2) s (by simp; omega) _ w) rfl ?_
      refine WD.rc 17 (by kernel_rfl) rfl rfl rfl rfl (blanks_any sp code j2 w9 hS9 (by omega)) ?_
      rintro e w10 ⟨b3, rfl, hb3, hb3l, hS10, hF10⟩
      have hSd10 := hF10.keep _ _ hSd9 (by simp [tag])
      refine ⟨_, _, rfl, rfl, hSd10, ?_⟩
      have p10 := Pot.to code (show j2 + 1 = j2 + 1 from rfl)
      refine WD.tb 18 rfl (by kernel_rfl) POk.ok hSd10 rfl rfl (fun w => add_str (k ++ b1 ++ [61] ++ b2 ++ s) b3 (by simp; omega) _ w) rfl ?_
      refine WD.tb 19 rfl (by kernel_rfl) POk.ok hSd10 rfl rfl (fun w => add_str (123 :: o) (k ++ b1 ++ [61] ++ b2 ++ s ++ b3) (by simp; omega) _ w) rfl ?_
      refine WD.tp 20 rfl (by kernel_rfl) POk.ok hSd10 rfl ?_
      refine WD.nil (by kernel_rfl) ?_
      repeat (first | refine WL.pp rfl ?_ | refine WC.reg ?_ | refine WL.nil ?_ | refine X.sn ?_ | refine X.bn ?_ | refine WL.ad rfl rfl (by omega) rfl ?_)
      refine X.again (m + 1, o ++ (k ++ b1 ++ [61] ++ b2 ++ s ++ b3), j2 + 1) ⟨hacc k b1 b2 s b3 hk hb1 hb2 hs hb3, hS10, ((hF4.trans hF5d).trans hF58).trans (hF9.trans hF10), by dsimp only; omega, by dsimp only; rw [htk]; simp only [List.length_append, List.length_singleton]; omega, fun h => by simp at h⟩ (by dsimp only; omega) ⟨rfl, rfl, rfl, rfl, rfl, trivial⟩
  · have hmm : m = es.length := by omega
    subst hmm
    rw [List.take_length] at hD hp
    repeat (first | refine WL.pp rfl ?_ | refine WL.ns ?_ | refine WC.sr ?_ | refine WC.dF rfl (by first | omega | decide) ?_ | refine WL.bo rfl rfl (add_str (123 :: out) [125] (by simp; omega) _ _) rfl ?_ | refine WC.seq ?_ | refine X.sn ?_ | refine X.sx ?_ | refine X.sr ?_ | refine X.br ?_ | refine X.bx ?_ | refine WC.exit ?_ | refine WC.ret ?_)
    refine X.ret_ rfl rfl ⟨_, j, rfl, ?_, hS, hF, ?_⟩
    · have := AccT.close hD
      simpa using this
    · simp only [kV, List.length_append, List.length_cons, List.length_nil]
      omega

mutual
theorem wrV_all : ∀ (v : Val), WrV v
  | .sc k t => wrSc k t
  | .arr vs => wrArr vs (wrV_allI vs)
  | .tbl es => wrTbl es (wrV_allE es)
theorem wrV_allI : ∀ (vs : List Val), ∀ v ∈ vs, WrV v
  | [], v, hv => by simp at hv
  | u :: us, v, hv => by
    rcases List.mem_cons.1 hv with e | hv
    · rw [e]; exact wrV_all u
    · exact wrV_allI us v hv
theorem wrV_allE : ∀ (es : List (List Bs × Val)), ∀ ks v, (ks, v) ∈ es → WrV v
  | [], ks, v, hv => by simp at hv
  | (ks', u) :: us, ks, v, hv => by
    rcases List.mem_cons.1 hv with e | hv
    · simp only [Prod.mk.injEq] at e
      rw [e.2]; exact wrV_all u
    · exact wrV_allE us ks v hv
end
end Go.Proofs.YtaccphdkapmdhaaGreat

namespace Go.Proofs.YtaccphdkapmdhaaGreat
attribute [local irreducible] binOp IntKind.wrap Sem.run

def exK : Ex → Nat
  | .kv _ _ => 0
  | .tab _ => 1
  | .atab _ => 2
def exKeys : Ex → List Bs
  | .kv ks _ => ks
  | .tab ks => ks
  | .atab ks => ks
def exV : Ex → Val
  | .kv _ v => v
  | .tab _ => .sc 0 []
  | .atab _ => .sc 0 []

/-- The value of an expression; a head's value is free. -/
def NdX (w : World) (P : Nat → Prop) (x : Ex) (a b c : Value) : Prop := ∃ v, (exK x = 0 → v = exV x) ∧ Nd w P v a b c
theorem NdX.of {w : World} {P : Nat → Prop} {x : Ex} {a b c : Value} (h : Nd w P (exV x) a b c) : NdX w P x a b c := ⟨_, fun _ => rfl, h⟩
theorem NdX.keep {w w' : World} {P : Nat → Prop} (hk : Kept P w w') {x : Ex} {a b c : Value} (h : NdX w P x a b c) : NdX w' P x a b c := by
  obtain ⟨v, h1, h2⟩ := h
  exact ⟨v, h1, Nd.keep hk _ _ _ _ h2⟩
theorem NdX.mono {w : World} {P P' : Nat → Prop} (hp : ∀ b, P b → P' b) {x : Ex} {a b c : Value} (h : NdX w P x a b c) : NdX w P' x a b c := by
  obtain ⟨v, h1, h2⟩ := h
  exact ⟨v, h1, Nd.mono hp _ _ _ _ h2⟩
theorem NdX.one {w : World} {P : Nat → Prop} {x : Ex} {a b c : Value} (h : NdX w P x a b c) : oneV a = true ∧ oneV b = true ∧ oneV c = true ∧ isSl c := by
  obtain ⟨v, h1, h2⟩ := h
  exact h2.one

/-- The cells of expressions. -/
def LsIs (w : World) (P : Nat → Prop) : List Ex → List Value → Prop
  | [], _ => True
  | x :: es, l => ∃ kv a b c d r, l = .int .i64 (exK x : Int) :: kv :: a :: b :: c :: d :: r ∧ RS w P kv (exKeys x) ∧ NdX w P x a b c ∧ RS w P d [] ∧ LsIs w P es r

theorem LsIs.keep {w w' : World} {P : Nat → Prop} (hk : Kept P w w') : ∀ (es : List Ex) (l : List Value), LsIs w P es l → LsIs w' P es l
  | [], _, _ => trivial
  | x :: es, l, h => by
    obtain ⟨kv, a, b, c, d, r, h1, h2, h3, h4, h5⟩ := h
    exact ⟨kv, a, b, c, d, r, h1, h2.keep hk, h3.keep hk, h4.keep hk, LsIs.keep hk es r h5⟩
theorem LsIs.mono {w : World} {P P' : Nat → Prop} (hp : ∀ b, P b → P' b) : ∀ (es : List Ex) (l : List Value), LsIs w P es l → LsIs w P' es l
  | [], _, _ => trivial
  | x :: es, l, h => by
    obtain ⟨kv, a, b, c, d, r, h1, h2, h3, h4, h5⟩ := h
    exact ⟨kv, a, b, c, d, r, h1, h2.mono hp, h3.mono hp, h4.mono hp, LsIs.mono hp es r h5⟩

theorem LsIs.get {w : World} {P : Nat → Prop} : ∀ {es : List Ex} {l : List Value} {m : Nat} {x : Ex}, LsIs w P es l → es[m]? = some x →
    ∃ kv a b c d, (∀ (j : Nat) (y : Value), [.int .i64 (exK x : Int), kv, a, b, c, d][j]? = some y → l[m * 6 + j]? = some y) ∧ RS w P kv (exKeys x) ∧ NdX w P x a b c ∧ RS w P d []
  | [], _, _, _, _, h => by simp at h
  | u :: vs, l, 0, v, hn, h => by
    obtain ⟨kv, a, b, c, d, r, rfl, h2, h3, h4, h5⟩ := hn
    simp only [List.getElem?_cons_zero, Option.some.injEq] at h
    subst h
    refine ⟨kv, a, b, c, d, fun j x hx => ?_, h2, h3, h4⟩
    have hj := (List.getElem?_eq_some_iff.1 hx).1
    simp only [List.length_cons, List.length_nil] at hj
    rw [show 0 * 6 + j = j by omega, show Value.int .i64 (exK u : Int) :: kv :: a :: b :: c :: d :: r = [.int .i64 (exK u : Int), kv, a, b, c, d] ++ r from rfl, List.getElem?_append_left (by simp; omega)]
    exact hx
  | u :: vs, l, m + 1, v, hn, h => by
    obtain ⟨kv, a, b, c, d, r, rfl, h2, h3, h4, h5⟩ := hn
    rw [List.getElem?_cons_succ] at h
    obtain ⟨kv', a', b', c', d', q1, q2, q3, q4⟩ := LsIs.get h5 h
    refine ⟨kv', a', b', c', d', fun j x hx => ?_, q2, q3, q4⟩
    rw [show (m + 1) * 6 + j = (m * 6 + j) + 1 + 1 + 1 + 1 + 1 + 1 by omega]
    simp only [List.getElem?_cons_succ]
    exact q1 j x hx

theorem LsIs.snoc {w : World} {P : Nat → Prop} : ∀ {es : List Ex} {l : List Value} {x : Ex} {kv a b c d : Value}, LsIs w P es l → l.length = es.length * 6 → RS w P kv (exKeys x) → NdX w P x a b c → RS w P d [] → LsIs w P (es ++ [x]) (l ++ [.int .i64 (exK x : Int), kv, a, b, c, d])
  | [], l, x, kv, a, b, c, d, _, hl, h0, h1, h2 => by
    have : l = [] := List.eq_nil_of_length_eq_zero (by simpa using hl)
    subst this
    exact ⟨kv, a, b, c, d, [], rfl, h0, h1, h2, trivial⟩
  | u :: vs, l, x, kv, a, b, c, d, hn, hl, h0, h1, h2 => by
    obtain ⟨kv', a', b', c', d', r, rfl, q1, q2, q3, q4⟩ := hn
    exact ⟨kv', a', b', c', d', r ++ [.int .i64 (exK x : Int), kv, a, b, c, d], rfl, q1, q2, q3, LsIs.snoc q4 (by simp at hl; omega) h0 h1 h2⟩

theorem LsIs.take {w : World} {P : Nat → Prop} : ∀ {es : List Ex} {l : List Value} (m : Nat), LsIs w P es l → LsIs w P (es.take m) l
  | [], _, _, _ => by simp [LsIs]
  | x :: es, l, 0, _ => trivial
  | x :: es, l, m + 1, h => by
    obtain ⟨kv, a, b, c, d, r, h1, h2, h3, h4, h5⟩ := h
    exact ⟨kv, a, b, c, d, r, h1, h2, h3, h4, LsIs.take m h5⟩

theorem LsIs.app {w : World} {P : Nat → Prop} : ∀ {es fs : List Ex} {l r : List Value}, LsIs w P es l → l.length = es.length * 6 → LsIs w P fs r → LsIs w P (es ++ fs) (l ++ r)
  | [], fs, l, r, _, hl, hr => by
    have : l = [] := List.eq_nil_of_length_eq_zero (by simpa using hl)
    subst this
    exact hr
  | x :: es, fs, l, r, h, hl, hr => by
    obtain ⟨kv, a, b, c, d, l', rfl, h2, h3, h4, h5⟩ := h
    exact ⟨kv, a, b, c, d, l' ++ r, rfl, h2, h3, h4, LsIs.app h5 (by simp at hl; omega) hr⟩

theorem LsIs.tk {w : World} {P : Nat → Prop} : ∀ {es : List Ex} {l : List Value}, LsIs w P es l → LsIs w P es (l.take (es.length * 6))
  | [], _, _ => trivial
  | x :: es, l, h => by
    obtain ⟨kv, a, b, c, d, r, rfl, h2, h3, h4, h5⟩ := h
    refine ⟨kv, a, b, c, d, r.take (es.length * 6), ?_, h2, h3, h4, LsIs.tk h5⟩
    rw [show (x :: es).length * 6 = es.length * 6 + 1 + 1 + 1 + 1 + 1 + 1 by simp; omega]
    simp only [List.take_succ_cons]

theorem LsIs.lenGe {w : World} {P : Nat → Prop} : ∀ {es : List Ex} {l : List Value}, LsIs w P es l → es.length * 6 ≤ l.length
  | [], _, _ => by simp
  | x :: es, l, h => by
    obtain ⟨kv, a, b, c, d, r, rfl, h2, h3, h4, h5⟩ := h
    have := LsIs.lenGe h5
    simp only [List.length_cons]
    omega

theorem LsIs.one {w : World} {P : Nat → Prop} : ∀ {es : List Ex} {l : List Value}, LsIs w P es l → l.length = es.length * 6 → ∀ u ∈ l, oneV u = true
  | [], l, _, hl, u, hu => by
    have : l = [] := List.eq_nil_of_length_eq_zero (by simpa using hl)
    subst this
    simp at hu
  | x :: es, l, h, hl, u, hu => by
    obtain ⟨kv, a, b, c, d, r, rfl, h2, h3, h4, h5⟩ := h
    obtain ⟨o1, o2, o3, _⟩ := h3.one
    simp only [List.mem_cons] at hu
    rcases hu with rfl | rfl | rfl | rfl | rfl | rfl | hu
    · rfl
    · exact h2.one
    · exact o1
    · exact o2
    · exact o3
    · exact h4.one
    · exact LsIs.one h5 (by simp at hl; omega) u hu

/-- A list of expressions. -/
def LsV (w : World) (P : Nat → Prop) (v : Value) (es : List Ex) : Prop := ∃ ad cap, v = .slice ad es.length cap ∧ (es ≠ [] → ∃ g cur, ad = some ⟨g, 0, none⟩ ∧ w.heap[g]? = some (.cells ⟨cur⟩ 40 (0, 0)) ∧ LsIs w P es cur)

theorem LsV.fm {w w' : World} {P : Nat → Prop} {v : Value} {es : List Ex} {B : Nat} {T : List Nat} (h : LsV w P v es) (hf : Fm B T w w') (h9 : 9 ∉ T) (h37 : 37 ∉ T) (h40 : 40 ∉ T) : LsV w' P v es := by
  obtain ⟨ad, cap, h1, h2⟩ := h
  refine ⟨ad, cap, h1, fun hne => ?_⟩
  obtain ⟨g, cur, h3, h4, h5⟩ := h2 hne
  exact ⟨g, cur, h3, hf.keep _ _ h4 h40, LsIs.keep (Kept.fm hf h9 h37) es cur h5⟩

theorem LsV.up {w w' : World} {P : Nat → Prop} {v : Value} {es : List Ex} (h : LsV w P v es) (hu : Up w.heap.size w w') : LsV w' P v es := h.fm (B := 0) (T := []) (hu.fm (Nat.le_refl _) (Nat.zero_le _)) (by simp) (by simp) (by simp)

/-- What can be written: small keys, sevens, not too deep. -/
def OkX (x : Ex) : Prop := exKeys x ≠ [] ∧ (∀ k ∈ exKeys x, Low k) ∧ dep (exV x) ≤ 60 ∧ (exK x = 0 → Ok7 (exV x))

def kX (x : Ex) : Nat := 60 + kKs (exKeys x) + kV (exV x)
def kXs : List Ex → Nat
  | [] => 0
  | x :: es => kX x + kXs es
theorem kXs_app : ∀ (a b : List Ex), kXs (a ++ b) = kXs a + kXs b
  | [], b => by simp [kXs]
  | x :: a, b => by simp only [List.cons_append, kXs, kXs_app a b]; omega
theorem kXs_len : ∀ (a : List Ex), a.length ≤ kXs a
  | [] => Nat.le_refl _
  | x :: a => by have := kXs_len a; simp only [List.length_cons, kXs, kX]; omega

theorem bdStyle (ad : Option Addr) (n c : Nat) (w : World) : (Instr.build 68 ⟨[(0, .slice ad n c)]⟩).run PP w = .ok (.agg ⟨[.slice ad n c, .int .i64 0]⟩) w := by kernel_rfl

/-- How many more lines may end ahead of an expression. -/
def endM (code : Bs) (j : Nat) : Nat := if j < code.length then code.length - j + 2 else if j % 5 = 0 then 1 else 0
def endA (code : Bs) (j : Nat) : Nat := if j < code.length then 18 else if j % 5 = 0 then 18 else 0

theorem end_step {code : Bs} {j : Nat} (h : pkv code j % 5 = 0) : endM code (j + 4) < endM code j ∧ Pot code (j + 4) + 14 + endA code (j + 4) ≤ Pot code j + endA code j := by
  by_cases hj : j < code.length
  · have e1 : endM code j = code.length - j + 2 := by simp [endM, hj]
    have e2 : endA code j = 18 := by simp [endA, hj]
    have e3 : endA code (j + 4) ≤ 18 := by unfold endA; split <;> (try split) <;> omega
    have e4 : endM code (j + 4) ≤ code.length - (j + 4) + 2 := by unfold endM; split <;> (try split) <;> omega
    have e5 : endM code (j + 4) < code.length - j + 2 := by unfold endM; split <;> (try split) <;> omega
    refine ⟨by omega, ?_⟩
    unfold Pot
    omega
  · have hp : pkv code j = j * 7 := by simp [pkv, List.getElem?_eq_none (show code.length ≤ j by omega)]
    rw [hp] at h
    have h5 : j % 5 = 0 := by omega
    have h54 : ¬ (j + 4) % 5 = 0 := by omega
    have hj4 : ¬ (j + 4) < code.length := by omega
    have e1 : endM code j = 1 := by simp [endM, hj, h5]
    have e2 : endM code (j + 4) = 0 := by simp [endM, hj4, h54]
    have e3 : endA code j = 18 := by simp [endA, hj, h5]
    have e4 : endA code (j + 4) = 0 := by simp [endA, hj4, h54]
    refine ⟨by omega, ?_⟩
    unfold Pot
    omega
theorem endA_le (code : Bs) (j : Nat) : endA code j ≤ 18 := by unfold endA; split <;> (try split) <;> omega

set_option maxRecDepth 100000 in
set_option maxHeartbeats 64000000 in
theorem write_any (P : Nat → Prop) (lv cv : Value) (es : List Ex) (code : Bs) (w : World) (hL : LsV w P lv es) (hc : RF w.heap.size w cv code) (hok : ∀ x ∈ es, OkX x) (hm : 24 * code.length + kXs es ≤ 90000000) :
    Calls PP 11 #[lv, cv] w fun e w' => ∃ v l, e = .returned v ∧ RB w' v l ∧ DOC false l es ∧ l.length ≤ 24 * code.length + kXs es ∧ Up w.heap.size w w' := by
  have hc0 := hc
  have hesl := kXs_len es
  obtain ⟨cad, ccap, rfl, _⟩ := hc
  obtain ⟨ad, cap, rfl, hrow⟩ := hL
  refine enter (L := [(0, .slice ad es.length cap), (1, .slice cad code.length ccap)]) Tryz.func11 rfl rfl rfl ⟨rfl, rfl, trivial⟩ ?_
  repeat (first | refine WL.pp rfl ?_ | refine WL.ns ?_ | refine WC.sr ?_)
  refine WL.bd rfl rfl (bdStyle _ _ _) rfl ?_
  refine WL.bx rfl rfl rfl (fun w1 hA => ?_)
  have hU1 : Up w.heap.size w w1 := hA.up (Nat.le_refl _)
  have hS1 : SB w1 w.heap.size code 0 := ⟨_, hA.at_, hc0.fm (hA.fm (B := 0) (T := []) (Nat.zero_le _)) (by simp)⟩
  have hkeep1 : Fm 0 [] w w1 := hA.fm (Nat.zero_le _)
  generalize hsp : w.heap.size = sp at *
  have hrow1 : es ≠ [] → ∃ g cur, ad = some ⟨g, 0, none⟩ ∧ w1.heap[g]? = some (.cells ⟨cur⟩ 40 (0, 0)) ∧ LsIs w1 P es cur := fun hne => by
    obtain ⟨g, cur, h1, h2, h3⟩ := hrow hne
    exact ⟨g, cur, h1, hkeep1.keep _ _ h2 (by simp), LsIs.keep (Kept.fm hkeep1 (by simp) (by simp)) es cur h3⟩
  clear hA hrow hkeep1
  repeat (first | refine WL.pp rfl ?_ | refine WL.ns ?_ | refine WC.sr ?_ | refine WC.seq ?_ | refine WC.block ?_)
  refine WC.loop (σ := Nat × Bs × Nat) (I := fun s w' => AccD (es.take s.1) s.2.1 ∧ SB w' sp code s.2.2 ∧ Fm sp [68] w1 w' ∧ s.1 ≤ es.length ∧ s.2.1.length + Pot code s.2.2 ≤ 24 * code.length + kXs (es.take s.1))
    (m := fun s => es.length - s.1) (Lf := fun s => [(5, .pointer (some ⟨sp, 0, none⟩)), (6, str s.2.1), (12, .slice ad es.length cap), (13, .int .i64 (es.length : Int)), (14, .int .i64 (s.1 : Int))])
    (0, [], 0) ⟨AccD.nil, hS1, Fm.refl _ _ _, Nat.zero_le _, by simp [kXs, Pot]⟩ ⟨rfl, rfl, rfl, rfl, rfl, trivial⟩ ?_
  have hsp1 := hS1.lt
  clear hS1
  rintro ⟨m, out, j⟩ w2 ⟨hD, hS, hF, hm1, hp⟩
  dsimp only at hD hS hm1 hp ⊢
  have hjj := Pot.ge code j
  have hkl : kXs (es.take m) ≤ kXs es := by
    have := kXs_app (es.take m) (es.drop m)
    rw [List.take_append_drop] at this
    omega
  by_cases hml : m < es.length
  · obtain ⟨x, hx⟩ : ∃ x, es[m]? = some x := ⟨_, List.getElem?_eq_getElem hml⟩
    have hxm := List.mem_of_getElem? hx
    obtain ⟨hk0, hklow, hdep, hok7⟩ := hok x hxm
    have htake : es.take (m + 1) = es.take m ++ [x] := by rw [List.take_add_one, hx]; rfl
    have htk : kXs (es.take (m + 1)) = kXs (es.take m) + (60 + kKs (exKeys x) + kV (exV x)) := by rw [htake, kXs_app]; simp [kXs, kX]
    have htk2 : kXs (es.take (m + 1)) ≤ kXs es := by
      have := kXs_app (es.take (m + 1)) (es.drop (m + 1))
      rw [List.take_append_drop] at this
      omega
    have hne : es ≠ [] := by rintro rfl; simp at hml
    obtain ⟨g, cur, had, hg, hNd⟩ := hrow1 hne
    obtain ⟨kv', a', b', c', d', hcells, hR1, hNv, hR2⟩ := hNd.get hx
    obtain ⟨o1, o2, o3, _⟩ := hNv.one
    have o4 := hR1.one
    have o5 := hR2.one
    have hg2 := hF.keep _ _ hg (by simp [tag])
    have hlc : ∀ (j : Nat) (y : Value), [.int .i64 (exK x : Int), kv', a', b', c', d'][j]? = some y → w2.cell? ⟨g, m * 6 + j, none⟩ = some y := fun j y hy => cell_of hg2 (by rw [List.getElem?_toArray]; exact hcells j y hy)
    rw [had]
    repeat (first | refine WL.pp rfl ?_ | refine WL.ns ?_ | refine WC.sr ?_ | refine WC.dT rfl (by first | omega | decide) ?_ | refine WL.ix (i := m) rfl rfl rfl hml (by rw [Nat.zero_add]; rfl) ?_ | refine WL.lg (cs := [.int .i64 (exK x : Int), kv', a', b', c', d']) rfl rfl rfl hlc rfl ?_ | refine WC.seq ?_ | refine WC.block ?_ | refine X.sn ?_ | refine WC.skip ?_)
    refine WL.al rfl rfl rfl (fun w3 hA3 => ?_)
    have hones : ∀ u ∈ [Value.int .i64 (exK x : Int), kv', a', b', c', d'], oneV u = true := fun u hu => by
      simp only [List.mem_cons, List.not_mem_nil, or_false] at hu
      rcases hu with rfl | rfl | rfl | rfl | rfl | rfl
      · rfl
      · exact o4
      · exact o1
      · exact o2
      · exact o3
      · exact o5
    refine WL.sg rfl rfl rfl hones hA3.at_ (by simp) rfl (fun w4 hS4 => ?_)
    have hsz12 := hF.size
    have hF4 : Fm sp [68] w1 w4 := (hF.trans (hA3.fm (by omega))).stN hS4 (by omega) (by omega)
    have hF24 : Fm 0 [] w2 w4 := (hA3.fm (B := 0) (T := []) (Nat.zero_le _)).stN hS4 (Nat.le_refl _) (Nat.zero_le _)
    have hb4 : w4.heap[w2.heap.size]? = some (.cells ⟨[.int .i64 (exK x : Int), kv', a', b', c', d']⟩ 40 (0, 0)) := by simpa using hS4.at_
    have hS4' := hS.fm hF24 (by simp) (by simp)
    generalize hnb2 : w2.heap.size = nb2 at *
    clear hA3 hS4 hF24 hS hlc hg2
    have hA18 := endA_le code j
    repeat (first | refine WL.ns ?_ | refine WC.seq ?_ | refine WC.block ?_)
    refine WC.loop (σ := Bs × Nat) (I := fun s w' => AccD (es.take m) s.1 ∧ SB w' sp code s.2 ∧ Fm sp [68] w4 w' ∧ s.1.length + Pot code s.2 + endA code s.2 ≤ out.length + Pot code j + endA code j)
      (m := fun s => endM code s.2) (Lf := fun s => [(5, .pointer (some ⟨sp, 0, none⟩)), (6, str s.1), (8, .pointer (some ⟨nb2, 0, none⟩)), (12, .slice (some ⟨g, 0, none⟩) es.length cap), (13, .int .i64 (es.length : Int)), (14, .int .i64 (m : Int))])
      (out, j) ⟨hD, hS4', Fm.refl _ _ _, Nat.le_refl _⟩ ⟨rfl, rfl, rfl, rfl, rfl, rfl, trivial⟩ ?_
    clear hS4'
    rintro ⟨o, j1⟩ w5 ⟨hD5, hS5, hF5, hp5⟩
    dsimp only at hD5 hS5 hp5 ⊢
    have hj1 := Pot.ge code j1
    repeat (first | refine WL.pp rfl ?_ | refine WC.sr ?_ | refine WC.seq ?_)
    refine WL.call rfl rfl rfl (pick_any sp code j1 5 w5 hS5 (by omega) (by omega)) ?_
    rintro e w6 ⟨rfl, hS6, hF6⟩
    refine ⟨_, _, rfl, rfl, ?_⟩
    have p6 := Pot.to code (show j1 + 1 = j1 + 1 from rfl)
    by_cases hp0 : pkv code j1 % 5 = 0
    · obtain ⟨q1, q2⟩ := end_step hp0
      repeat (first | refine WL.pp rfl ?_ | refine WL.ns ?_ | refine WC.dT rfl (by first | omega | decide) ?_ | refine WC.reg ?_ | refine WC.block ?_ | refine X.sn ?_ | refine WC.skip ?_)
      refine WL.call rfl rfl rfl (end_any sp code (j1 + 1) w6 hS6 (by omega)) ?_
      rintro e w7 ⟨s, rfl, hs, hsl, hS7, hF7⟩
      refine ⟨_, _, rfl, rfl, ?_⟩
      repeat (first | refine WL.pp rfl ?_ | refine WL.bo rfl rfl (add_str o s (by omega) _ _) rfl ?_ | refine WL.nil ?_ | refine X.bn ?_)
      exact X.again (o ++ s, j1 + 4) ⟨hD5.blank hs, by rw [show j1 + 4 = j1 + 1 + 3 by omega]; exact hS7, (hF5.trans hF6).trans hF7, by dsimp only; simp only [List.length_append]; omega⟩ q1 ⟨rfl, rfl, rfl, rfl, rfl, rfl, trivial⟩
    · repeat (first | refine WL.pp rfl ?_ | refine WL.ns ?_ | refine WC.sr ?_ | refine WC.dF rfl (by first | omega | decide) ?_ | refine X.sn ?_ | refine X.sx ?_ | refine X.bx ?_ | refine WC.exit ?_)
      refine WL.call rfl rfl rfl (blanks_any sp code (j1 + 1) w6 hS6 (by omega)) ?_
      rintro e w7 ⟨b0, rfl, hb0, hb0l, hS7, hF7⟩
      refine ⟨_, _, rfl, rfl, ?_⟩
      have p7 := Pot.to code (show j1 + 1 + 1 = j1 + 2 by omega)
      have hF47 := (hF5.trans hF6).trans hF7
      have hb7 := hF47.keep _ _ hb4 (by simp [tag])
      repeat (first | refine WL.pp rfl ?_ | refine WL.ns ?_ | refine WC.sr ?_ | refine WL.bo rfl rfl (add_str o b0 (by omega) _ _) rfl ?_ | refine WL.ldB (b := nb2) (i := 0) rfl rfl hb7 rfl rfl ?_ | refine WC.cut (x := .seq _ (.block _ _)) (σ := Bs × Nat) (fun s w' => XS x s.1 ∧ SB w' sp code s.2 ∧ Fm sp [68] w4 w' ∧ s.1.length + Pot code s.2 ≤ Pot code (j1 + 1 + 1) + 10 + kKs (exKeys x) + kV (exV x)) (fun s => [(5, .pointer (some ⟨sp, 0, none⟩)), (6, str (o ++ b0 ++ s.1)), (12, .slice (some ⟨g, 0, none⟩) es.length cap), (13, .int .i64 (es.length : Int)), (14, .int .i64 (m : Int))]) ?_ ?_ | refine WC.block ?_)
      · cases x with
        | kv ks v =>
          obtain ⟨v0, hv0, hNv⟩ := hNv
          obtain rfl : v = v0 := (hv0 rfl).symm
          clear hv0
          simp only [exKeys, exV, exK] at *
          repeat (first | refine WL.pp rfl ?_ | refine WL.ns ?_ | refine WC.sr ?_ | refine WC.dF rfl (by first | omega | decide) ?_)
          refine WC.draw (fun w' => w'.heap[nb2]? = some (.cells ⟨[.int .i64 0, kv', a', b', c', d']⟩ 40 (0, 0))) ?_
          have hSd : w7.drew.heap[nb2]? = some (.cells ⟨[.int .i64 0, kv', a', b', c', d']⟩ 40 (0, 0)) := hb7
          have hS7d := hS7.fm (Fm.refl 0 [] w7).drew (by simp) (by simp)
          have hF7d : Fm sp [68] w4 w7.drew := hF47.drew
          generalize w7.drew = w7 at hSd hS7d hF7d
          refine WD.tp 0 rfl (by kernel_rfl) POk.ok hSd rfl ?_
          refine WD.tp 1 rfl (by kernel_rfl) POk.ok hSd rfl ?_
          refine WD.tp 2 rfl (by kernel_rfl) POk.ok hSd rfl ?_
          refine WD.tp 5 rfl (by kernel_rfl) POk.ok hSd rfl ?_
          refine WD.tp 9 rfl (by kernel_rfl) POk.ok hSd rfl ?_
          refine WD.tp 12 rfl (by kernel_rfl) POk.ok hSd rfl ?_
          refine WD.tp 13 rfl (by kernel_rfl) POk.ok hSd rfl ?_
          refine WD.tl 3 rfl (by kernel_rfl) POk.ok hSd rfl rfl (fun w' hw' => cell_of (b := nb2) (i := 1) hw' rfl) rfl ?_
          refine WD.tg (cs := [a', b', c', d']) 14 rfl (by kernel_rfl) POk.ok hSd rfl rfl rfl (fun w' hw' => cells_block hw' rfl) rfl ?_
          refine WD.rc 4 (by kernel_rfl) rfl rfl rfl rfl (keyW_any sp code (j1 + 1 + 1) P kv' ks w7 hS7d (hR1.keep (Kept.fm (P := P) (hF4.trans hF7d) (by simp) (by simp))) hklow hk0 (by omega)) ?_
          rintro e w8 ⟨k, j2, rfl, hk, hS8, hF8, hp8⟩
          have hSd8 := hF8.keep _ _ hSd (by simp [tag])
          refine ⟨_, _, rfl, rfl, hSd8, ?_⟩
          have hj2 := Pot.ge code j2
          refine WD.rc 6 (by kernel_rfl) rfl rfl rfl rfl (blanks_any sp code j2 w8 hS8 (by omega)) ?_
          rintro e w9 ⟨b1, rfl, hb1, hb1l, hS9, hF9⟩
          have hSd9 := hF9.keep _ _ hSd8 (by simp [tag])
          refine ⟨_, _, rfl, rfl, hSd9, ?_⟩
          have p9 := Pot.to code (show j2 + 1 = j2 + 1 from rfl)
          refine WD.tb 7 rfl (by kernel_rfl) POk.ok hSd9 rfl rfl (fun w => add_str k b1 (by omega) _ w) rfl ?_
          refine WD.tb 8 rfl (by kernel_rfl) POk.ok hSd9 rfl rfl (fun w => add_str (k ++ b1) [61] (by simp; omega) _ w) rfl ?_
          refine WD.rc 10 (by kernel_rfl) rfl rfl rfl rfl (blanks_any sp code (j2 + 1) w9 hS9 (by omega)) ?_
          rintro e w10 ⟨b2, rfl, hb2, hb2l, hS10, hF10⟩
          have hSd10 := hF10.keep _ _ hSd9 (by simp [tag])
          refine ⟨_, _, rfl, rfl, hSd10, ?_⟩
          have p10 := Pot.to code (show j2 + 1 + 1 = j2 + 2 by omega)
          refine WD.tb 11 rfl (by kernel_rfl) POk.ok hSd10 rfl rfl (fun w => add_str (k ++ b1 ++ [61]) b2 (by simp; omega) _ w) rfl ?_
          have hF7x := (hF8.trans hF9).trans hF10
          refine WD.rc 15 (by kernel_rfl) rfl rfl rfl rfl (wrV_all v sp code (j2 + 1 + 1) P a' b' c' d' w10 hS10 (Nd.keep (Kept.fm (P := P) ((hF4.trans hF7d).trans hF7x) (by simp) (by simp)) _ _ _ _ hNv) o5 (by simpa using hok7) (by omega)) ?_
          rintro e w11 ⟨s, j3, rfl, hs, hS11, hF11, hp11⟩
          have hSd11 := hF11.keep _ _ hSd10 (by simp [tag])
          refine ⟨_, _, rfl, rfl, hSd11, ?_⟩
          have hj3 := Pot.ge code j3
          refine WD.tb 16 rfl (by kernel_rfl) POk.ok hSd11 rfl rfl (fun w => add_str (k ++ b1 ++ [61] ++ b2) s (by simp; omega) _ w) rfl ?_
          refine WD.tb 17 rfl (by kernel_rfl) POk.ok hSd11 rfl rfl (fun w => add_str (o ++ b0) (k ++ b1 ++ [61] ++ b2 ++ s) (by simp; omega) _ w) rfl ?_
          refine WD.tp 18 rfl (by kernel_rfl) POk.ok hSd11 rfl ?_
          refine WD.nil (by kernel_rfl) ?_
          repeat (refine X.bn ?_)
          exact X.cut (k ++ b1 ++ [61] ++ b2 ++ s, j3) ⟨XS.kv hk hb1 hb2 hs hdep, hS11, (hF7d.trans hF7x).trans hF11, by dsimp only; simp only [List.length_append, List.length_cons, List.length_nil]; omega⟩ ⟨rfl, rfl, rfl, rfl, rfl, trivial⟩
        | tab ks =>
          simp only [exKeys, exV, exK] at *
          repeat (refine WC.dT rfl (by first | omega | decide) ?_)
          refine WC.draw (fun w' => w'.heap[nb2]? = some (.cells ⟨[.int .i64 1, kv', a', b', c', d']⟩ 40 (0, 0))) ?_
          have hSd : w7.drew.heap[nb2]? = some (.cells ⟨[.int .i64 1, kv', a', b', c', d']⟩ 40 (0, 0)) := hb7
          have hS7d := hS7.fm (Fm.refl 0 [] w7).drew (by simp) (by simp)
          have hF7d : Fm sp [68] w4 w7.drew := hF47.drew
          generalize w7.drew = w7 at hSd hS7d hF7d
          refine WD.tp 0 rfl (by kernel_rfl) POk.ok hSd rfl ?_
          refine WD.tp 1 rfl (by kernel_rfl) POk.ok hSd rfl ?_
          refine WD.tp 4 rfl (by kernel_rfl) POk.ok hSd rfl ?_
          refine WD.tp 5 rfl (by kernel_rfl) POk.ok hSd rfl ?_
          refine WD.tp 9 rfl (by kernel_rfl) POk.ok hSd rfl ?_
          refine WD.tl 6 rfl (by kernel_rfl) POk.ok hSd rfl rfl (fun w' hw' => cell_of (b := nb2) (i := 1) hw' rfl) rfl ?_
          refine WD.rc 2 (by kernel_rfl) rfl rfl rfl rfl (blanks_any sp code (j1 + 1 + 1) w7 hS7d (by omega)) ?_
          rintro e w8 ⟨b1, rfl, hb1, hb1l, hS8, hF8⟩
          have hSd8 := hF8.keep _ _ hSd (by simp [tag])
          refine ⟨_, _, rfl, rfl, hSd8, ?_⟩
          have p8 := Pot.to code (show j1 + 1 + 1 + 1 = (j1 + 1 + 1) + 1 from rfl)
          refine WD.tb 3 rfl (by kernel_rfl) POk.ok hSd8 rfl rfl (fun w => add_str [91] b1 (by simp; omega) _ w) rfl ?_
          refine WD.rc 7 (by kernel_rfl) rfl rfl rfl rfl (keyW_any sp code (j1 + 1 + 1 + 1) P kv' ks w8 hS8 (hR1.keep (Kept.fm (P := P) ((hF4.trans hF7d).trans hF8) (by simp) (by simp))) hklow hk0 (by omega)) ?_
          rintro e w9 ⟨k, j2, rfl, hk, hS9, hF9, hp9⟩
          have hSd9 := hF9.keep _ _ hSd8 (by simp [tag])
          refine ⟨_, _, rfl, rfl, hSd9, ?_⟩
          have hj2 := Pot.ge code j2
          refine WD.tb 8 rfl (by kernel_rfl) POk.ok hSd9 rfl rfl (fun w => add_str ([91] ++ b1) k (by simp; omega) _ w) rfl ?_
          refine WD.rc 10 (by kernel_rfl) rfl rfl rfl rfl (blanks_any sp code j2 w9 hS9 (by omega)) ?_
          rintro e w10 ⟨b2, rfl, hb2, hb2l, hS10, hF10⟩
          have hSd10 := hF10.keep _ _ hSd9 (by simp [tag])
          refine ⟨_, _, rfl, rfl, hSd10, ?_⟩
          have p10 := Pot.to code (show j2 + 1 = j2 + 1 from rfl)
          refine WD.tb 11 rfl (by kernel_rfl) POk.ok hSd10 rfl rfl (fun w => add_str ([91] ++ b1 ++ k) b2 (by simp; omega) _ w) rfl ?_
          refine WD.tb 12 rfl (by kernel_rfl) POk.ok hSd10 rfl rfl (fun w => add_str ([91] ++ b1 ++ k ++ b2) [93] (by simp; omega) _ w) rfl ?_
          refine WD.tb 13 rfl (by kernel_rfl) POk.ok hSd10 rfl rfl (fun w => add_str (o ++ b0) ([91] ++ b1 ++ k ++ b2 ++ [93]) (by simp; omega) _ w) rfl ?_
          refine WD.tp 14 rfl (by kernel_rfl) POk.ok hSd10 rfl ?_
          refine WD.nil (by kernel_rfl) ?_
          repeat (refine X.bn ?_)
          exact X.cut ([91] ++ b1 ++ k ++ b2 ++ [93], j2 + 1) ⟨by have := XS.tab hb1 hk hb2; simpa using this, hS10, (hF7d.trans hF8).trans (hF9.trans hF10), by dsimp only; simp only [List.length_append, List.length_cons, List.length_nil]; omega⟩ ⟨rfl, rfl, rfl, rfl, rfl, trivial⟩
        | atab ks =>
          simp only [exKeys, exV, exK] at *
          repeat (first | refine WL.pp rfl ?_ | refine WL.ns ?_ | refine WC.sr ?_ | refine WC.dT rfl (by first | omega | decide) ?_ | refine WC.dF rfl (by first | omega | decide) ?_)
          refine WC.draw (fun w' => w'.heap[nb2]? = some (.cells ⟨[.int .i64 2, kv', a', b', c', d']⟩ 40 (0, 0))) ?_
          have hSd : w7.drew.heap[nb2]? = some (.cells ⟨[.int .i64 2, kv', a', b', c', d']⟩ 40 (0, 0)) := hb7
          have hS7d := hS7.fm (Fm.refl 0 [] w7).drew (by simp) (by simp)
          have hF7d : Fm sp [68] w4 w7.drew := hF47.drew
          generalize w7.drew = w7 at hSd hS7d hF7d
          refine WD.tp 0 rfl (by kernel_rfl) POk.ok hSd rfl ?_
          refine WD.tp 1 rfl (by kernel_rfl) POk.ok hSd rfl ?_
          refine WD.tp 4 rfl (by kernel_rfl) POk.ok hSd rfl ?_
          refine WD.tp 5 rfl (by kernel_rfl) POk.ok hSd rfl ?_
          refine WD.tp 9 rfl (by kernel_rfl) POk.ok hSd rfl ?_
          refine WD.tl 6 rfl (by kernel_rfl) POk.ok hSd rfl rfl (fun w' hw' => cell_of (b := nb2) (i := 1) hw' rfl) rfl ?_
          refine WD.rc 2 (by kernel_rfl) rfl rfl rfl rfl (blanks_any sp code (j1 + 1 + 1) w7 hS7d (by omega)) ?_
          rintro e w8 ⟨b1, rfl, hb1, hb1l, hS8, hF8⟩
          have hSd8 := hF8.keep _ _ hSd (by simp [tag])
          refine ⟨_, _, rfl, rfl, hSd8, ?_⟩
          have p8 := Pot.to code (show j1 + 1 + 1 + 1 = (j1 + 1 + 1) + 1 from rfl)
          refine WD.tb 3 rfl (by kernel_rfl) POk.ok hSd8 rfl rfl (fun w => add_str [91, 91] b1 (by simp; omega) _ w) rfl ?_
          refine WD.rc 7 (by kernel_rfl) rfl rfl rfl rfl (keyW_any sp code (j1 + 1 + 1 + 1) P kv' ks w8 hS8 (hR1.keep (Kept.fm (P := P) ((hF4.trans hF7d).trans hF8) (by simp) (by simp))) hklow hk0 (by omega)) ?_
          rintro e w9 ⟨k, j2, rfl, hk, hS9, hF9, hp9⟩
          have hSd9 := hF9.keep _ _ hSd8 (by simp [tag])
          refine ⟨_, _, rfl, rfl, hSd9, ?_⟩
          have hj2 := Pot.ge code j2
          refine WD.tb 8 rfl (by kernel_rfl) POk.ok hSd9 rfl rfl (fun w => add_str ([91, 91] ++ b1) k (by simp; omega) _ w) rfl ?_
          refine WD.rc 10 (by kernel_rfl) rfl rfl rfl rfl (blanks_any sp code j2 w9 hS9 (by omega)) ?_
          rintro e w10 ⟨b2, rfl, hb2, hb2l, hS10, hF10⟩
          have hSd10 := hF10.keep _ _ hSd9 (by simp [tag])
          refine ⟨_, _, rfl, rfl, hSd10, ?_⟩
          have p10 := Pot.to code (show j2 + 1 = j2 + 1 from rfl)
          refine WD.tb 11 rfl (by kernel_rfl) POk.ok hSd10 rfl rfl (fun w => add_str ([91, 91] ++ b1 ++ k) b2 (by simp; omega) _ w) rfl ?_
          refine WD.tb 12 rfl (by kernel_rfl) POk.ok hSd10 rfl rfl (fun w => add_str ([91, 91] ++ b1 ++ k ++ b2) [93, 93] (by simp; omega) _ w) rfl ?_
          refine WD.tb 13 rfl (by kernel_rfl) POk.ok hSd10 rfl rfl (fun w => add_str (o ++ b0) ([91, 91] ++ b1 ++ k ++ b2 ++ [93, 93]) (by simp; omega) _ w) rfl ?_
          refine WD.tp 14 rfl (by kernel_rfl) POk.ok hSd10 rfl ?_
          refine WD.nil (by kernel_rfl) ?_
          repeat (refine X.bn ?_)
          exact X.cut ([91, 91] ++ b1 ++ k ++ b2 ++ [93, 93], j2 + 1) ⟨by have := XS.atab hb1 hk hb2; simpa using this, hS10, (hF7d.trans hF8).trans (hF9.trans hF10), by dsimp only; simp only [List.length_append, List.length_cons, List.length_nil]; omega⟩ ⟨rfl, rfl, rfl, rfl, rfl, trivial⟩
      · rintro ⟨xs, j2⟩ w8 ⟨hxs, hS8, hF8, hp8⟩
        dsimp only at hxs hS8 hp8
        have hj2 := Pot.ge code j2
        repeat (first | refine WL.pp rfl ?_ | refine WC.reg ?_)
        refine WL.call rfl rfl rfl (end_any sp code j2 w8 hS8 (by omega)) ?_
        rintro e w9 ⟨s, rfl, hs, hsl, hS9, hF9⟩
        refine ⟨_, _, rfl, rfl, ?_⟩
        have p9 := Pot.to code (show j2 + 3 = j2 + 3 from rfl)
        repeat (first | refine WL.pp rfl ?_ | refine WL.bo rfl rfl (add_str (o ++ b0 ++ xs) s (by simp; omega) _ _) rfl ?_ | refine WC.reg ?_ | refine WL.nil ?_ | refine X.sn ?_ | refine X.bn ?_ | refine WL.ad rfl rfl (by omega) rfl ?_)
        refine X.again (m + 1, o ++ b0 ++ xs ++ s, j2 + 3) ⟨?_, hS9, (hF4.trans hF8).trans hF9, by dsimp only; omega, by dsimp only; rw [htk]; simp only [List.length_append]; omega⟩ (by dsimp only; omega) ⟨rfl, rfl, rfl, rfl, rfl, trivial⟩
        dsimp only
        rw [htake]
        have := AccD.expr hD5 hb0 hxs.1 hxs.2 hs
        simpa using this
  · have hmm : m = es.length := by omega
    subst hmm
    rw [List.take_length] at hD hp
    obtain ⟨v, w3, hcv, hRv, hUv⟩ := bytes_str out w2
    repeat (first | refine WL.pp rfl ?_ | refine WL.ns ?_ | refine WC.sr ?_ | refine WC.dF rfl (by first | omega | decide) ?_ | refine WC.seq ?_ | refine X.sn ?_ | refine X.sx ?_ | refine X.bx ?_ | refine WC.exit ?_)
    refine WL.cvr rfl rfl hcv rfl ?_
    repeat (first | refine WL.pp rfl ?_ | refine WL.ns ?_ | refine WC.ret ?_)
    exact X.ret_ rfl rfl ⟨v, out, rfl, hRv, hD.done, by have := hp; omega, (hU1.trans (hF.up)).trans (hUv.mono (by have := hU1.size; have := hF.size; omega))⟩
end Go.Proofs.YtaccphdkapmdhaaGreat

namespace Go.Proofs.YtaccphdkapmdhaaGreat

abbrev UU : Nat := 4294967296

theorem wrapU (a : Nat) : IntKind.u32.wrap (a : Int) = ((a % UU : Nat) : Int) := by
  have e : IntKind.u32.wrap (a : Int) = (a : Int) % 4294967296 := by
    simp [IntKind.wrap, IntKind.bits, IntKind.signed]
  rw [e, Int.natCast_emod]
  rfl
theorem mulU (a b : Nat) (t : Nat) (w : World) : (binOp .mul t (.int .u32 (a : Int)) (.int .u32 (b : Int))).run PP w = .ok (.int .u32 ((a * b % UU : Nat) : Int)) w := by
  show (Op.intArith .mul .u32 (a : Int) (b : Int)).run PP w = _
  simp only [Op.intArith, Sem.run_pure]
  rw [← Int.natCast_mul, wrapU]
theorem addU (a b : Nat) (t : Nat) (w : World) : (binOp .add t (.int .u32 (a : Int)) (.int .u32 (b : Int))).run PP w = .ok (.int .u32 (((a + b) % UU : Nat) : Int)) w := by
  show (Op.intArith .add .u32 (a : Int) (b : Int)).run PP w = _
  simp only [Op.intArith, Sem.run_pure]
  rw [← Int.natCast_add, wrapU]
theorem remU (a b : Nat) (h : 0 < b) (t : Nat) (w : World) : (binOp .rem t (.int .u32 (a : Int)) (.int .u32 (b : Int))).run PP w = .ok (.int .u32 ((a % b : Nat) : Int)) w := rem_int .u32 a b h t w
theorem shrUU (a n : Nat) (hn : n < 32) (t : Nat) (w : World) (k2 : IntKind) : (binOp .shr t (.int .u32 (a : Int)) (.int k2 (n : Int))).run PP w = .ok (.int .u32 ((a / 2 ^ n : Nat) : Int)) w := shrU .u32 a n hn (by decide) t w k2

/-- A name of few. -/
def nm (n : Nat) : Bs := match n % 4 with
  | 0 => [97]
  | 1 => [98]
  | 2 => [99]
  | _ => []
def nms (n : Nat) : List Bs := (List.range (1 + n % 3)).map fun k => nm (n / 2 ^ (2 + 2 * k))

def mt : Nat → Nat → Val
  | 0, _ => .sc 1 [55]
  | d + 1, n =>
    if n % 4 = 0 then .tbl ((List.range (n / 2 ^ 2 % 4)).map fun k => (nms ((n / 2 ^ 4 + k * 977 % UU) % UU), mt d ((n * 2654435761 % UU + k) % UU)))
    else if n % 4 = 1 then .arr ((List.range (n / 2 ^ 2 % 3)).map fun k => mt d ((n * 40503 % UU + k) % UU))
    else .sc 1 [55]

def lineOf (n : Nat) : Ex := match n % 8 with
  | 0 => .tab (nms (n / 2 ^ 3))
  | 1 => .tab (nms (n / 2 ^ 3))
  | 2 => .atab (nms (n / 2 ^ 3))
  | _ => .kv (nms (n / 2 ^ 3)) (mt 2 (n / 2 ^ 12))
def linesOf (l : List Nat) : List Ex := (l.take 16).map lineOf

theorem range_snoc {α : Type} (f : Nat → α) (m : Nat) : (List.range (m + 1)).map f = (List.range m).map f ++ [f m] := by
  rw [List.range_succ, List.map_append]
  rfl

theorem nm_low (n : Nat) : Low (nm n) ∧ (nm n).length ≤ 1 := by
  unfold nm
  split
  · exact ⟨fun c hc => by simp only [List.mem_singleton] at hc; subst hc; decide, by simp⟩
  · exact ⟨fun c hc => by simp only [List.mem_singleton] at hc; subst hc; decide, by simp⟩
  · exact ⟨fun c hc => by simp only [List.mem_singleton] at hc; subst hc; decide, by simp⟩
  · exact ⟨fun c hc => by simp at hc, by simp⟩

theorem kKs_le (c : Nat) : ∀ (ks : List Bs), (∀ k ∈ ks, k.length ≤ c) → kKs ks ≤ ks.length * (11 + 12 * c)
  | [], _ => by simp [kKs]
  | k :: ks, h => by
    have h1 := h k (by simp)
    have h2 := kKs_le c ks (fun k hk => h k (by simp [hk]))
    have : 12 * k.length ≤ 12 * c := Nat.mul_le_mul_left 12 h1
    simp only [kKs, kK, List.length_cons, Nat.add_mul, Nat.one_mul]
    omega

theorem nms_ok (n : Nat) : nms n ≠ [] ∧ (∀ k ∈ nms n, Low k) ∧ (∀ k ∈ nms n, k.length ≤ 1) ∧ (nms n).length ≤ 3 ∧ kKs (nms n) ≤ 69 := by
  have hl : (nms n).length = 1 + n % 3 := by simp [nms]
  have h3 : n % 3 < 3 := Nat.mod_lt _ (by omega)
  have hk : ∀ k ∈ nms n, k.length ≤ 1 := fun k hk => by
    obtain ⟨i, _, rfl⟩ := List.mem_map.1 hk
    exact (nm_low _).2
  refine ⟨fun h => by rw [h, List.length_nil] at hl; omega, fun k hk => ?_, hk, by omega, ?_⟩
  · obtain ⟨i, _, rfl⟩ := List.mem_map.1 hk
    exact (nm_low _).1
  · have := kKs_le 1 (nms n) hk
    rw [hl] at this
    have h4 : (1 + n % 3) * (11 + 12 * 1) ≤ 3 * 23 := Nat.mul_le_mul (by omega) (by omega)
    omega

theorem kVE_le (c : Nat) : ∀ (es : List (List Bs × Val)), (∀ ks v, (ks, v) ∈ es → kKs ks ≤ 69 ∧ kV v ≤ c) → kVE es ≤ es.length * (83 + c)
  | [], _ => by simp [kVE]
  | (ks, v) :: es, h => by
    obtain ⟨h1, h2⟩ := h ks v (by simp)
    have h3 := kVE_le c es (fun ks v hv => h ks v (by simp [hv]))
    simp only [kVE, List.length_cons, Nat.add_mul, Nat.one_mul] at h3 ⊢
    omega
theorem kVs_le (c : Nat) : ∀ (vs : List Val), (∀ v ∈ vs, kV v ≤ c) → kVs vs ≤ vs.length * (43 + c)
  | [], _ => by simp [kVs]
  | v :: vs, h => by
    have h2 := h v (by simp)
    have h3 := kVs_le c vs (fun v hv => h v (by simp [hv]))
    simp only [kVs, List.length_cons, Nat.add_mul, Nat.one_mul] at h3 ⊢
    omega
theorem Ok7E_of : ∀ (es : List (List Bs × Val)), (∀ ks v, (ks, v) ∈ es → (ks ≠ [] ∧ ∀ k ∈ ks, Low k) ∧ Ok7 v) → Ok7E es
  | [], _ => trivial
  | (ks, v) :: es, h => by
    simp only [Ok7E]
    exact ⟨(h ks v (by simp)).1, (h ks v (by simp)).2, Ok7E_of es (fun ks v hv => h ks v (by simp [hv]))⟩
theorem Ok7s_of : ∀ (vs : List Val), (∀ v ∈ vs, Ok7 v) → Ok7s vs
  | [], _ => trivial
  | v :: vs, h => by
    simp only [Ok7s]
    exact ⟨h v (by simp), Ok7s_of vs (fun v hv => h v (by simp [hv]))⟩
theorem depE_le (c : Nat) : ∀ (es : List (List Bs × Val)), (∀ ks v, (ks, v) ∈ es → dep v ≤ c) → depE es ≤ c
  | [], _ => by simp [depE]
  | (ks, v) :: es, h => by
    have h1 := h ks v (by simp)
    have h2 := depE_le c es (fun ks v hv => h ks v (by simp [hv]))
    simp only [depE]; omega
theorem deps_le (c : Nat) : ∀ (vs : List Val), (∀ v ∈ vs, dep v ≤ c) → deps vs ≤ c
  | [], _ => by simp [deps]
  | v :: vs, h => by
    have h1 := h v (by simp)
    have h2 := deps_le c vs (fun v hv => h v (by simp [hv]))
    simp only [deps]; omega

def mtK : Nat → Nat
  | 0 => 1
  | d + 1 => 30 + 3 * (83 + mtK d)

theorem mt_ok : ∀ (d n : Nat), Ok7 (mt d n) ∧ dep (mt d n) ≤ d ∧ kV (mt d n) ≤ mtK d
  | 0, n => by simp [mt, Ok7, dep, kV, mtK]
  | d + 1, n => by
    have ih := mt_ok d
    unfold mt
    split
    · have hl : ((List.range (n / 2 ^ 2 % 4)).map fun k => (nms ((n / 2 ^ 4 + k * 977 % UU) % UU), mt d ((n * 2654435761 % UU + k) % UU))).length ≤ 3 := by
        rw [List.length_map, List.length_range]
        have := Nat.mod_lt (n / 2 ^ 2) (show 0 < 4 by omega)
        omega
      have hm : ∀ ks v, (ks, v) ∈ ((List.range (n / 2 ^ 2 % 4)).map fun k => (nms ((n / 2 ^ 4 + k * 977 % UU) % UU), mt d ((n * 2654435761 % UU + k) % UU))) → ∃ a b, ks = nms a ∧ v = mt d b := fun ks v h => by
        obtain ⟨k, _, hk⟩ := List.mem_map.1 h
        simp only [Prod.mk.injEq] at hk
        exact ⟨_, _, hk.1.symm, hk.2.symm⟩
      generalize ((List.range (n / 2 ^ 2 % 4)).map fun k => (nms ((n / 2 ^ 4 + k * 977 % UU) % UU), mt d ((n * 2654435761 % UU + k) % UU))) = es at hl hm
      refine ⟨?_, ?_, ?_⟩
      · simp only [Ok7]
        exact Ok7E_of es fun ks v h => by
          obtain ⟨a, b, rfl, rfl⟩ := hm ks v h
          exact ⟨⟨(nms_ok a).1, (nms_ok a).2.1⟩, (ih b).1⟩
      · simp only [dep]
        have := depE_le d es (fun ks v h => by
          obtain ⟨a, b, rfl, rfl⟩ := hm ks v h
          exact (ih b).2.1)
        omega
      · simp only [kV, mtK]
        have h1 := kVE_le (mtK d) es (fun ks v h => by
          obtain ⟨a, b, rfl, rfl⟩ := hm ks v h
          exact ⟨(nms_ok a).2.2.2.2, (ih b).2.2⟩)
        have h2 : es.length * (83 + mtK d) ≤ 3 * (83 + mtK d) := Nat.mul_le_mul_right _ hl
        omega
    · split
      · have hl : ((List.range (n / 2 ^ 2 % 3)).map fun k => mt d ((n * 40503 % UU + k) % UU)).length ≤ 3 := by
          rw [List.length_map, List.length_range]
          have := Nat.mod_lt (n / 2 ^ 2) (show 0 < 3 by omega)
          omega
        have hm : ∀ v ∈ ((List.range (n / 2 ^ 2 % 3)).map fun k => mt d ((n * 40503 % UU + k) % UU)), ∃ b, v = mt d b := fun v h => by
          obtain ⟨k, _, hk⟩ := List.mem_map.1 h
          exact ⟨_, hk.symm⟩
        generalize ((List.range (n / 2 ^ 2 % 3)).map fun k => mt d ((n * 40503 % UU + k) % UU)) = vs at hl hm
        refine ⟨?_, ?_, ?_⟩
        · simp only [Ok7]
          exact Ok7s_of vs fun v h => by
            obtain ⟨b, rfl⟩ := hm v h
            exact (ih b).1
        · simp only [dep]
          have := deps_le d vs (fun v h => by
            obtain ⟨b, rfl⟩ := hm v h
            exact (ih b).2.1)
          omega
        · simp only [kV, mtK]
          have h1 := kVs_le (mtK d) vs (fun v h => by
            obtain ⟨b, rfl⟩ := hm v h
            exact (ih b).2.2)
          have h2 : vs.length * (43 + mtK d) ≤ 3 * (43 + mtK d) := Nat.mul_le_mul_right _ hl
          omega
      · refine ⟨by simp [Ok7], by simp [dep], ?_⟩
        simp only [kV, mtK, List.length_singleton]
        omega

theorem lineOf_ok (n : Nat) : OkX (lineOf n) ∧ kX (lineOf n) ≤ 2000 := by
  obtain ⟨h1, h2, h3, h4, h5⟩ := nms_ok (n / 2 ^ 3)
  obtain ⟨h6, h7, h8⟩ := mt_ok 2 (n / 2 ^ 12)
  have h9 : mtK 2 = 1125 := by decide
  unfold lineOf
  split
  · exact ⟨⟨h1, h2, by simp [exV, dep], fun h => by simp [exK] at h⟩, by simp only [kX, exKeys, exV, kV, List.length_nil]; omega⟩
  · exact ⟨⟨h1, h2, by simp [exV, dep], fun h => by simp [exK] at h⟩, by simp only [kX, exKeys, exV, kV, List.length_nil]; omega⟩
  · exact ⟨⟨h1, h2, by simp [exV, dep], fun h => by simp [exK] at h⟩, by simp only [kX, exKeys, exV, kV, List.length_nil]; omega⟩
  · exact ⟨⟨h1, h2, by simp only [exV]; omega, fun _ => h6⟩, by simp only [kX, exKeys, exV]; omega⟩

theorem linesOf_ok (l : List Nat) : (∀ x ∈ linesOf l, OkX x ∧ kX x ≤ 2000) ∧ (linesOf l).length ≤ 16 := by
  constructor
  · intro x hx
    obtain ⟨n, _, rfl⟩ := List.mem_map.1 hx
    exact lineOf_ok n
  · simp [linesOf]
    omega

theorem kXs_le (c : Nat) : ∀ (es : List Ex), (∀ x ∈ es, kX x ≤ c) → kXs es ≤ es.length * c
  | [], _ => by simp [kXs]
  | x :: es, h => by
    have h1 := h x (by simp)
    have h2 := kXs_le c es (fun x hx => h x (by simp [hx]))
    simp only [kXs, List.length_cons, Nat.add_mul, Nat.one_mul]
    omega
end Go.Proofs.YtaccphdkapmdhaaGreat

