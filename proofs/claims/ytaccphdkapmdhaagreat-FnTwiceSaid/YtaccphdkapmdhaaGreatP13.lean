/- The writer: the end of a line, gaps. No condition. -/
import Derived.Test.YtaccphdkapmdhaaGreatP12
namespace Go.Proofs.YtaccphdkapmdhaaGreat

section
attribute [local semireducible] WL WC X WD
variable {all : List Oper} {Q : Exit → Act → World → Prop} {N : Nat} {L L' : Env} {o : Oper} {w : World} {S : World → Prop} {fuel : Nat} {listed : Array Bool}

/-- Operation i comes up now. -/
def WDo (all : List Oper) (Q : Exit → Act → World → Prop) (N : Nat) (S : World → Prop) (fuel : Nat) (listed : Array Bool) (L : Env) (w : World) (i : Nat) : Prop :=
  ∀ a, Fr N L a → wpOp PP all.toArray Q i (fun a' w' => S w' ∧ wpAnyH PP .any all.toArray Q S fuel (listed.setIfInBounds i true) a' w') a w

theorem WD.a1 (i : Nat) (hr : Region.ready .any all.toArray listed = [i]) (ki : WDo all Q N S fuel listed L w i) : WD all Q N S (fuel + 1) listed L w := fun a hf => by
  refine wpAnyH_all hr (by simp) fun m hm => ?_
  have hm' : m = i := by simpa using hm
  subst hm'
  exact ki a hf
theorem WD.a2 (i j : Nat) (hr : Region.ready .any all.toArray listed = [i, j]) (ki : WDo all Q N S fuel listed L w i) (kj : WDo all Q N S fuel listed L w j) : WD all Q N S (fuel + 1) listed L w := fun a hf => by
  refine wpAnyH_all hr (by simp) fun m hm => ?_
  have hm' : m = i ∨ m = j := by simpa using hm
  rcases hm' with rfl | rfl
  · exact ki a hf
  · exact kj a hf
theorem WD.a3 (i j k : Nat) (hr : Region.ready .any all.toArray listed = [i, j, k]) (ki : WDo all Q N S fuel listed L w i) (kj : WDo all Q N S fuel listed L w j) (kk : WDo all Q N S fuel listed L w k) : WD all Q N S (fuel + 1) listed L w := fun a hf => by
  refine wpAnyH_all hr (by simp) fun m hm => ?_
  have hm' : m = i ∨ m = j ∨ m = k := by simpa using hm
  rcases hm' with rfl | rfl | rfl
  · exact ki a hf
  · exact kj a hf
  · exact kk a hf

theorem WDo.v {i : Nat} {v : Value} {w' : World} (hi : all[i]? = some o) (hg : grd all L o = some true) (hrun : ∀ a, Fr N L a → (execOp a.eval o).run PP w = .ok (.value v) w') (hS : S w') (hd : dstE N o v L = some L')
    (k : WD all Q N S fuel (listed.setIfInBounds i true) L' w') : WDo all Q N S fuel listed L w i := fun a hf => by
  unfold wpOp
  have hi' : (all.toArray)[i]? = some o := by simpa using hi
  simp only [hi', grd_ok hf hg, if_true]
  refine .inl ?_
  unfold Oper.wp
  rw [hrun a hf]
  exact ⟨hS, k _ (dstE_ok hf hd)⟩

theorem WDo.c {i : Nat} {f : Nat} {vs : List Value} {R : Ending → World → Prop} (hi : all[i]? = some o) (hg : grd all L o = some true) (hc : callA L o.op = some (f, vs)) (hf3 : (Nat.ble 3 f && Nat.blt f 150) = true) (h : Calls PP f vs.toArray w R)
    (k : ∀ e w', R e w' → ∃ v L', e = .returned v ∧ dstE N o v L = some L' ∧ S w' ∧ WD all Q N S fuel (listed.setIfInBounds i true) L' w') : WDo all Q N S fuel listed L w i := fun a hf => by
  unfold wpOp
  have hi' : (all.toArray)[i]? = some o := by simpa using hi
  simp only [hi', grd_ok hf hg, if_true]
  refine .inl ?_
  unfold Oper.wp
  rw [callA_run hf hc (callOk_at hf3) w]
  refine h.mono fun e w' hR => ?_
  obtain ⟨v, L', rfl, hd, hS, hk⟩ := k e w' hR
  exact ⟨hS, hk _ (dstE_ok hf hd)⟩
end
attribute [irreducible] WDo
attribute [local irreducible] binOp IntKind.wrap Sem.run

/-- A region of a function's code, by its number. -/
def regOf : Code → Nat → List Oper
  | .seq a b, n => match regOf a n with
    | [] => regOf b n
    | l => l
  | .region id l _, n => if Nat.beq id n then l.toList else []
  | .cond _ a b, n => match regOf a n with
    | [] => regOf b n
    | l => l
  | .block _ c, n => regOf c n
  | .loop c, n => regOf c n
  | _, _ => []

noncomputable abbrev endOps : List Oper := regOf ((Tryz.f26.body).getD .skip) 1

def cmTexts : List Bs := [[], [], [35, 32, 97, 32, 114, 101, 109, 97, 114, 107], [35], [35, 61, 32, 91, 120, 93, 32, 34, 32, 39]]
def nlTexts : List Bs := [[10], [10], [13, 10]]

theorem cmTexts_ok : ∀ s ∈ cmTexts, CmS s ∧ s.length ≤ 10 := by
  intro s hs
  simp only [cmTexts, List.mem_cons, List.not_mem_nil, or_false] at hs
  rcases hs with rfl | rfl | rfl | rfl | rfl
  · exact ⟨.inl rfl, by decide⟩
  · exact ⟨.inl rfl, by decide⟩
  · exact ⟨.inr ⟨_, rfl, by decide⟩, by decide⟩
  · exact ⟨.inr ⟨_, rfl, by decide⟩, by decide⟩
  · exact ⟨.inr ⟨_, rfl, by decide⟩, by decide⟩

theorem nlTexts_ok : ∀ s ∈ nlTexts, NlS s ∧ s.length ≤ 2 := by
  intro s hs
  simp only [nlTexts, List.mem_cons, List.not_mem_nil, or_false] at hs
  rcases hs with rfl | rfl | rfl
  · exact ⟨.inl rfl, by decide⟩
  · exact ⟨.inl rfl, by decide⟩
  · exact ⟨.inr rfl, by decide⟩

theorem end_texts {s1 s2 s3 : Bs} (h1 : BL s1 ∧ s1.length ≤ 2) (h2 : CmS s2 ∧ s2.length ≤ 10) (h3 : NlS s3 ∧ s3.length ≤ 2) : EndS (s1 ++ s2 ++ s3) ∧ (s1 ++ s2 ++ s3).length ≤ 14 := by
  refine ⟨⟨s1, s2, s3, by rw [List.append_assoc], h1.1, h2.1, h3.1⟩, ?_⟩
  simp only [List.length_append]
  omega

theorem tx_get {w : World} {b : Nat} {l : List Bs} {r : Nat} (h : w.heap[b]? = some (.cells (strs l) 9 (0, 0))) (hr : r < l.length) : ∃ s, s ∈ l ∧ w.cell? ⟨b, r, none⟩ = some (str s) := by
  have h1 : l[r]? = some l[r] := List.getElem?_eq_getElem hr
  exact ⟨l[r], List.getElem_mem hr, cell_of h (strs_get h1)⟩

section
variable (sp : Nat) (code : Bs) (i : Nat) (w0 : World) {Q : Exit → Act → World → Prop} [POk Q]
set_option maxRecDepth 10000 in
set_option maxHeartbeats 4000000 in
theorem end_31111 (hi : i ≤ 999999990) (hk : ∀ s w1, EndS s → s.length ≤ 14 → SB w1 sp code (i + 3) → Fm sp [68] w0 w1 → X .normal Q Tryz.f26.ntmps [(2, str s)] w1) (w : World) (hS : SB w sp code (i + 3)) (hF : Fm sp [68] w0 w) (s1 : Bs) (hs1 : BL s1 ∧ s1.length ≤ 2) (s2 : Bs) (hs2 : CmS s2 ∧ s2.length ≤ 10) (s3 : Bs) (hs3 : NlS s3 ∧ s3.length ≤ 2) :
    WD endOps Q Tryz.f26.ntmps (fun _ => True) 1 ⟨[true, true, true, true, true, true, true, true, true, true, true, true, true, true, false]⟩ [(3, .pointer (some ⟨sp, 0, none⟩)), (6, .pointer (some ⟨sp, 0, none⟩)), (12, .pointer (some ⟨sp, 0, none⟩)), (16, str (s1 ++ s2 ++ s3))] w := by
  refine WD.tp 14 rfl (by kernel_rfl) POk.ok trivial rfl ?_
  refine WD.nil (by kernel_rfl) ?_
  obtain ⟨e1, e2⟩ := end_texts hs1 hs2 hs3
  exact X.weaken [(2, str (s1 ++ s2 ++ s3))] ⟨rfl, trivial⟩ (hk _ _ e1 e2 hS hF)
set_option maxRecDepth 10000 in
set_option maxHeartbeats 4000000 in
theorem end_31101 (hi : i ≤ 999999990) (hk : ∀ s w1, EndS s → s.length ≤ 14 → SB w1 sp code (i + 3) → Fm sp [68] w0 w1 → X .normal Q Tryz.f26.ntmps [(2, str s)] w1) (w : World) (hS : SB w sp code (i + 3)) (hF : Fm sp [68] w0 w) (s1 : Bs) (hs1 : BL s1 ∧ s1.length ≤ 2) (r2 : Nat) (hr2 : r2 < 5) (b2 : Nat) (hb2 : w.heap[b2]? = some (.cells (strs cmTexts) 9 (0, 0))) (s3 : Bs) (hs3 : NlS s3 ∧ s3.length ≤ 2) :
    WD endOps Q Tryz.f26.ntmps (fun _ => True) 4 ⟨[true, true, true, true, true, true, false, false, true, true, true, true, true, false, false]⟩ [(3, .pointer (some ⟨sp, 0, none⟩)), (6, .pointer (some ⟨sp, 0, none⟩)), (12, .pointer (some ⟨sp, 0, none⟩)), (4, str s1), (8, .pointer (some ⟨b2, r2, none⟩)), (15, str s3)] w := by
  refine WD.a1 6 (by kernel_rfl) ?_
  · obtain ⟨s2, hm2, hc2⟩ := tx_get hb2 hr2
    have hs2 := cmTexts_ok s2 hm2
    refine WDo.v rfl rfl (fun a hf => ldA_run hf rfl hc2) trivial rfl ?_
    refine WD.tr 7 rfl (by kernel_rfl) POk.ok trivial rfl (fun w2 _ a hf => boA_run hf rfl (add_str s1 s2 (by omega) _ _)) rfl ?_
    refine WD.tr 13 rfl (by kernel_rfl) POk.ok trivial rfl (fun w2 _ a hf => boA_run hf rfl (add_str (s1 ++ s2) s3 (by simp only [List.length_append]; omega) _ _)) rfl ?_
    exact WD.weaken (L' := [(3, .pointer (some ⟨sp, 0, none⟩)), (6, .pointer (some ⟨sp, 0, none⟩)), (12, .pointer (some ⟨sp, 0, none⟩)), (16, str (s1 ++ s2 ++ s3))]) (by refine ⟨rfl, rfl, rfl, rfl, trivial⟩) (end_31111 sp code i w0 hi hk w hS hF s1 hs1 s2 hs2 s3 hs3)
set_option maxRecDepth 10000 in
set_option maxHeartbeats 4000000 in
theorem end_31110 (hi : i ≤ 999999990) (hk : ∀ s w1, EndS s → s.length ≤ 14 → SB w1 sp code (i + 3) → Fm sp [68] w0 w1 → X .normal Q Tryz.f26.ntmps [(2, str s)] w1) (w : World) (hS : SB w sp code (i + 3)) (hF : Fm sp [68] w0 w) (s1 : Bs) (hs1 : BL s1 ∧ s1.length ≤ 2) (r3 : Nat) (hr3 : r3 < 3) (b8 : Nat) (hb8 : w.heap[b8]? = some (.cells (strs nlTexts) 9 (0, 0))) (s2 : Bs) (hs2 : CmS s2 ∧ s2.length ≤ 10) :
    WD endOps Q Tryz.f26.ntmps (fun _ => True) 3 ⟨[true, true, true, true, true, true, true, true, true, true, true, true, false, false, false]⟩ [(3, .pointer (some ⟨sp, 0, none⟩)), (6, .pointer (some ⟨sp, 0, none⟩)), (12, .pointer (some ⟨sp, 0, none⟩)), (10, str (s1 ++ s2)), (14, .pointer (some ⟨b8, r3, none⟩))] w := by
  refine WD.a1 12 (by kernel_rfl) ?_
  · obtain ⟨s3, hm3, hc3⟩ := tx_get hb8 hr3
    have hs3 := nlTexts_ok s3 hm3
    refine WDo.v rfl rfl (fun a hf => ldA_run hf rfl hc3) trivial rfl ?_
    refine WD.tr 13 rfl (by kernel_rfl) POk.ok trivial rfl (fun w2 _ a hf => boA_run hf rfl (add_str (s1 ++ s2) s3 (by simp only [List.length_append]; omega) _ _)) rfl ?_
    exact WD.weaken (L' := [(3, .pointer (some ⟨sp, 0, none⟩)), (6, .pointer (some ⟨sp, 0, none⟩)), (12, .pointer (some ⟨sp, 0, none⟩)), (16, str (s1 ++ s2 ++ s3))]) (by refine ⟨rfl, rfl, rfl, rfl, trivial⟩) (end_31111 sp code i w0 hi hk w hS hF s1 hs1 s2 hs2 s3 hs3)
set_option maxRecDepth 10000 in
set_option maxHeartbeats 4000000 in
theorem end_21110 (hi : i ≤ 999999990) (hk : ∀ s w1, EndS s → s.length ≤ 14 → SB w1 sp code (i + 3) → Fm sp [68] w0 w1 → X .normal Q Tryz.f26.ntmps [(2, str s)] w1) (w : World) (hS : SB w sp code (i + 2)) (hF : Fm sp [68] w0 w) (s1 : Bs) (hs1 : BL s1 ∧ s1.length ≤ 2) (b8 : Nat) (hb8 : w.heap[b8]? = some (.cells (strs nlTexts) 9 (0, 0))) (s2 : Bs) (hs2 : CmS s2 ∧ s2.length ≤ 10) :
    WD endOps Q Tryz.f26.ntmps (fun _ => True) 5 ⟨[true, true, true, true, true, true, true, true, true, true, false, false, false, false, false]⟩ [(3, .pointer (some ⟨sp, 0, none⟩)), (6, .pointer (some ⟨sp, 0, none⟩)), (12, .pointer (some ⟨sp, 0, none⟩)), (11, .slice (some ⟨b8, 0, none⟩) 3 3), (10, str (s1 ++ s2))] w := by
  refine WD.a1 10 (by kernel_rfl) ?_
  · refine WDo.c rfl rfl rfl rfl (pick_any sp code (i + 2) 3 w hS (by omega) (by omega)) ?_
    rintro _ w1 ⟨rfl, hS1, hF1⟩
    have hr3 : pkv code (i + 2) % 3 < 3 := Nat.mod_lt _ (by omega)
    generalize pkv code (i + 2) % 3 = r3 at hr3
    refine ⟨_, _, rfl, rfl, trivial, ?_⟩
    have hb8 := hF1.keep _ _ hb8 (by simp [tag])
    have hS := hS1
    have hF := hF.trans hF1
    refine WD.ti 11 r3 rfl (by kernel_rfl) POk.ok trivial rfl rfl rfl hr3 (by rw [Nat.zero_add, Nat.mul_one]; rfl) ?_
    exact WD.weaken (L' := [(3, .pointer (some ⟨sp, 0, none⟩)), (6, .pointer (some ⟨sp, 0, none⟩)), (12, .pointer (some ⟨sp, 0, none⟩)), (10, str (s1 ++ s2)), (14, .pointer (some ⟨b8, r3, none⟩))]) (by refine ⟨rfl, rfl, rfl, rfl, rfl, trivial⟩) (end_31110 sp code i w0 hi hk w1 hS hF s1 hs1 r3 hr3 b8 hb8 s2 hs2)
set_option maxRecDepth 10000 in
set_option maxHeartbeats 4000000 in
theorem end_30101 (hi : i ≤ 999999990) (hk : ∀ s w1, EndS s → s.length ≤ 14 → SB w1 sp code (i + 3) → Fm sp [68] w0 w1 → X .normal Q Tryz.f26.ntmps [(2, str s)] w1) (w : World) (hS : SB w sp code (i + 3)) (hF : Fm sp [68] w0 w) (s1 : Bs) (hs1 : BL s1 ∧ s1.length ≤ 2) (r2 : Nat) (hr2 : r2 < 5) (s3 : Bs) (hs3 : NlS s3 ∧ s3.length ≤ 2) :
    WD endOps Q Tryz.f26.ntmps (fun _ => True) 6 ⟨[true, true, false, true, true, false, false, false, true, true, true, true, true, false, false]⟩ [(3, .pointer (some ⟨sp, 0, none⟩)), (6, .pointer (some ⟨sp, 0, none⟩)), (12, .pointer (some ⟨sp, 0, none⟩)), (4, str s1), (7, .int .i64 (r2 : Int)), (15, str s3)] w := by
  refine WD.a1 2 (by kernel_rfl) ?_
  · have hA := alloc_al w (.cells (strs cmTexts) 9 (0, 0))
    refine WDo.v (w' := w.alloc (.cells (strs cmTexts) 9 (0, 0))) rfl rfl (fun a hf => by rw [bsA_run hf rfl]; simp only [Sem.run_bind, bsS5 [] [] [35, 32, 97, 32, 114, 101, 109, 97, 114, 107] [35] [35, 61, 32, 91, 120, 93, 32, 34, 32, 39], Result.andThen_ok, Sem.run_pure]; rfl) trivial rfl ?_
    generalize w.alloc (.cells (strs cmTexts) 9 (0, 0)) = w1 at hA
    have hlt := hS.lt
    have hb2 := hA.at_
    have hF1 : Fm sp [68] w w1 := hA.fm (by omega)
    have hS := hS.fm (hA.fm (B := 0) (T := []) (Nat.zero_le _)) (by simp) (by simp)
    have hF := hF.trans hF1
    generalize w.heap.size = b2 at hb2
    refine WD.ti 5 r2 rfl (by kernel_rfl) POk.ok trivial rfl rfl rfl hr2 (by rw [Nat.zero_add, Nat.mul_one]; rfl) ?_
    exact WD.weaken (L' := [(3, .pointer (some ⟨sp, 0, none⟩)), (6, .pointer (some ⟨sp, 0, none⟩)), (12, .pointer (some ⟨sp, 0, none⟩)), (4, str s1), (8, .pointer (some ⟨b2, r2, none⟩)), (15, str s3)]) (by refine ⟨rfl, rfl, rfl, rfl, rfl, rfl, trivial⟩) (end_31101 sp code i w0 hi hk w1 hS hF s1 hs1 r2 hr2 b2 hb2 s3 hs3)
set_option maxRecDepth 10000 in
set_option maxHeartbeats 4000000 in
theorem end_31010 (hi : i ≤ 999999990) (hk : ∀ s w1, EndS s → s.length ≤ 14 → SB w1 sp code (i + 3) → Fm sp [68] w0 w1 → X .normal Q Tryz.f26.ntmps [(2, str s)] w1) (w : World) (hS : SB w sp code (i + 3)) (hF : Fm sp [68] w0 w) (s1 : Bs) (hs1 : BL s1 ∧ s1.length ≤ 2) (r3 : Nat) (hr3 : r3 < 3) (s2 : Bs) (hs2 : CmS s2 ∧ s2.length ≤ 10) :
    WD endOps Q Tryz.f26.ntmps (fun _ => True) 5 ⟨[true, true, true, true, true, true, true, true, false, true, true, false, false, false, false]⟩ [(3, .pointer (some ⟨sp, 0, none⟩)), (6, .pointer (some ⟨sp, 0, none⟩)), (12, .pointer (some ⟨sp, 0, none⟩)), (13, .int .i64 (r3 : Int)), (10, str (s1 ++ s2))] w := by
  refine WD.a1 8 (by kernel_rfl) ?_
  · have hA := alloc_al w (.cells (strs nlTexts) 9 (0, 0))
    refine WDo.v (w' := w.alloc (.cells (strs nlTexts) 9 (0, 0))) rfl rfl (fun a hf => by rw [bsA_run hf rfl]; simp only [Sem.run_bind, bsS3 [10] [10] [13, 10], Result.andThen_ok, Sem.run_pure]; rfl) trivial rfl ?_
    generalize w.alloc (.cells (strs nlTexts) 9 (0, 0)) = w1 at hA
    have hlt := hS.lt
    have hb8 := hA.at_
    have hF1 : Fm sp [68] w w1 := hA.fm (by omega)
    have hS := hS.fm (hA.fm (B := 0) (T := []) (Nat.zero_le _)) (by simp) (by simp)
    have hF := hF.trans hF1
    generalize w.heap.size = b8 at hb8
    refine WD.ti 11 r3 rfl (by kernel_rfl) POk.ok trivial rfl rfl rfl hr3 (by rw [Nat.zero_add, Nat.mul_one]; rfl) ?_
    exact WD.weaken (L' := [(3, .pointer (some ⟨sp, 0, none⟩)), (6, .pointer (some ⟨sp, 0, none⟩)), (12, .pointer (some ⟨sp, 0, none⟩)), (10, str (s1 ++ s2)), (14, .pointer (some ⟨b8, r3, none⟩))]) (by refine ⟨rfl, rfl, rfl, rfl, rfl, trivial⟩) (end_31110 sp code i w0 hi hk w1 hS hF s1 hs1 r3 hr3 b8 hb8 s2 hs2)
set_option maxRecDepth 10000 in
set_option maxHeartbeats 4000000 in
theorem end_31100 (hi : i ≤ 999999990) (hk : ∀ s w1, EndS s → s.length ≤ 14 → SB w1 sp code (i + 3) → Fm sp [68] w0 w1 → X .normal Q Tryz.f26.ntmps [(2, str s)] w1) (w : World) (hS : SB w sp code (i + 3)) (hF : Fm sp [68] w0 w) (s1 : Bs) (hs1 : BL s1 ∧ s1.length ≤ 2) (r2 : Nat) (hr2 : r2 < 5) (r3 : Nat) (hr3 : r3 < 3) (b2 : Nat) (hb2 : w.heap[b2]? = some (.cells (strs cmTexts) 9 (0, 0))) (b8 : Nat) (hb8 : w.heap[b8]? = some (.cells (strs nlTexts) 9 (0, 0))) :
    WD endOps Q Tryz.f26.ntmps (fun _ => True) 5 ⟨[true, true, true, true, true, true, false, false, true, true, true, true, false, false, false]⟩ [(3, .pointer (some ⟨sp, 0, none⟩)), (6, .pointer (some ⟨sp, 0, none⟩)), (12, .pointer (some ⟨sp, 0, none⟩)), (4, str s1), (8, .pointer (some ⟨b2, r2, none⟩)), (14, .pointer (some ⟨b8, r3, none⟩))] w := by
  refine WD.a2 6 12 (by kernel_rfl) ?_ ?_
  · obtain ⟨s2, hm2, hc2⟩ := tx_get hb2 hr2
    have hs2 := cmTexts_ok s2 hm2
    refine WDo.v rfl rfl (fun a hf => ldA_run hf rfl hc2) trivial rfl ?_
    refine WD.tr 7 rfl (by kernel_rfl) POk.ok trivial rfl (fun w2 _ a hf => boA_run hf rfl (add_str s1 s2 (by omega) _ _)) rfl ?_
    exact WD.weaken (L' := [(3, .pointer (some ⟨sp, 0, none⟩)), (6, .pointer (some ⟨sp, 0, none⟩)), (12, .pointer (some ⟨sp, 0, none⟩)), (10, str (s1 ++ s2)), (14, .pointer (some ⟨b8, r3, none⟩))]) (by refine ⟨rfl, rfl, rfl, rfl, rfl, trivial⟩) (end_31110 sp code i w0 hi hk w hS hF s1 hs1 r3 hr3 b8 hb8 s2 hs2)
  · obtain ⟨s3, hm3, hc3⟩ := tx_get hb8 hr3
    have hs3 := nlTexts_ok s3 hm3
    refine WDo.v rfl rfl (fun a hf => ldA_run hf rfl hc3) trivial rfl ?_
    exact WD.weaken (L' := [(3, .pointer (some ⟨sp, 0, none⟩)), (6, .pointer (some ⟨sp, 0, none⟩)), (12, .pointer (some ⟨sp, 0, none⟩)), (4, str s1), (8, .pointer (some ⟨b2, r2, none⟩)), (15, str s3)]) (by refine ⟨rfl, rfl, rfl, rfl, rfl, rfl, trivial⟩) (end_31101 sp code i w0 hi hk w hS hF s1 hs1 r2 hr2 b2 hb2 s3 hs3)
set_option maxRecDepth 10000 in
set_option maxHeartbeats 4000000 in
theorem end_21010 (hi : i ≤ 999999990) (hk : ∀ s w1, EndS s → s.length ≤ 14 → SB w1 sp code (i + 3) → Fm sp [68] w0 w1 → X .normal Q Tryz.f26.ntmps [(2, str s)] w1) (w : World) (hS : SB w sp code (i + 2)) (hF : Fm sp [68] w0 w) (s1 : Bs) (hs1 : BL s1 ∧ s1.length ≤ 2) (s2 : Bs) (hs2 : CmS s2 ∧ s2.length ≤ 10) :
    WD endOps Q Tryz.f26.ntmps (fun _ => True) 6 ⟨[true, true, true, true, true, true, true, true, false, true, false, false, false, false, false]⟩ [(3, .pointer (some ⟨sp, 0, none⟩)), (6, .pointer (some ⟨sp, 0, none⟩)), (12, .pointer (some ⟨sp, 0, none⟩)), (10, str (s1 ++ s2))] w := by
  refine WD.a2 8 10 (by kernel_rfl) ?_ ?_
  · have hA := alloc_al w (.cells (strs nlTexts) 9 (0, 0))
    refine WDo.v (w' := w.alloc (.cells (strs nlTexts) 9 (0, 0))) rfl rfl (fun a hf => by rw [bsA_run hf rfl]; simp only [Sem.run_bind, bsS3 [10] [10] [13, 10], Result.andThen_ok, Sem.run_pure]; rfl) trivial rfl ?_
    generalize w.alloc (.cells (strs nlTexts) 9 (0, 0)) = w1 at hA
    have hlt := hS.lt
    have hb8 := hA.at_
    have hF1 : Fm sp [68] w w1 := hA.fm (by omega)
    have hS := hS.fm (hA.fm (B := 0) (T := []) (Nat.zero_le _)) (by simp) (by simp)
    have hF := hF.trans hF1
    generalize w.heap.size = b8 at hb8
    exact WD.weaken (L' := [(3, .pointer (some ⟨sp, 0, none⟩)), (6, .pointer (some ⟨sp, 0, none⟩)), (12, .pointer (some ⟨sp, 0, none⟩)), (11, .slice (some ⟨b8, 0, none⟩) 3 3), (10, str (s1 ++ s2))]) (by refine ⟨rfl, rfl, rfl, rfl, rfl, trivial⟩) (end_21110 sp code i w0 hi hk w1 hS hF s1 hs1 b8 hb8 s2 hs2)
  · refine WDo.c rfl rfl rfl rfl (pick_any sp code (i + 2) 3 w hS (by omega) (by omega)) ?_
    rintro _ w1 ⟨rfl, hS1, hF1⟩
    have hr3 : pkv code (i + 2) % 3 < 3 := Nat.mod_lt _ (by omega)
    generalize pkv code (i + 2) % 3 = r3 at hr3
    refine ⟨_, _, rfl, rfl, trivial, ?_⟩
    have hS := hS1
    have hF := hF.trans hF1
    exact WD.weaken (L' := [(3, .pointer (some ⟨sp, 0, none⟩)), (6, .pointer (some ⟨sp, 0, none⟩)), (12, .pointer (some ⟨sp, 0, none⟩)), (13, .int .i64 (r3 : Int)), (10, str (s1 ++ s2))]) (by refine ⟨rfl, rfl, rfl, rfl, rfl, trivial⟩) (end_31010 sp code i w0 hi hk w1 hS hF s1 hs1 r3 hr3 s2 hs2)
set_option maxRecDepth 10000 in
set_option maxHeartbeats 4000000 in
theorem end_21100 (hi : i ≤ 999999990) (hk : ∀ s w1, EndS s → s.length ≤ 14 → SB w1 sp code (i + 3) → Fm sp [68] w0 w1 → X .normal Q Tryz.f26.ntmps [(2, str s)] w1) (w : World) (hS : SB w sp code (i + 2)) (hF : Fm sp [68] w0 w) (s1 : Bs) (hs1 : BL s1 ∧ s1.length ≤ 2) (r2 : Nat) (hr2 : r2 < 5) (b2 : Nat) (hb2 : w.heap[b2]? = some (.cells (strs cmTexts) 9 (0, 0))) (b8 : Nat) (hb8 : w.heap[b8]? = some (.cells (strs nlTexts) 9 (0, 0))) :
    WD endOps Q Tryz.f26.ntmps (fun _ => True) 7 ⟨[true, true, true, true, true, true, false, false, true, true, false, false, false, false, false]⟩ [(3, .pointer (some ⟨sp, 0, none⟩)), (6, .pointer (some ⟨sp, 0, none⟩)), (12, .pointer (some ⟨sp, 0, none⟩)), (4, str s1), (11, .slice (some ⟨b8, 0, none⟩) 3 3), (8, .pointer (some ⟨b2, r2, none⟩))] w := by
  refine WD.a2 6 10 (by kernel_rfl) ?_ ?_
  · obtain ⟨s2, hm2, hc2⟩ := tx_get hb2 hr2
    have hs2 := cmTexts_ok s2 hm2
    refine WDo.v rfl rfl (fun a hf => ldA_run hf rfl hc2) trivial rfl ?_
    refine WD.tr 7 rfl (by kernel_rfl) POk.ok trivial rfl (fun w2 _ a hf => boA_run hf rfl (add_str s1 s2 (by omega) _ _)) rfl ?_
    exact WD.weaken (L' := [(3, .pointer (some ⟨sp, 0, none⟩)), (6, .pointer (some ⟨sp, 0, none⟩)), (12, .pointer (some ⟨sp, 0, none⟩)), (11, .slice (some ⟨b8, 0, none⟩) 3 3), (10, str (s1 ++ s2))]) (by refine ⟨rfl, rfl, rfl, rfl, rfl, trivial⟩) (end_21110 sp code i w0 hi hk w hS hF s1 hs1 b8 hb8 s2 hs2)
  · refine WDo.c rfl rfl rfl rfl (pick_any sp code (i + 2) 3 w hS (by omega) (by omega)) ?_
    rintro _ w1 ⟨rfl, hS1, hF1⟩
    have hr3 : pkv code (i + 2) % 3 < 3 := Nat.mod_lt _ (by omega)
    generalize pkv code (i + 2) % 3 = r3 at hr3
    refine ⟨_, _, rfl, rfl, trivial, ?_⟩
    have hb2 := hF1.keep _ _ hb2 (by simp [tag])
    have hb8 := hF1.keep _ _ hb8 (by simp [tag])
    have hS := hS1
    have hF := hF.trans hF1
    refine WD.ti 11 r3 rfl (by kernel_rfl) POk.ok trivial rfl rfl rfl hr3 (by rw [Nat.zero_add, Nat.mul_one]; rfl) ?_
    exact WD.weaken (L' := [(3, .pointer (some ⟨sp, 0, none⟩)), (6, .pointer (some ⟨sp, 0, none⟩)), (12, .pointer (some ⟨sp, 0, none⟩)), (4, str s1), (8, .pointer (some ⟨b2, r2, none⟩)), (14, .pointer (some ⟨b8, r3, none⟩))]) (by refine ⟨rfl, rfl, rfl, rfl, rfl, rfl, trivial⟩) (end_31100 sp code i w0 hi hk w1 hS hF s1 hs1 r2 hr2 r3 hr3 b2 hb2 b8 hb8)
set_option maxRecDepth 10000 in
set_option maxHeartbeats 4000000 in
theorem end_30100 (hi : i ≤ 999999990) (hk : ∀ s w1, EndS s → s.length ≤ 14 → SB w1 sp code (i + 3) → Fm sp [68] w0 w1 → X .normal Q Tryz.f26.ntmps [(2, str s)] w1) (w : World) (hS : SB w sp code (i + 3)) (hF : Fm sp [68] w0 w) (s1 : Bs) (hs1 : BL s1 ∧ s1.length ≤ 2) (r2 : Nat) (hr2 : r2 < 5) (r3 : Nat) (hr3 : r3 < 3) (b8 : Nat) (hb8 : w.heap[b8]? = some (.cells (strs nlTexts) 9 (0, 0))) :
    WD endOps Q Tryz.f26.ntmps (fun _ => True) 7 ⟨[true, true, false, true, true, false, false, false, true, true, true, true, false, false, false]⟩ [(3, .pointer (some ⟨sp, 0, none⟩)), (6, .pointer (some ⟨sp, 0, none⟩)), (12, .pointer (some ⟨sp, 0, none⟩)), (4, str s1), (7, .int .i64 (r2 : Int)), (14, .pointer (some ⟨b8, r3, none⟩))] w := by
  refine WD.a2 2 12 (by kernel_rfl) ?_ ?_
  · have hA := alloc_al w (.cells (strs cmTexts) 9 (0, 0))
    refine WDo.v (w' := w.alloc (.cells (strs cmTexts) 9 (0, 0))) rfl rfl (fun a hf => by rw [bsA_run hf rfl]; simp only [Sem.run_bind, bsS5 [] [] [35, 32, 97, 32, 114, 101, 109, 97, 114, 107] [35] [35, 61, 32, 91, 120, 93, 32, 34, 32, 39], Result.andThen_ok, Sem.run_pure]; rfl) trivial rfl ?_
    generalize w.alloc (.cells (strs cmTexts) 9 (0, 0)) = w1 at hA
    have hlt := hS.lt
    have hb8 := hA.keep hb8
    have hb2 := hA.at_
    have hF1 : Fm sp [68] w w1 := hA.fm (by omega)
    have hS := hS.fm (hA.fm (B := 0) (T := []) (Nat.zero_le _)) (by simp) (by simp)
    have hF := hF.trans hF1
    generalize w.heap.size = b2 at hb2
    refine WD.ti 5 r2 rfl (by kernel_rfl) POk.ok trivial rfl rfl rfl hr2 (by rw [Nat.zero_add, Nat.mul_one]; rfl) ?_
    exact WD.weaken (L' := [(3, .pointer (some ⟨sp, 0, none⟩)), (6, .pointer (some ⟨sp, 0, none⟩)), (12, .pointer (some ⟨sp, 0, none⟩)), (4, str s1), (8, .pointer (some ⟨b2, r2, none⟩)), (14, .pointer (some ⟨b8, r3, none⟩))]) (by refine ⟨rfl, rfl, rfl, rfl, rfl, rfl, trivial⟩) (end_31100 sp code i w0 hi hk w1 hS hF s1 hs1 r2 hr2 r3 hr3 b2 hb2 b8 hb8)
  · obtain ⟨s3, hm3, hc3⟩ := tx_get hb8 hr3
    have hs3 := nlTexts_ok s3 hm3
    refine WDo.v rfl rfl (fun a hf => ldA_run hf rfl hc3) trivial rfl ?_
    exact WD.weaken (L' := [(3, .pointer (some ⟨sp, 0, none⟩)), (6, .pointer (some ⟨sp, 0, none⟩)), (12, .pointer (some ⟨sp, 0, none⟩)), (4, str s1), (7, .int .i64 (r2 : Int)), (15, str s3)]) (by refine ⟨rfl, rfl, rfl, rfl, rfl, rfl, trivial⟩) (end_30101 sp code i w0 hi hk w hS hF s1 hs1 r2 hr2 s3 hs3)
set_option maxRecDepth 10000 in
set_option maxHeartbeats 4000000 in
theorem end_31000 (hi : i ≤ 999999990) (hk : ∀ s w1, EndS s → s.length ≤ 14 → SB w1 sp code (i + 3) → Fm sp [68] w0 w1 → X .normal Q Tryz.f26.ntmps [(2, str s)] w1) (w : World) (hS : SB w sp code (i + 3)) (hF : Fm sp [68] w0 w) (s1 : Bs) (hs1 : BL s1 ∧ s1.length ≤ 2) (r2 : Nat) (hr2 : r2 < 5) (r3 : Nat) (hr3 : r3 < 3) (b2 : Nat) (hb2 : w.heap[b2]? = some (.cells (strs cmTexts) 9 (0, 0))) :
    WD endOps Q Tryz.f26.ntmps (fun _ => True) 7 ⟨[true, true, true, true, true, true, false, false, false, true, true, false, false, false, false]⟩ [(3, .pointer (some ⟨sp, 0, none⟩)), (6, .pointer (some ⟨sp, 0, none⟩)), (12, .pointer (some ⟨sp, 0, none⟩)), (4, str s1), (13, .int .i64 (r3 : Int)), (8, .pointer (some ⟨b2, r2, none⟩))] w := by
  refine WD.a2 6 8 (by kernel_rfl) ?_ ?_
  · obtain ⟨s2, hm2, hc2⟩ := tx_get hb2 hr2
    have hs2 := cmTexts_ok s2 hm2
    refine WDo.v rfl rfl (fun a hf => ldA_run hf rfl hc2) trivial rfl ?_
    refine WD.tr 7 rfl (by kernel_rfl) POk.ok trivial rfl (fun w2 _ a hf => boA_run hf rfl (add_str s1 s2 (by omega) _ _)) rfl ?_
    exact WD.weaken (L' := [(3, .pointer (some ⟨sp, 0, none⟩)), (6, .pointer (some ⟨sp, 0, none⟩)), (12, .pointer (some ⟨sp, 0, none⟩)), (13, .int .i64 (r3 : Int)), (10, str (s1 ++ s2))]) (by refine ⟨rfl, rfl, rfl, rfl, rfl, trivial⟩) (end_31010 sp code i w0 hi hk w hS hF s1 hs1 r3 hr3 s2 hs2)
  · have hA := alloc_al w (.cells (strs nlTexts) 9 (0, 0))
    refine WDo.v (w' := w.alloc (.cells (strs nlTexts) 9 (0, 0))) rfl rfl (fun a hf => by rw [bsA_run hf rfl]; simp only [Sem.run_bind, bsS3 [10] [10] [13, 10], Result.andThen_ok, Sem.run_pure]; rfl) trivial rfl ?_
    generalize w.alloc (.cells (strs nlTexts) 9 (0, 0)) = w1 at hA
    have hlt := hS.lt
    have hb2 := hA.keep hb2
    have hb8 := hA.at_
    have hF1 : Fm sp [68] w w1 := hA.fm (by omega)
    have hS := hS.fm (hA.fm (B := 0) (T := []) (Nat.zero_le _)) (by simp) (by simp)
    have hF := hF.trans hF1
    generalize w.heap.size = b8 at hb8
    refine WD.ti 11 r3 rfl (by kernel_rfl) POk.ok trivial rfl rfl rfl hr3 (by rw [Nat.zero_add, Nat.mul_one]; rfl) ?_
    exact WD.weaken (L' := [(3, .pointer (some ⟨sp, 0, none⟩)), (6, .pointer (some ⟨sp, 0, none⟩)), (12, .pointer (some ⟨sp, 0, none⟩)), (4, str s1), (8, .pointer (some ⟨b2, r2, none⟩)), (14, .pointer (some ⟨b8, r3, none⟩))]) (by refine ⟨rfl, rfl, rfl, rfl, rfl, rfl, trivial⟩) (end_31100 sp code i w0 hi hk w1 hS hF s1 hs1 r2 hr2 r3 hr3 b2 hb2 b8 hb8)
set_option maxRecDepth 10000 in
set_option maxHeartbeats 4000000 in
theorem end_11100 (hi : i ≤ 999999990) (hk : ∀ s w1, EndS s → s.length ≤ 14 → SB w1 sp code (i + 3) → Fm sp [68] w0 w1 → X .normal Q Tryz.f26.ntmps [(2, str s)] w1) (w : World) (hS : SB w sp code (i + 1)) (hF : Fm sp [68] w0 w) (s1 : Bs) (hs1 : BL s1 ∧ s1.length ≤ 2) (b2 : Nat) (hb2 : w.heap[b2]? = some (.cells (strs cmTexts) 9 (0, 0))) (b8 : Nat) (hb8 : w.heap[b8]? = some (.cells (strs nlTexts) 9 (0, 0))) :
    WD endOps Q Tryz.f26.ntmps (fun _ => True) 9 ⟨[true, true, true, true, false, false, false, false, true, true, false, false, false, false, false]⟩ [(3, .pointer (some ⟨sp, 0, none⟩)), (6, .pointer (some ⟨sp, 0, none⟩)), (12, .pointer (some ⟨sp, 0, none⟩)), (4, str s1), (5, .slice (some ⟨b2, 0, none⟩) 5 5), (11, .slice (some ⟨b8, 0, none⟩) 3 3)] w := by
  refine WD.a1 4 (by kernel_rfl) ?_
  · refine WDo.c rfl rfl rfl rfl (pick_any sp code (i + 1) 5 w hS (by omega) (by omega)) ?_
    rintro _ w1 ⟨rfl, hS1, hF1⟩
    have hr2 : pkv code (i + 1) % 5 < 5 := Nat.mod_lt _ (by omega)
    generalize pkv code (i + 1) % 5 = r2 at hr2
    refine ⟨_, _, rfl, rfl, trivial, ?_⟩
    have hb2 := hF1.keep _ _ hb2 (by simp [tag])
    have hb8 := hF1.keep _ _ hb8 (by simp [tag])
    have hS := hS1
    have hF := hF.trans hF1
    refine WD.ti 5 r2 rfl (by kernel_rfl) POk.ok trivial rfl rfl rfl hr2 (by rw [Nat.zero_add, Nat.mul_one]; rfl) ?_
    exact WD.weaken (L' := [(3, .pointer (some ⟨sp, 0, none⟩)), (6, .pointer (some ⟨sp, 0, none⟩)), (12, .pointer (some ⟨sp, 0, none⟩)), (4, str s1), (11, .slice (some ⟨b8, 0, none⟩) 3 3), (8, .pointer (some ⟨b2, r2, none⟩))]) (by refine ⟨rfl, rfl, rfl, rfl, rfl, rfl, trivial⟩) (end_21100 sp code i w0 hi hk w1 hS hF s1 hs1 r2 hr2 b2 hb2 b8 hb8)
set_option maxRecDepth 10000 in
set_option maxHeartbeats 4000000 in
theorem end_20100 (hi : i ≤ 999999990) (hk : ∀ s w1, EndS s → s.length ≤ 14 → SB w1 sp code (i + 3) → Fm sp [68] w0 w1 → X .normal Q Tryz.f26.ntmps [(2, str s)] w1) (w : World) (hS : SB w sp code (i + 2)) (hF : Fm sp [68] w0 w) (s1 : Bs) (hs1 : BL s1 ∧ s1.length ≤ 2) (r2 : Nat) (hr2 : r2 < 5) (b8 : Nat) (hb8 : w.heap[b8]? = some (.cells (strs nlTexts) 9 (0, 0))) :
    WD endOps Q Tryz.f26.ntmps (fun _ => True) 9 ⟨[true, true, false, true, true, false, false, false, true, true, false, false, false, false, false]⟩ [(3, .pointer (some ⟨sp, 0, none⟩)), (6, .pointer (some ⟨sp, 0, none⟩)), (12, .pointer (some ⟨sp, 0, none⟩)), (4, str s1), (7, .int .i64 (r2 : Int)), (11, .slice (some ⟨b8, 0, none⟩) 3 3)] w := by
  refine WD.a2 2 10 (by kernel_rfl) ?_ ?_
  · have hA := alloc_al w (.cells (strs cmTexts) 9 (0, 0))
    refine WDo.v (w' := w.alloc (.cells (strs cmTexts) 9 (0, 0))) rfl rfl (fun a hf => by rw [bsA_run hf rfl]; simp only [Sem.run_bind, bsS5 [] [] [35, 32, 97, 32, 114, 101, 109, 97, 114, 107] [35] [35, 61, 32, 91, 120, 93, 32, 34, 32, 39], Result.andThen_ok, Sem.run_pure]; rfl) trivial rfl ?_
    generalize w.alloc (.cells (strs cmTexts) 9 (0, 0)) = w1 at hA
    have hlt := hS.lt
    have hb8 := hA.keep hb8
    have hb2 := hA.at_
    have hF1 : Fm sp [68] w w1 := hA.fm (by omega)
    have hS := hS.fm (hA.fm (B := 0) (T := []) (Nat.zero_le _)) (by simp) (by simp)
    have hF := hF.trans hF1
    generalize w.heap.size = b2 at hb2
    refine WD.ti 5 r2 rfl (by kernel_rfl) POk.ok trivial rfl rfl rfl hr2 (by rw [Nat.zero_add, Nat.mul_one]; rfl) ?_
    exact WD.weaken (L' := [(3, .pointer (some ⟨sp, 0, none⟩)), (6, .pointer (some ⟨sp, 0, none⟩)), (12, .pointer (some ⟨sp, 0, none⟩)), (4, str s1), (11, .slice (some ⟨b8, 0, none⟩) 3 3), (8, .pointer (some ⟨b2, r2, none⟩))]) (by refine ⟨rfl, rfl, rfl, rfl, rfl, rfl, trivial⟩) (end_21100 sp code i w0 hi hk w1 hS hF s1 hs1 r2 hr2 b2 hb2 b8 hb8)
  · refine WDo.c rfl rfl rfl rfl (pick_any sp code (i + 2) 3 w hS (by omega) (by omega)) ?_
    rintro _ w1 ⟨rfl, hS1, hF1⟩
    have hr3 : pkv code (i + 2) % 3 < 3 := Nat.mod_lt _ (by omega)
    generalize pkv code (i + 2) % 3 = r3 at hr3
    refine ⟨_, _, rfl, rfl, trivial, ?_⟩
    have hb8 := hF1.keep _ _ hb8 (by simp [tag])
    have hS := hS1
    have hF := hF.trans hF1
    refine WD.ti 11 r3 rfl (by kernel_rfl) POk.ok trivial rfl rfl rfl hr3 (by rw [Nat.zero_add, Nat.mul_one]; rfl) ?_
    exact WD.weaken (L' := [(3, .pointer (some ⟨sp, 0, none⟩)), (6, .pointer (some ⟨sp, 0, none⟩)), (12, .pointer (some ⟨sp, 0, none⟩)), (4, str s1), (7, .int .i64 (r2 : Int)), (14, .pointer (some ⟨b8, r3, none⟩))]) (by refine ⟨rfl, rfl, rfl, rfl, rfl, rfl, trivial⟩) (end_30100 sp code i w0 hi hk w1 hS hF s1 hs1 r2 hr2 r3 hr3 b8 hb8)
set_option maxRecDepth 10000 in
set_option maxHeartbeats 4000000 in
theorem end_21000 (hi : i ≤ 999999990) (hk : ∀ s w1, EndS s → s.length ≤ 14 → SB w1 sp code (i + 3) → Fm sp [68] w0 w1 → X .normal Q Tryz.f26.ntmps [(2, str s)] w1) (w : World) (hS : SB w sp code (i + 2)) (hF : Fm sp [68] w0 w) (s1 : Bs) (hs1 : BL s1 ∧ s1.length ≤ 2) (r2 : Nat) (hr2 : r2 < 5) (b2 : Nat) (hb2 : w.heap[b2]? = some (.cells (strs cmTexts) 9 (0, 0))) :
    WD endOps Q Tryz.f26.ntmps (fun _ => True) 8 ⟨[true, true, true, true, true, true, false, false, false, true, false, false, false, false, false]⟩ [(3, .pointer (some ⟨sp, 0, none⟩)), (6, .pointer (some ⟨sp, 0, none⟩)), (12, .pointer (some ⟨sp, 0, none⟩)), (4, str s1), (8, .pointer (some ⟨b2, r2, none⟩))] w := by
  refine WD.a3 6 8 10 (by kernel_rfl) ?_ ?_ ?_
  · obtain ⟨s2, hm2, hc2⟩ := tx_get hb2 hr2
    have hs2 := cmTexts_ok s2 hm2
    refine WDo.v rfl rfl (fun a hf => ldA_run hf rfl hc2) trivial rfl ?_
    refine WD.tr 7 rfl (by kernel_rfl) POk.ok trivial rfl (fun w2 _ a hf => boA_run hf rfl (add_str s1 s2 (by omega) _ _)) rfl ?_
    exact WD.weaken (L' := [(3, .pointer (some ⟨sp, 0, none⟩)), (6, .pointer (some ⟨sp, 0, none⟩)), (12, .pointer (some ⟨sp, 0, none⟩)), (10, str (s1 ++ s2))]) (by refine ⟨rfl, rfl, rfl, rfl, trivial⟩) (end_21010 sp code i w0 hi hk w hS hF s1 hs1 s2 hs2)
  · have hA := alloc_al w (.cells (strs nlTexts) 9 (0, 0))
    refine WDo.v (w' := w.alloc (.cells (strs nlTexts) 9 (0, 0))) rfl rfl (fun a hf => by rw [bsA_run hf rfl]; simp only [Sem.run_bind, bsS3 [10] [10] [13, 10], Result.andThen_ok, Sem.run_pure]; rfl) trivial rfl ?_
    generalize w.alloc (.cells (strs nlTexts) 9 (0, 0)) = w1 at hA
    have hlt := hS.lt
    have hb2 := hA.keep hb2
    have hb8 := hA.at_
    have hF1 : Fm sp [68] w w1 := hA.fm (by omega)
    have hS := hS.fm (hA.fm (B := 0) (T := []) (Nat.zero_le _)) (by simp) (by simp)
    have hF := hF.trans hF1
    generalize w.heap.size = b8 at hb8
    exact WD.weaken (L' := [(3, .pointer (some ⟨sp, 0, none⟩)), (6, .pointer (some ⟨sp, 0, none⟩)), (12, .pointer (some ⟨sp, 0, none⟩)), (4, str s1), (11, .slice (some ⟨b8, 0, none⟩) 3 3), (8, .pointer (some ⟨b2, r2, none⟩))]) (by refine ⟨rfl, rfl, rfl, rfl, rfl, rfl, trivial⟩) (end_21100 sp code i w0 hi hk w1 hS hF s1 hs1 r2 hr2 b2 hb2 b8 hb8)
  · refine WDo.c rfl rfl rfl rfl (pick_any sp code (i + 2) 3 w hS (by omega) (by omega)) ?_
    rintro _ w1 ⟨rfl, hS1, hF1⟩
    have hr3 : pkv code (i + 2) % 3 < 3 := Nat.mod_lt _ (by omega)
    generalize pkv code (i + 2) % 3 = r3 at hr3
    refine ⟨_, _, rfl, rfl, trivial, ?_⟩
    have hb2 := hF1.keep _ _ hb2 (by simp [tag])
    have hS := hS1
    have hF := hF.trans hF1
    exact WD.weaken (L' := [(3, .pointer (some ⟨sp, 0, none⟩)), (6, .pointer (some ⟨sp, 0, none⟩)), (12, .pointer (some ⟨sp, 0, none⟩)), (4, str s1), (13, .int .i64 (r3 : Int)), (8, .pointer (some ⟨b2, r2, none⟩))]) (by refine ⟨rfl, rfl, rfl, rfl, rfl, rfl, trivial⟩) (end_31000 sp code i w0 hi hk w1 hS hF s1 hs1 r2 hr2 r3 hr3 b2 hb2)
set_option maxRecDepth 10000 in
set_option maxHeartbeats 4000000 in
theorem end_30000 (hi : i ≤ 999999990) (hk : ∀ s w1, EndS s → s.length ≤ 14 → SB w1 sp code (i + 3) → Fm sp [68] w0 w1 → X .normal Q Tryz.f26.ntmps [(2, str s)] w1) (w : World) (hS : SB w sp code (i + 3)) (hF : Fm sp [68] w0 w) (s1 : Bs) (hs1 : BL s1 ∧ s1.length ≤ 2) (r2 : Nat) (hr2 : r2 < 5) (r3 : Nat) (hr3 : r3 < 3) :
    WD endOps Q Tryz.f26.ntmps (fun _ => True) 9 ⟨[true, true, false, true, true, false, false, false, false, true, true, false, false, false, false]⟩ [(3, .pointer (some ⟨sp, 0, none⟩)), (6, .pointer (some ⟨sp, 0, none⟩)), (12, .pointer (some ⟨sp, 0, none⟩)), (4, str s1), (7, .int .i64 (r2 : Int)), (13, .int .i64 (r3 : Int))] w := by
  refine WD.a2 2 8 (by kernel_rfl) ?_ ?_
  · have hA := alloc_al w (.cells (strs cmTexts) 9 (0, 0))
    refine WDo.v (w' := w.alloc (.cells (strs cmTexts) 9 (0, 0))) rfl rfl (fun a hf => by rw [bsA_run hf rfl]; simp only [Sem.run_bind, bsS5 [] [] [35, 32, 97, 32, 114, 101, 109, 97, 114, 107] [35] [35, 61, 32, 91, 120, 93, 32, 34, 32, 39], Result.andThen_ok, Sem.run_pure]; rfl) trivial rfl ?_
    generalize w.alloc (.cells (strs cmTexts) 9 (0, 0)) = w1 at hA
    have hlt := hS.lt
    have hb2 := hA.at_
    have hF1 : Fm sp [68] w w1 := hA.fm (by omega)
    have hS := hS.fm (hA.fm (B := 0) (T := []) (Nat.zero_le _)) (by simp) (by simp)
    have hF := hF.trans hF1
    generalize w.heap.size = b2 at hb2
    refine WD.ti 5 r2 rfl (by kernel_rfl) POk.ok trivial rfl rfl rfl hr2 (by rw [Nat.zero_add, Nat.mul_one]; rfl) ?_
    exact WD.weaken (L' := [(3, .pointer (some ⟨sp, 0, none⟩)), (6, .pointer (some ⟨sp, 0, none⟩)), (12, .pointer (some ⟨sp, 0, none⟩)), (4, str s1), (13, .int .i64 (r3 : Int)), (8, .pointer (some ⟨b2, r2, none⟩))]) (by refine ⟨rfl, rfl, rfl, rfl, rfl, rfl, trivial⟩) (end_31000 sp code i w0 hi hk w1 hS hF s1 hs1 r2 hr2 r3 hr3 b2 hb2)
  · have hA := alloc_al w (.cells (strs nlTexts) 9 (0, 0))
    refine WDo.v (w' := w.alloc (.cells (strs nlTexts) 9 (0, 0))) rfl rfl (fun a hf => by rw [bsA_run hf rfl]; simp only [Sem.run_bind, bsS3 [10] [10] [13, 10], Result.andThen_ok, Sem.run_pure]; rfl) trivial rfl ?_
    generalize w.alloc (.cells (strs nlTexts) 9 (0, 0)) = w1 at hA
    have hlt := hS.lt
    have hb8 := hA.at_
    have hF1 : Fm sp [68] w w1 := hA.fm (by omega)
    have hS := hS.fm (hA.fm (B := 0) (T := []) (Nat.zero_le _)) (by simp) (by simp)
    have hF := hF.trans hF1
    generalize w.heap.size = b8 at hb8
    refine WD.ti 11 r3 rfl (by kernel_rfl) POk.ok trivial rfl rfl rfl hr3 (by rw [Nat.zero_add, Nat.mul_one]; rfl) ?_
    exact WD.weaken (L' := [(3, .pointer (some ⟨sp, 0, none⟩)), (6, .pointer (some ⟨sp, 0, none⟩)), (12, .pointer (some ⟨sp, 0, none⟩)), (4, str s1), (7, .int .i64 (r2 : Int)), (14, .pointer (some ⟨b8, r3, none⟩))]) (by refine ⟨rfl, rfl, rfl, rfl, rfl, rfl, trivial⟩) (end_30100 sp code i w0 hi hk w1 hS hF s1 hs1 r2 hr2 r3 hr3 b8 hb8)
set_option maxRecDepth 10000 in
set_option maxHeartbeats 4000000 in
theorem end_01100 (hi : i ≤ 999999990) (hk : ∀ s w1, EndS s → s.length ≤ 14 → SB w1 sp code (i + 3) → Fm sp [68] w0 w1 → X .normal Q Tryz.f26.ntmps [(2, str s)] w1) (w : World) (hS : SB w sp code (i + 0)) (hF : Fm sp [68] w0 w) (b2 : Nat) (hb2 : w.heap[b2]? = some (.cells (strs cmTexts) 9 (0, 0))) (b8 : Nat) (hb8 : w.heap[b8]? = some (.cells (strs nlTexts) 9 (0, 0))) :
    WD endOps Q Tryz.f26.ntmps (fun _ => True) 10 ⟨[true, false, true, true, false, false, false, false, true, true, false, false, false, false, false]⟩ [(3, .pointer (some ⟨sp, 0, none⟩)), (6, .pointer (some ⟨sp, 0, none⟩)), (12, .pointer (some ⟨sp, 0, none⟩)), (5, .slice (some ⟨b2, 0, none⟩) 5 5), (11, .slice (some ⟨b8, 0, none⟩) 3 3)] w := by
  refine WD.a1 1 (by kernel_rfl) ?_
  · refine WDo.c rfl rfl rfl rfl (blanks_any sp code (i + 0) w hS (by omega)) ?_
    rintro _ w1 ⟨s1, rfl, hs1, hs1l, hS1, hF1⟩
    have hs1 := And.intro hs1 hs1l
    refine ⟨_, _, rfl, rfl, trivial, ?_⟩
    have hb2 := hF1.keep _ _ hb2 (by simp [tag])
    have hb8 := hF1.keep _ _ hb8 (by simp [tag])
    have hS := hS1
    have hF := hF.trans hF1
    exact WD.weaken (L' := [(3, .pointer (some ⟨sp, 0, none⟩)), (6, .pointer (some ⟨sp, 0, none⟩)), (12, .pointer (some ⟨sp, 0, none⟩)), (4, str s1), (5, .slice (some ⟨b2, 0, none⟩) 5 5), (11, .slice (some ⟨b8, 0, none⟩) 3 3)]) (by refine ⟨rfl, rfl, rfl, rfl, rfl, rfl, trivial⟩) (end_11100 sp code i w0 hi hk w1 hS hF s1 hs1 b2 hb2 b8 hb8)
set_option maxRecDepth 10000 in
set_option maxHeartbeats 4000000 in
theorem end_10100 (hi : i ≤ 999999990) (hk : ∀ s w1, EndS s → s.length ≤ 14 → SB w1 sp code (i + 3) → Fm sp [68] w0 w1 → X .normal Q Tryz.f26.ntmps [(2, str s)] w1) (w : World) (hS : SB w sp code (i + 1)) (hF : Fm sp [68] w0 w) (s1 : Bs) (hs1 : BL s1 ∧ s1.length ≤ 2) (b8 : Nat) (hb8 : w.heap[b8]? = some (.cells (strs nlTexts) 9 (0, 0))) :
    WD endOps Q Tryz.f26.ntmps (fun _ => True) 10 ⟨[true, true, false, true, false, false, false, false, true, true, false, false, false, false, false]⟩ [(3, .pointer (some ⟨sp, 0, none⟩)), (6, .pointer (some ⟨sp, 0, none⟩)), (12, .pointer (some ⟨sp, 0, none⟩)), (4, str s1), (11, .slice (some ⟨b8, 0, none⟩) 3 3)] w := by
  refine WD.a2 2 4 (by kernel_rfl) ?_ ?_
  · have hA := alloc_al w (.cells (strs cmTexts) 9 (0, 0))
    refine WDo.v (w' := w.alloc (.cells (strs cmTexts) 9 (0, 0))) rfl rfl (fun a hf => by rw [bsA_run hf rfl]; simp only [Sem.run_bind, bsS5 [] [] [35, 32, 97, 32, 114, 101, 109, 97, 114, 107] [35] [35, 61, 32, 91, 120, 93, 32, 34, 32, 39], Result.andThen_ok, Sem.run_pure]; rfl) trivial rfl ?_
    generalize w.alloc (.cells (strs cmTexts) 9 (0, 0)) = w1 at hA
    have hlt := hS.lt
    have hb8 := hA.keep hb8
    have hb2 := hA.at_
    have hF1 : Fm sp [68] w w1 := hA.fm (by omega)
    have hS := hS.fm (hA.fm (B := 0) (T := []) (Nat.zero_le _)) (by simp) (by simp)
    have hF := hF.trans hF1
    generalize w.heap.size = b2 at hb2
    exact WD.weaken (L' := [(3, .pointer (some ⟨sp, 0, none⟩)), (6, .pointer (some ⟨sp, 0, none⟩)), (12, .pointer (some ⟨sp, 0, none⟩)), (4, str s1), (5, .slice (some ⟨b2, 0, none⟩) 5 5), (11, .slice (some ⟨b8, 0, none⟩) 3 3)]) (by refine ⟨rfl, rfl, rfl, rfl, rfl, rfl, trivial⟩) (end_11100 sp code i w0 hi hk w1 hS hF s1 hs1 b2 hb2 b8 hb8)
  · refine WDo.c rfl rfl rfl rfl (pick_any sp code (i + 1) 5 w hS (by omega) (by omega)) ?_
    rintro _ w1 ⟨rfl, hS1, hF1⟩
    have hr2 : pkv code (i + 1) % 5 < 5 := Nat.mod_lt _ (by omega)
    generalize pkv code (i + 1) % 5 = r2 at hr2
    refine ⟨_, _, rfl, rfl, trivial, ?_⟩
    have hb8 := hF1.keep _ _ hb8 (by simp [tag])
    have hS := hS1
    have hF := hF.trans hF1
    exact WD.weaken (L' := [(3, .pointer (some ⟨sp, 0, none⟩)), (6, .pointer (some ⟨sp, 0, none⟩)), (12, .pointer (some ⟨sp, 0, none⟩)), (4, str s1), (7, .int .i64 (r2 : Int)), (11, .slice (some ⟨b8, 0, none⟩) 3 3)]) (by refine ⟨rfl, rfl, rfl, rfl, rfl, rfl, trivial⟩) (end_20100 sp code i w0 hi hk w1 hS hF s1 hs1 r2 hr2 b8 hb8)
set_option maxRecDepth 10000 in
set_option maxHeartbeats 4000000 in
theorem end_11000 (hi : i ≤ 999999990) (hk : ∀ s w1, EndS s → s.length ≤ 14 → SB w1 sp code (i + 3) → Fm sp [68] w0 w1 → X .normal Q Tryz.f26.ntmps [(2, str s)] w1) (w : World) (hS : SB w sp code (i + 1)) (hF : Fm sp [68] w0 w) (s1 : Bs) (hs1 : BL s1 ∧ s1.length ≤ 2) (b2 : Nat) (hb2 : w.heap[b2]? = some (.cells (strs cmTexts) 9 (0, 0))) :
    WD endOps Q Tryz.f26.ntmps (fun _ => True) 10 ⟨[true, true, true, true, false, false, false, false, false, true, false, false, false, false, false]⟩ [(3, .pointer (some ⟨sp, 0, none⟩)), (6, .pointer (some ⟨sp, 0, none⟩)), (12, .pointer (some ⟨sp, 0, none⟩)), (4, str s1), (5, .slice (some ⟨b2, 0, none⟩) 5 5)] w := by
  refine WD.a2 4 8 (by kernel_rfl) ?_ ?_
  · refine WDo.c rfl rfl rfl rfl (pick_any sp code (i + 1) 5 w hS (by omega) (by omega)) ?_
    rintro _ w1 ⟨rfl, hS1, hF1⟩
    have hr2 : pkv code (i + 1) % 5 < 5 := Nat.mod_lt _ (by omega)
    generalize pkv code (i + 1) % 5 = r2 at hr2
    refine ⟨_, _, rfl, rfl, trivial, ?_⟩
    have hb2 := hF1.keep _ _ hb2 (by simp [tag])
    have hS := hS1
    have hF := hF.trans hF1
    refine WD.ti 5 r2 rfl (by kernel_rfl) POk.ok trivial rfl rfl rfl hr2 (by rw [Nat.zero_add, Nat.mul_one]; rfl) ?_
    exact WD.weaken (L' := [(3, .pointer (some ⟨sp, 0, none⟩)), (6, .pointer (some ⟨sp, 0, none⟩)), (12, .pointer (some ⟨sp, 0, none⟩)), (4, str s1), (8, .pointer (some ⟨b2, r2, none⟩))]) (by refine ⟨rfl, rfl, rfl, rfl, rfl, trivial⟩) (end_21000 sp code i w0 hi hk w1 hS hF s1 hs1 r2 hr2 b2 hb2)
  · have hA := alloc_al w (.cells (strs nlTexts) 9 (0, 0))
    refine WDo.v (w' := w.alloc (.cells (strs nlTexts) 9 (0, 0))) rfl rfl (fun a hf => by rw [bsA_run hf rfl]; simp only [Sem.run_bind, bsS3 [10] [10] [13, 10], Result.andThen_ok, Sem.run_pure]; rfl) trivial rfl ?_
    generalize w.alloc (.cells (strs nlTexts) 9 (0, 0)) = w1 at hA
    have hlt := hS.lt
    have hb2 := hA.keep hb2
    have hb8 := hA.at_
    have hF1 : Fm sp [68] w w1 := hA.fm (by omega)
    have hS := hS.fm (hA.fm (B := 0) (T := []) (Nat.zero_le _)) (by simp) (by simp)
    have hF := hF.trans hF1
    generalize w.heap.size = b8 at hb8
    exact WD.weaken (L' := [(3, .pointer (some ⟨sp, 0, none⟩)), (6, .pointer (some ⟨sp, 0, none⟩)), (12, .pointer (some ⟨sp, 0, none⟩)), (4, str s1), (5, .slice (some ⟨b2, 0, none⟩) 5 5), (11, .slice (some ⟨b8, 0, none⟩) 3 3)]) (by refine ⟨rfl, rfl, rfl, rfl, rfl, rfl, trivial⟩) (end_11100 sp code i w0 hi hk w1 hS hF s1 hs1 b2 hb2 b8 hb8)
set_option maxRecDepth 10000 in
set_option maxHeartbeats 4000000 in
theorem end_20000 (hi : i ≤ 999999990) (hk : ∀ s w1, EndS s → s.length ≤ 14 → SB w1 sp code (i + 3) → Fm sp [68] w0 w1 → X .normal Q Tryz.f26.ntmps [(2, str s)] w1) (w : World) (hS : SB w sp code (i + 2)) (hF : Fm sp [68] w0 w) (s1 : Bs) (hs1 : BL s1 ∧ s1.length ≤ 2) (r2 : Nat) (hr2 : r2 < 5) :
    WD endOps Q Tryz.f26.ntmps (fun _ => True) 10 ⟨[true, true, false, true, true, false, false, false, false, true, false, false, false, false, false]⟩ [(3, .pointer (some ⟨sp, 0, none⟩)), (6, .pointer (some ⟨sp, 0, none⟩)), (12, .pointer (some ⟨sp, 0, none⟩)), (4, str s1), (7, .int .i64 (r2 : Int))] w := by
  refine WD.a3 2 8 10 (by kernel_rfl) ?_ ?_ ?_
  · have hA := alloc_al w (.cells (strs cmTexts) 9 (0, 0))
    refine WDo.v (w' := w.alloc (.cells (strs cmTexts) 9 (0, 0))) rfl rfl (fun a hf => by rw [bsA_run hf rfl]; simp only [Sem.run_bind, bsS5 [] [] [35, 32, 97, 32, 114, 101, 109, 97, 114, 107] [35] [35, 61, 32, 91, 120, 93, 32, 34, 32, 39], Result.andThen_ok, Sem.run_pure]; rfl) trivial rfl ?_
    generalize w.alloc (.cells (strs cmTexts) 9 (0, 0)) = w1 at hA
    have hlt := hS.lt
    have hb2 := hA.at_
    have hF1 : Fm sp [68] w w1 := hA.fm (by omega)
    have hS := hS.fm (hA.fm (B := 0) (T := []) (Nat.zero_le _)) (by simp) (by simp)
    have hF := hF.trans hF1
    generalize w.heap.size = b2 at hb2
    refine WD.ti 5 r2 rfl (by kernel_rfl) POk.ok trivial rfl rfl rfl hr2 (by rw [Nat.zero_add, Nat.mul_one]; rfl) ?_
    exact WD.weaken (L' := [(3, .pointer (some ⟨sp, 0, none⟩)), (6, .pointer (some ⟨sp, 0, none⟩)), (12, .pointer (some ⟨sp, 0, none⟩)), (4, str s1), (8, .pointer (some ⟨b2, r2, none⟩))]) (by refine ⟨rfl, rfl, rfl, rfl, rfl, trivial⟩) (end_21000 sp code i w0 hi hk w1 hS hF s1 hs1 r2 hr2 b2 hb2)
  · have hA := alloc_al w (.cells (strs nlTexts) 9 (0, 0))
    refine WDo.v (w' := w.alloc (.cells (strs nlTexts) 9 (0, 0))) rfl rfl (fun a hf => by rw [bsA_run hf rfl]; simp only [Sem.run_bind, bsS3 [10] [10] [13, 10], Result.andThen_ok, Sem.run_pure]; rfl) trivial rfl ?_
    generalize w.alloc (.cells (strs nlTexts) 9 (0, 0)) = w1 at hA
    have hlt := hS.lt
    have hb8 := hA.at_
    have hF1 : Fm sp [68] w w1 := hA.fm (by omega)
    have hS := hS.fm (hA.fm (B := 0) (T := []) (Nat.zero_le _)) (by simp) (by simp)
    have hF := hF.trans hF1
    generalize w.heap.size = b8 at hb8
    exact WD.weaken (L' := [(3, .pointer (some ⟨sp, 0, none⟩)), (6, .pointer (some ⟨sp, 0, none⟩)), (12, .pointer (some ⟨sp, 0, none⟩)), (4, str s1), (7, .int .i64 (r2 : Int)), (11, .slice (some ⟨b8, 0, none⟩) 3 3)]) (by refine ⟨rfl, rfl, rfl, rfl, rfl, rfl, trivial⟩) (end_20100 sp code i w0 hi hk w1 hS hF s1 hs1 r2 hr2 b8 hb8)
  · refine WDo.c rfl rfl rfl rfl (pick_any sp code (i + 2) 3 w hS (by omega) (by omega)) ?_
    rintro _ w1 ⟨rfl, hS1, hF1⟩
    have hr3 : pkv code (i + 2) % 3 < 3 := Nat.mod_lt _ (by omega)
    generalize pkv code (i + 2) % 3 = r3 at hr3
    refine ⟨_, _, rfl, rfl, trivial, ?_⟩
    have hS := hS1
    have hF := hF.trans hF1
    exact WD.weaken (L' := [(3, .pointer (some ⟨sp, 0, none⟩)), (6, .pointer (some ⟨sp, 0, none⟩)), (12, .pointer (some ⟨sp, 0, none⟩)), (4, str s1), (7, .int .i64 (r2 : Int)), (13, .int .i64 (r3 : Int))]) (by refine ⟨rfl, rfl, rfl, rfl, rfl, rfl, trivial⟩) (end_30000 sp code i w0 hi hk w1 hS hF s1 hs1 r2 hr2 r3 hr3)
set_option maxRecDepth 10000 in
set_option maxHeartbeats 4000000 in
theorem end_00100 (hi : i ≤ 999999990) (hk : ∀ s w1, EndS s → s.length ≤ 14 → SB w1 sp code (i + 3) → Fm sp [68] w0 w1 → X .normal Q Tryz.f26.ntmps [(2, str s)] w1) (w : World) (hS : SB w sp code (i + 0)) (hF : Fm sp [68] w0 w) (b8 : Nat) (hb8 : w.heap[b8]? = some (.cells (strs nlTexts) 9 (0, 0))) :
    WD endOps Q Tryz.f26.ntmps (fun _ => True) 11 ⟨[true, false, false, true, false, false, false, false, true, true, false, false, false, false, false]⟩ [(3, .pointer (some ⟨sp, 0, none⟩)), (6, .pointer (some ⟨sp, 0, none⟩)), (12, .pointer (some ⟨sp, 0, none⟩)), (11, .slice (some ⟨b8, 0, none⟩) 3 3)] w := by
  refine WD.a2 1 2 (by kernel_rfl) ?_ ?_
  · refine WDo.c rfl rfl rfl rfl (blanks_any sp code (i + 0) w hS (by omega)) ?_
    rintro _ w1 ⟨s1, rfl, hs1, hs1l, hS1, hF1⟩
    have hs1 := And.intro hs1 hs1l
    refine ⟨_, _, rfl, rfl, trivial, ?_⟩
    have hb8 := hF1.keep _ _ hb8 (by simp [tag])
    have hS := hS1
    have hF := hF.trans hF1
    exact WD.weaken (L' := [(3, .pointer (some ⟨sp, 0, none⟩)), (6, .pointer (some ⟨sp, 0, none⟩)), (12, .pointer (some ⟨sp, 0, none⟩)), (4, str s1), (11, .slice (some ⟨b8, 0, none⟩) 3 3)]) (by refine ⟨rfl, rfl, rfl, rfl, rfl, trivial⟩) (end_10100 sp code i w0 hi hk w1 hS hF s1 hs1 b8 hb8)
  · have hA := alloc_al w (.cells (strs cmTexts) 9 (0, 0))
    refine WDo.v (w' := w.alloc (.cells (strs cmTexts) 9 (0, 0))) rfl rfl (fun a hf => by rw [bsA_run hf rfl]; simp only [Sem.run_bind, bsS5 [] [] [35, 32, 97, 32, 114, 101, 109, 97, 114, 107] [35] [35, 61, 32, 91, 120, 93, 32, 34, 32, 39], Result.andThen_ok, Sem.run_pure]; rfl) trivial rfl ?_
    generalize w.alloc (.cells (strs cmTexts) 9 (0, 0)) = w1 at hA
    have hlt := hS.lt
    have hb8 := hA.keep hb8
    have hb2 := hA.at_
    have hF1 : Fm sp [68] w w1 := hA.fm (by omega)
    have hS := hS.fm (hA.fm (B := 0) (T := []) (Nat.zero_le _)) (by simp) (by simp)
    have hF := hF.trans hF1
    generalize w.heap.size = b2 at hb2
    exact WD.weaken (L' := [(3, .pointer (some ⟨sp, 0, none⟩)), (6, .pointer (some ⟨sp, 0, none⟩)), (12, .pointer (some ⟨sp, 0, none⟩)), (5, .slice (some ⟨b2, 0, none⟩) 5 5), (11, .slice (some ⟨b8, 0, none⟩) 3 3)]) (by refine ⟨rfl, rfl, rfl, rfl, rfl, trivial⟩) (end_01100 sp code i w0 hi hk w1 hS hF b2 hb2 b8 hb8)
set_option maxRecDepth 10000 in
set_option maxHeartbeats 4000000 in
theorem end_01000 (hi : i ≤ 999999990) (hk : ∀ s w1, EndS s → s.length ≤ 14 → SB w1 sp code (i + 3) → Fm sp [68] w0 w1 → X .normal Q Tryz.f26.ntmps [(2, str s)] w1) (w : World) (hS : SB w sp code (i + 0)) (hF : Fm sp [68] w0 w) (b2 : Nat) (hb2 : w.heap[b2]? = some (.cells (strs cmTexts) 9 (0, 0))) :
    WD endOps Q Tryz.f26.ntmps (fun _ => True) 11 ⟨[true, false, true, true, false, false, false, false, false, true, false, false, false, false, false]⟩ [(3, .pointer (some ⟨sp, 0, none⟩)), (6, .pointer (some ⟨sp, 0, none⟩)), (12, .pointer (some ⟨sp, 0, none⟩)), (5, .slice (some ⟨b2, 0, none⟩) 5 5)] w := by
  refine WD.a2 1 8 (by kernel_rfl) ?_ ?_
  · refine WDo.c rfl rfl rfl rfl (blanks_any sp code (i + 0) w hS (by omega)) ?_
    rintro _ w1 ⟨s1, rfl, hs1, hs1l, hS1, hF1⟩
    have hs1 := And.intro hs1 hs1l
    refine ⟨_, _, rfl, rfl, trivial, ?_⟩
    have hb2 := hF1.keep _ _ hb2 (by simp [tag])
    have hS := hS1
    have hF := hF.trans hF1
    exact WD.weaken (L' := [(3, .pointer (some ⟨sp, 0, none⟩)), (6, .pointer (some ⟨sp, 0, none⟩)), (12, .pointer (some ⟨sp, 0, none⟩)), (4, str s1), (5, .slice (some ⟨b2, 0, none⟩) 5 5)]) (by refine ⟨rfl, rfl, rfl, rfl, rfl, trivial⟩) (end_11000 sp code i w0 hi hk w1 hS hF s1 hs1 b2 hb2)
  · have hA := alloc_al w (.cells (strs nlTexts) 9 (0, 0))
    refine WDo.v (w' := w.alloc (.cells (strs nlTexts) 9 (0, 0))) rfl rfl (fun a hf => by rw [bsA_run hf rfl]; simp only [Sem.run_bind, bsS3 [10] [10] [13, 10], Result.andThen_ok, Sem.run_pure]; rfl) trivial rfl ?_
    generalize w.alloc (.cells (strs nlTexts) 9 (0, 0)) = w1 at hA
    have hlt := hS.lt
    have hb2 := hA.keep hb2
    have hb8 := hA.at_
    have hF1 : Fm sp [68] w w1 := hA.fm (by omega)
    have hS := hS.fm (hA.fm (B := 0) (T := []) (Nat.zero_le _)) (by simp) (by simp)
    have hF := hF.trans hF1
    generalize w.heap.size = b8 at hb8
    exact WD.weaken (L' := [(3, .pointer (some ⟨sp, 0, none⟩)), (6, .pointer (some ⟨sp, 0, none⟩)), (12, .pointer (some ⟨sp, 0, none⟩)), (5, .slice (some ⟨b2, 0, none⟩) 5 5), (11, .slice (some ⟨b8, 0, none⟩) 3 3)]) (by refine ⟨rfl, rfl, rfl, rfl, rfl, trivial⟩) (end_01100 sp code i w0 hi hk w1 hS hF b2 hb2 b8 hb8)
set_option maxRecDepth 10000 in
set_option maxHeartbeats 4000000 in
theorem end_10000 (hi : i ≤ 999999990) (hk : ∀ s w1, EndS s → s.length ≤ 14 → SB w1 sp code (i + 3) → Fm sp [68] w0 w1 → X .normal Q Tryz.f26.ntmps [(2, str s)] w1) (w : World) (hS : SB w sp code (i + 1)) (hF : Fm sp [68] w0 w) (s1 : Bs) (hs1 : BL s1 ∧ s1.length ≤ 2) :
    WD endOps Q Tryz.f26.ntmps (fun _ => True) 11 ⟨[true, true, false, true, false, false, false, false, false, true, false, false, false, false, false]⟩ [(3, .pointer (some ⟨sp, 0, none⟩)), (6, .pointer (some ⟨sp, 0, none⟩)), (12, .pointer (some ⟨sp, 0, none⟩)), (4, str s1)] w := by
  refine WD.a3 2 4 8 (by kernel_rfl) ?_ ?_ ?_
  · have hA := alloc_al w (.cells (strs cmTexts) 9 (0, 0))
    refine WDo.v (w' := w.alloc (.cells (strs cmTexts) 9 (0, 0))) rfl rfl (fun a hf => by rw [bsA_run hf rfl]; simp only [Sem.run_bind, bsS5 [] [] [35, 32, 97, 32, 114, 101, 109, 97, 114, 107] [35] [35, 61, 32, 91, 120, 93, 32, 34, 32, 39], Result.andThen_ok, Sem.run_pure]; rfl) trivial rfl ?_
    generalize w.alloc (.cells (strs cmTexts) 9 (0, 0)) = w1 at hA
    have hlt := hS.lt
    have hb2 := hA.at_
    have hF1 : Fm sp [68] w w1 := hA.fm (by omega)
    have hS := hS.fm (hA.fm (B := 0) (T := []) (Nat.zero_le _)) (by simp) (by simp)
    have hF := hF.trans hF1
    generalize w.heap.size = b2 at hb2
    exact WD.weaken (L' := [(3, .pointer (some ⟨sp, 0, none⟩)), (6, .pointer (some ⟨sp, 0, none⟩)), (12, .pointer (some ⟨sp, 0, none⟩)), (4, str s1), (5, .slice (some ⟨b2, 0, none⟩) 5 5)]) (by refine ⟨rfl, rfl, rfl, rfl, rfl, trivial⟩) (end_11000 sp code i w0 hi hk w1 hS hF s1 hs1 b2 hb2)
  · refine WDo.c rfl rfl rfl rfl (pick_any sp code (i + 1) 5 w hS (by omega) (by omega)) ?_
    rintro _ w1 ⟨rfl, hS1, hF1⟩
    have hr2 : pkv code (i + 1) % 5 < 5 := Nat.mod_lt _ (by omega)
    generalize pkv code (i + 1) % 5 = r2 at hr2
    refine ⟨_, _, rfl, rfl, trivial, ?_⟩
    have hS := hS1
    have hF := hF.trans hF1
    exact WD.weaken (L' := [(3, .pointer (some ⟨sp, 0, none⟩)), (6, .pointer (some ⟨sp, 0, none⟩)), (12, .pointer (some ⟨sp, 0, none⟩)), (4, str s1), (7, .int .i64 (r2 : Int))]) (by refine ⟨rfl, rfl, rfl, rfl, rfl, trivial⟩) (end_20000 sp code i w0 hi hk w1 hS hF s1 hs1 r2 hr2)
  · have hA := alloc_al w (.cells (strs nlTexts) 9 (0, 0))
    refine WDo.v (w' := w.alloc (.cells (strs nlTexts) 9 (0, 0))) rfl rfl (fun a hf => by rw [bsA_run hf rfl]; simp only [Sem.run_bind, bsS3 [10] [10] [13, 10], Result.andThen_ok, Sem.run_pure]; rfl) trivial rfl ?_
    generalize w.alloc (.cells (strs nlTexts) 9 (0, 0)) = w1 at hA
    have hlt := hS.lt
    have hb8 := hA.at_
    have hF1 : Fm sp [68] w w1 := hA.fm (by omega)
    have hS := hS.fm (hA.fm (B := 0) (T := []) (Nat.zero_le _)) (by simp) (by simp)
    have hF := hF.trans hF1
    generalize w.heap.size = b8 at hb8
    exact WD.weaken (L' := [(3, .pointer (some ⟨sp, 0, none⟩)), (6, .pointer (some ⟨sp, 0, none⟩)), (12, .pointer (some ⟨sp, 0, none⟩)), (4, str s1), (11, .slice (some ⟨b8, 0, none⟩) 3 3)]) (by refine ⟨rfl, rfl, rfl, rfl, rfl, trivial⟩) (end_10100 sp code i w0 hi hk w1 hS hF s1 hs1 b8 hb8)
set_option maxRecDepth 10000 in
set_option maxHeartbeats 4000000 in
theorem end_00000 (hi : i ≤ 999999990) (hk : ∀ s w1, EndS s → s.length ≤ 14 → SB w1 sp code (i + 3) → Fm sp [68] w0 w1 → X .normal Q Tryz.f26.ntmps [(2, str s)] w1) (w : World) (hS : SB w sp code (i + 0)) (hF : Fm sp [68] w0 w) :
    WD endOps Q Tryz.f26.ntmps (fun _ => True) 12 ⟨[true, false, false, true, false, false, false, false, false, true, false, false, false, false, false]⟩ [(3, .pointer (some ⟨sp, 0, none⟩)), (6, .pointer (some ⟨sp, 0, none⟩)), (12, .pointer (some ⟨sp, 0, none⟩))] w := by
  refine WD.a3 1 2 8 (by kernel_rfl) ?_ ?_ ?_
  · refine WDo.c rfl rfl rfl rfl (blanks_any sp code (i + 0) w hS (by omega)) ?_
    rintro _ w1 ⟨s1, rfl, hs1, hs1l, hS1, hF1⟩
    have hs1 := And.intro hs1 hs1l
    refine ⟨_, _, rfl, rfl, trivial, ?_⟩
    have hS := hS1
    have hF := hF.trans hF1
    exact WD.weaken (L' := [(3, .pointer (some ⟨sp, 0, none⟩)), (6, .pointer (some ⟨sp, 0, none⟩)), (12, .pointer (some ⟨sp, 0, none⟩)), (4, str s1)]) (by refine ⟨rfl, rfl, rfl, rfl, trivial⟩) (end_10000 sp code i w0 hi hk w1 hS hF s1 hs1)
  · have hA := alloc_al w (.cells (strs cmTexts) 9 (0, 0))
    refine WDo.v (w' := w.alloc (.cells (strs cmTexts) 9 (0, 0))) rfl rfl (fun a hf => by rw [bsA_run hf rfl]; simp only [Sem.run_bind, bsS5 [] [] [35, 32, 97, 32, 114, 101, 109, 97, 114, 107] [35] [35, 61, 32, 91, 120, 93, 32, 34, 32, 39], Result.andThen_ok, Sem.run_pure]; rfl) trivial rfl ?_
    generalize w.alloc (.cells (strs cmTexts) 9 (0, 0)) = w1 at hA
    have hlt := hS.lt
    have hb2 := hA.at_
    have hF1 : Fm sp [68] w w1 := hA.fm (by omega)
    have hS := hS.fm (hA.fm (B := 0) (T := []) (Nat.zero_le _)) (by simp) (by simp)
    have hF := hF.trans hF1
    generalize w.heap.size = b2 at hb2
    exact WD.weaken (L' := [(3, .pointer (some ⟨sp, 0, none⟩)), (6, .pointer (some ⟨sp, 0, none⟩)), (12, .pointer (some ⟨sp, 0, none⟩)), (5, .slice (some ⟨b2, 0, none⟩) 5 5)]) (by refine ⟨rfl, rfl, rfl, rfl, trivial⟩) (end_01000 sp code i w0 hi hk w1 hS hF b2 hb2)
  · have hA := alloc_al w (.cells (strs nlTexts) 9 (0, 0))
    refine WDo.v (w' := w.alloc (.cells (strs nlTexts) 9 (0, 0))) rfl rfl (fun a hf => by rw [bsA_run hf rfl]; simp only [Sem.run_bind, bsS3 [10] [10] [13, 10], Result.andThen_ok, Sem.run_pure]; rfl) trivial rfl ?_
    generalize w.alloc (.cells (strs nlTexts) 9 (0, 0)) = w1 at hA
    have hlt := hS.lt
    have hb8 := hA.at_
    have hF1 : Fm sp [68] w w1 := hA.fm (by omega)
    have hS := hS.fm (hA.fm (B := 0) (T := []) (Nat.zero_le _)) (by simp) (by simp)
    have hF := hF.trans hF1
    generalize w.heap.size = b8 at hb8
    exact WD.weaken (L' := [(3, .pointer (some ⟨sp, 0, none⟩)), (6, .pointer (some ⟨sp, 0, none⟩)), (12, .pointer (some ⟨sp, 0, none⟩)), (11, .slice (some ⟨b8, 0, none⟩) 3 3)]) (by refine ⟨rfl, rfl, rfl, rfl, trivial⟩) (end_00100 sp code i w0 hi hk w1 hS hF b8 hb8)
end

set_option maxRecDepth 10000 in
set_option maxHeartbeats 8000000 in
theorem end_any (sp : Nat) (code : Bs) (i : Nat) (w : World) (hS : SB w sp code i) (hi : i ≤ 999999990) :
    Calls PP 26 #[.pointer (some ⟨sp, 0, none⟩)] w fun e w' => ∃ s, e = .returned (str s) ∧ EndS s ∧ s.length ≤ 14 ∧ SB w' sp code (i + 3) ∧ Fm sp [68] w w' := by
  refine enter (L := [(0, .pointer (some ⟨sp, 0, none⟩))]) Tryz.func26 rfl rfl rfl ⟨rfl, trivial⟩ ?_
  repeat (first | refine WL.pp rfl ?_ | refine WL.ns ?_ | refine WC.sr ?_ | refine WC.seq ?_)
  refine WC.draw (fun _ => True) ?_
  refine WD.tp 0 rfl (by kernel_rfl) POk.ok trivial rfl ?_
  refine WD.tp 3 rfl (by kernel_rfl) POk.ok trivial rfl ?_
  refine WD.tp 9 rfl (by kernel_rfl) POk.ok trivial rfl ?_
  refine WD.weaken (L' := [(3, .pointer (some ⟨sp, 0, none⟩)), (6, .pointer (some ⟨sp, 0, none⟩)), (12, .pointer (some ⟨sp, 0, none⟩))]) ⟨rfl, rfl, rfl, trivial⟩ ?_
  refine end_00000 sp code i w hi (fun s w1 h1 h2 h3 h4 => ?_) w.drew (hS.fm (Fm.refl 0 [] w).drew (by simp) (by simp)) (Fm.refl _ _ _).drew
  repeat (first | refine X.sn ?_ | refine WC.ret ?_)
  exact X.ret_ rfl rfl ⟨s, rfl, h1, h2, h3, h4⟩

theorem Pot.to (code : Bs) {i j k : Nat} (h : j = i + k) : Pot code j ≤ Pot code i + k := by
  subst h
  unfold Pot
  omega

theorem end_wro (sp : Nat) (code : Bs) (i : Nat) (w : World) (hS : SB w sp code i) (hi : i ≤ 999999990) : Calls PP 26 #[.pointer (some ⟨sp, 0, none⟩)] w (Wro sp code i 17 EndS w) :=
  (end_any sp code i w hS hi).mono (by
    rintro e w' ⟨s, rfl, h1, h2, h3, h4⟩
    exact ⟨s, i + 3, rfl, h1, h3, h4, by have := Pot.to code (show i + 3 = i + 3 from rfl); omega⟩)

theorem Wro.pos {sp : Nat} {code : Bs} {i K : Nat} {P : Bs → Prop} {w w' : World} {e : Ending} (h : Wro sp code i K P w e w') : ∃ s j, e = .returned (str s) ∧ P s ∧ SB w' sp code j ∧ Fm sp [68] w w' ∧ s.length + Pot code j ≤ Pot code i + K ∧ j ≤ Pot code j := by
  obtain ⟨s, j, h1, h2, h3, h4, h5⟩ := h
  exact ⟨s, j, h1, h2, h3, h4, h5, Pot.ge _ _⟩

set_option maxRecDepth 10000 in
set_option maxHeartbeats 8000000 in
theorem gap_any (sp : Nat) (code : Bs) (i : Nat) (w : World) (hS : SB w sp code i) (hi : i ≤ 999999980) : Calls PP 57 #[.pointer (some ⟨sp, 0, none⟩)] w (Wro sp code i 21 GapS w) := by
  refine enter (L := [(0, .pointer (some ⟨sp, 0, none⟩))]) Tryz.func57 rfl rfl rfl ⟨rfl, trivial⟩ ?_
  have p1 := Pot.succ code i
  repeat (first | refine WL.pp rfl ?_ | refine WL.ns ?_ | refine WC.sr ?_ | refine WC.seq ?_)
  refine WL.call rfl rfl rfl (pick_any sp code i 4 w hS (by omega) (by omega)) ?_
  rintro e w1 ⟨rfl, hS1, hF1⟩
  refine ⟨_, _, rfl, rfl, ?_⟩
  by_cases h0 : pkv code i % 4 = 0
  · repeat (first | refine WL.pp rfl ?_ | refine WL.ns ?_ | refine WC.sr ?_ | refine WC.dT rfl (by first | omega | decide) ?_)
    refine WL.call rfl rfl rfl (end_any sp code (i + 1) w1 hS1 (by omega)) ?_
    rintro e w2 ⟨s2, rfl, h2, h2l, hS2, hF2⟩
    refine ⟨_, _, rfl, rfl, ?_⟩
    repeat (refine WL.pp rfl ?_)
    refine WL.call rfl rfl rfl (blanks_any sp code (i + 1 + 3) w2 hS2 (by omega)) ?_
    rintro e w3 ⟨s3, rfl, h3, h3l, hS3, hF3⟩
    refine ⟨_, _, rfl, rfl, ?_⟩
    have p5 := Pot.to code (show i + 1 + 3 + 1 = i + 5 by omega)
    repeat (first | refine WL.pp rfl ?_ | refine WL.ns ?_ | refine WL.bo rfl rfl (add_str s2 s3 (by omega) _ _) rfl ?_ | refine X.sr ?_ | refine WC.ret ?_)
    exact X.ret_ rfl rfl ⟨s2 ++ s3, _, rfl, .inr ⟨s2, s3, rfl, h2, h3⟩, hS3, (hF1.trans hF2).trans hF3, by simp only [List.length_append]; omega⟩
  · repeat (first | refine WL.pp rfl ?_ | refine WL.ns ?_ | refine WC.sr ?_ | refine WC.dF rfl (by first | omega | decide) ?_ | refine X.sn ?_ | refine WC.skip ?_)
    refine WL.call rfl rfl rfl (blanks_any sp code (i + 1) w1 hS1 (by omega)) ?_
    rintro e w3 ⟨s3, rfl, h3, h3l, hS3, hF3⟩
    refine ⟨_, _, rfl, rfl, ?_⟩
    have p2 := Pot.succ code (i + 1)
    repeat (first | refine WL.pp rfl ?_ | refine WL.ns ?_ | refine WC.ret ?_)
    exact X.ret_ rfl rfl ⟨s3, _, rfl, .inl h3, hS3, hF1.trans hF3, by omega⟩
end Go.Proofs.YtaccphdkapmdhaaGreat

