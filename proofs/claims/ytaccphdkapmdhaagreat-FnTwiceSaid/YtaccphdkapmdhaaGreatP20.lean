/- The second law: the walk. No condition. -/
import Derived.Test.YtaccphdkapmdhaaGreatP19
namespace Go.Proofs.YtaccphdkapmdhaaGreat
attribute [local irreducible] binOp IntKind.wrap Sem.run

theorem bsK2 (a b : Bs) (w : World) : (Instr.buildSlice 34 2 ⟨[(0, str a), (1, str b)]⟩).run PP w = .ok (.slice (some ⟨w.heap.size, 0, none⟩) 2 2) (w.alloc (.cells ⟨[str a, str b]⟩ 9 (0, 0))) := by kernel_rfl
theorem bdX (k : Nat) (ad : Option Addr) (n c : Nat) (x y z u : Value) (w : World) : (Instr.build 40 ⟨[(0, .int .i64 (k : Int)), (1, .slice ad n c), (2, .agg ⟨[x, y, z, u]⟩)]⟩).run PP w = .ok (.agg ⟨[.int .i64 (k : Int), .slice ad n c, x, y, z, u]⟩) w := by kernel_rfl

theorem LsV.lt {w : World} {P : Nat → Prop} {v : Value} {es : List Ex} (h : LsV w P v es) : LsV w (fun b => b < w.heap.size) v es := by
  obtain ⟨ad, cap, h1, h2⟩ := h
  refine ⟨ad, cap, h1, fun hne => ?_⟩
  obtain ⟨g, cur, h3, h4, h5⟩ := h2 hne
  exact ⟨g, cur, h3, h4, LsIs.move (Moved.up (Up.refl _ _) (fun b _ h => h)) _ _ h5⟩

mutual
theorem mk_of : ∀ (v : Val), Ok7 v → kV v ≤ 1000000000 → MkV v
  | .sc k t, h, _ => by
    simp only [Ok7] at h
    simp only [MkV]
    omega
  | .arr vs, h, hk => by
    simp only [Ok7] at h
    simp only [kV] at hk
    have := kVs_len vs
    simp only [MkV]
    exact ⟨by omega, mk_ofI vs h (by omega)⟩
  | .tbl es, h, hk => by
    simp only [Ok7] at h
    simp only [kV] at hk
    have := kVE_len es
    simp only [MkV]
    exact ⟨by omega, mk_ofE es h (by omega)⟩
theorem mk_ofI : ∀ (vs : List Val), Ok7s vs → kVs vs ≤ 1000000000 → MkI vs
  | [], _, _ => trivial
  | v :: vs, h, hk => by
    simp only [Ok7s] at h
    simp only [kVs] at hk
    simp only [MkI]
    exact ⟨mk_of v h.1 (by omega), mk_ofI vs h.2 (by omega)⟩
theorem mk_ofE : ∀ (es : List (List Bs × Val)), Ok7E es → kVE es ≤ 1000000000 → MkE es
  | [], _, _ => trivial
  | (ks, v) :: es, h, hk => by
    simp only [Ok7E] at h
    simp only [kVE] at hk
    have := kKs_len ks
    simp only [MkE]
    exact ⟨⟨h.1.1, by omega⟩, mk_of v h.2.1 (by omega), mk_ofE es h.2.2 (by omega)⟩
end

theorem OkL.mkx {es : List Ex} (h : OkL es) : ∀ x ∈ es, MkX x := fun x hx => by
  obtain ⟨⟨h1, _, _, h4⟩, h5⟩ := h.ok x hx
  unfold kX at h5
  have := kKs_len (exKeys x)
  refine ⟨h1, by omega, ?_⟩
  cases x with
  | kv ks v => exact mk_of v (h4 rfl) (by simp only [exV] at h5; omega)
  | tab ks => simp [exV, MkV]
  | atab ks => simp [exV, MkV]

set_option maxRecDepth 100000 in
set_option maxHeartbeats 64000000 in
theorem fnTwice_any (v0 : Value) (l : List Nat) (n : Nat) (w : World) (h0 : US w v0 l) (hl : ∀ n ∈ l, n < UU) (hn : n < UU) :
    Calls PP 4 #[v0, .int .u32 (n : Int)] w fun e w' => e = .returned (.bool true) ∧ Up w.heap.size w w' := by
  have g0 := h0
  obtain ⟨ad0, cap0, rfl⟩ := h0.sl
  refine enter (L := [(0, .slice ad0 l.length cap0), (1, .int .u32 (n : Int))]) Tryz.func4 rfl rfl rfl ⟨rfl, rfl, trivial⟩ ?_
  by_cases a1 : 2147483647 < l.length
  · repeat (first | refine WL.pp rfl ?_ | refine WL.ns ?_ | refine WC.sr ?_ | refine WC.dT rfl (by first | omega | decide) ?_ | refine WC.seq ?_ | refine X.sr ?_ | refine WC.ret ?_)
    exact X.ret_ rfl rfl ⟨rfl, Up.refl _ _⟩
  by_cases b1 : 100 < l.length
  · repeat (first | refine WL.pp rfl ?_ | refine WL.ns ?_ | refine WC.sr ?_ | refine WC.dT rfl (by first | omega | decide) ?_ | refine WC.dF rfl (by first | omega | decide) ?_ | refine WC.seq ?_ | refine X.sn ?_ | refine X.sr ?_ | refine WC.skip ?_ | refine WC.ret ?_)
    exact X.ret_ rfl rfl ⟨rfl, Up.refl _ _⟩
  repeat (first | refine WL.pp rfl ?_ | refine WL.ns ?_ | refine WC.sr ?_ | refine WC.dF rfl (by first | omega | decide) ?_ | refine WC.seq ?_ | refine X.sn ?_ | refine WC.skip ?_)
  refine WL.call rfl rfl rfl (linesOf_any _ l w g0 hl) ?_
  rintro e w1 ⟨lv, xs, rfl, hO1, hL1, hU1⟩
  refine ⟨_, _, rfl, rfl, ?_⟩
  have hok0 := OkL.lines l
  have hsm0 := linesOf_sm l
  have hlen0 : (linesOf l).length = min l.length 16 := by simp [linesOf, Nat.min_comm]
  have hV1 := LsV.own hO1 hL1
  generalize linesOf l = es0 at *
  have hV0 := hV1
  obtain ⟨lad, lcap, rfl, _⟩ := hV1
  have hlcap : es0.length ≤ lcap := by
    rcases hO1.2 with ⟨h, hn⟩ | ⟨g, cap, cur, h, _, _, hc, _⟩
    · omega
    · simp only [Value.slice.injEq] at h
      omega
  obtain ⟨M, hM⟩ : ∃ M, M = min l.length 12 := ⟨_, rfl⟩
  have hM12 : M ≤ 12 := by omega
  have hMe : M ≤ es0.length := by omega
  repeat (first | refine WL.pp rfl ?_ | refine WL.ns ?_ | refine WC.sr ?_ | refine WL.mn (b := 12) M rfl rfl hM rfl ?_ | refine WL.s0 M rfl rfl rfl (by omega) rfl ?_ | refine WC.seq ?_)
  have hV2 : LsV w1 (fun b => w.heap.size ≤ b) (.slice lad M lcap) (es0.take M) := hV0.cutTo M hMe
  have hlenM : (es0.take M).length = M := by rw [List.length_take]; omega
  have hok := hok0.take M
  have hsm : ∀ x ∈ es0.take M, SmX x := fun x hx => hsm0 x (List.mem_of_mem_take hx)
  generalize es0.take M = es at *
  clear hV0 hok0 hsm0 hO1 hL1
  refine WL.call rfl rfl rfl (mean_any _ _ es w1 hV2.lt (fun b h => h) hok.mkx (by omega)) ?_
  rintro e w2 ⟨st, rfl, hst, hU2⟩
  refine ⟨_, _, rfl, rfl, ?_⟩
  have hU12 : Up w.heap.size w w2 := hU1.trans (hU2.mono hU1.size)
  by_cases hs0 : st = 0
  · have hme := hst.1 hs0
    have hV3 := hV2.up hU2
    have hnm : n / 2 ^ 2 < UU := Nat.lt_of_le_of_lt (Nat.div_le_self _ _) hn
    obtain ⟨kd, hkd⟩ : ∃ kd, kd = n % 3 := ⟨_, rfl⟩
    have hkd3 : kd < 3 := by omega
    clear hV2 hst
    repeat (first | refine WL.pp rfl ?_ | refine WL.ns ?_ | refine WC.sr ?_ | refine WC.dF rfl (by first | omega | decide) ?_ | refine WL.bo rfl rfl (remU n 3 (by omega) _ _) rfl ?_ | refine WL.bo rfl rfl (shrUU n 2 (by omega) _ _ .u64) rfl ?_ | refine X.sn ?_ | refine WC.skip ?_ | refine WL.cv rfl rfl (wrap_i64 (by omega)) rfl ?_)
    rw [← hkd]
    refine WL.call rfl rfl rfl (nameOf_any (n / 2 ^ 2) w2) ?_
    rintro e w3 ⟨rfl, hF3⟩
    refine ⟨_, _, rfl, rfl, ?_⟩
    have hU3 : Up w2.heap.size w2 w3 := hF3.up
    skip
    refine WL.bs rfl rfl (bsK2 oth _) rfl (fun w4 hA4 => ?_)
    skip
    refine WL.call rfl rfl rfl (mtC_all 0 (by omega) 2 w4 (by decide)) ?_
    rintro e w5 ⟨a', b', c', d', rfl, hNd5, hR5, hU5⟩
    refine ⟨_, _, rfl, rfl, ?_⟩
    have hsz3 := hU3.size
    have hU24 : Up w2.heap.size w2 w4 := hU3.trans (hA4.up hsz3)
    have hsz4 : w4.heap.size = w3.heap.size + 1 := hA4.size
    have hkr4 : w4.heap[w3.heap.size]? = some (.cells ⟨[str oth, str (nm (n / 2 ^ 2))]⟩ 9 (0, 0)) := hA4.at_
    have hkr5 := hU5.at (lt_of_heap hkr4) hkr4
    have hU25 : Up w2.heap.size w2 w5 := hU24.trans (hU5.mono (by omega))
    obtain ⟨o1, o2, o3, _⟩ := hNd5.one
    have o4 := hR5.one
    skip
    refine WL.bd rfl rfl (bdX kd _ _ _ _ _ _ _) rfl ?_
    refine WL.al rfl rfl rfl (fun w6 hA6 => ?_)
    have hones : ∀ u ∈ [Value.int .i64 (kd : Int), .slice (some ⟨w3.heap.size, 0, none⟩) 2 2, a', b', c', d'], oneV u = true := by
      intro u hu
      simp only [List.mem_cons, List.not_mem_nil, or_false] at hu
      rcases hu with rfl | rfl | rfl | rfl | rfl | rfl
      · rfl
      · rfl
      · exact o1
      · exact o2
      · exact o3
      · exact o4
    refine WL.sg rfl rfl rfl hones hA6.at_ (by simp) rfl (fun w7 hS7 => ?_)
    have hb7 : w7.heap[w5.heap.size]? = some (.cells ⟨[.int .i64 (kd : Int), .slice (some ⟨w3.heap.size, 0, none⟩) 2 2, a', b', c', d']⟩ 40 (0, 0)) := by simpa using hS7.at_
    have hU57 : Up w5.heap.size w5 w7 := (hA6.up (Nat.le_refl _)).trans (hS7.up (Nat.le_refl _))
    have hU27 : Up w2.heap.size w2 w7 := hU25.trans (hU57.mono hU25.size)
    have hkr7 := hU57.at (lt_of_heap hkr5) hkr5
    obtain ⟨nmv, hnmv⟩ : ∃ nmv, nmv = nm (n / 2 ^ 2) := ⟨_, rfl⟩
    rw [← hnmv] at hkr7
    have hlow : Low oth ∧ Low nmv := ⟨fun c hc => by simp only [oth, List.mem_cons, List.not_mem_nil, or_false] at hc; rcases hc with rfl | rfl | rfl | rfl | rfl <;> decide, by rw [hnmv]; exact (nm_low _).1⟩
    have hnml : nmv.length ≤ 1 := by rw [hnmv]; exact (nm_low _).2
    obtain ⟨x, hx⟩ : ∃ x, x = exO kd nmv := ⟨_, rfl⟩
    have hxk : exK x = kd := by
      rw [hx]
      unfold exO
      rcases (by omega : kd = 0 ∨ kd = 1 ∨ kd = 2) with rfl | rfl | rfl <;> rfl
    have hxs : exKeys x = [oth, nmv] := by
      rw [hx]
      unfold exO
      rcases (by omega : kd = 0 ∨ kd = 1 ∨ kd = 2) with rfl | rfl | rfl <;> rfl
    have hxv : exK x = 0 → Val.sc 1 [55] = exV x := by
      rw [hxk, hx]
      rintro rfl
      rfl
    have hxo : OkX x ∧ kX x ≤ 4000 := by
      have hkk : kKs [oth, nmv] ≤ 200 := by simp only [kKs, kK, oth, List.length_cons, List.length_nil]; omega
      have hv : dep (exV x) ≤ 60 ∧ (exK x = 0 → Ok7 (exV x)) ∧ kV (exV x) ≤ 10 := by
        rw [hx]
        unfold exO
        rcases (by omega : kd = 0 ∨ kd = 1 ∨ kd = 2) with rfl | rfl | rfl
        · simp [exV, dep, Ok7, kV]
        · simp [exV, dep, kV, exK]
        · simp [exV, dep, kV, exK]
      refine ⟨⟨by rw [hxs]; simp, fun k hk => ?_, hv.1, hv.2.1⟩, by unfold kX; rw [hxs]; omega⟩
      rw [hxs] at hk
      simp only [List.mem_cons, List.not_mem_nil, or_false] at hk
      rcases hk with rfl | rfl
      · exact hlow.1
      · exact hlow.2
    have hNd7 : Nd w7 (fun _ => True) (mt 0 2) a' b' c' := Nd.move (Moved.up hU57 (fun _ _ _ => trivial)) _ _ _ _ hNd5
    have hR7 : RS w7 (fun _ => True) d' [] := RS.move (Moved.up hU57 (fun _ _ _ => trivial)) hR5
    have hc7 : LsIs w7 (fun _ => True) [x] [.int .i64 (kd : Int), .slice (some ⟨w3.heap.size, 0, none⟩) 2 2, a', b', c', d'] := by
      refine ⟨_, a', b', c', d', [], by rw [hxk], ?_, ⟨_, hxv, hNd7⟩, hR7, trivial⟩
      rw [hxs]
      refine ⟨_, 2, rfl, fun _ => ⟨w3.heap.size, _, _, ⟨trivial, by simp⟩, rfl, hkr7, fun i k hk => ?_⟩⟩
      match i, hk with
      | 0, hk => simp only [List.getElem?_cons_zero, Option.some.injEq] at hk; subst hk; rfl
      | 1, hk => simp only [List.getElem?_cons_succ, List.getElem?_cons_zero, Option.some.injEq] at hk; subst hk; rfl
      | i + 2, hk => simp at hk
    have hV7 : LsV w7 (fun _ => True) (.slice lad M lcap) es := by
      obtain ⟨ad, cap, q1, q2⟩ := hV3.up hU27
      exact ⟨ad, cap, q1, fun hne => by obtain ⟨g, cur, r1, r2, r3⟩ := q2 hne; exact ⟨g, cur, r1, r2, LsIs.mono (fun _ _ => trivial) _ _ r3⟩⟩
    have hU07 : Up w.heap.size w w7 := hU12.trans (hU27.mono hU12.size)
    rw [← hlenM] at hV7 ⊢
    have hok1 : OkL (es ++ [x]) := ⟨fun y hy => by
      rcases List.mem_append.1 hy with hy | hy
      · exact hok.ok y hy
      · simp only [List.mem_singleton] at hy
        rw [hy]; exact hxo, by rw [List.length_append]; simp only [List.length_singleton]; omega⟩
    have hok2 : OkL (es ++ [x] ++ [x]) := ⟨fun y hy => by
      rcases List.mem_append.1 hy with hy | hy
      · exact hok1.ok y hy
      · simp only [List.mem_singleton] at hy
        rw [hy]; exact hxo, by rw [List.length_append, List.length_append]; simp only [List.length_singleton]; omega⟩
    obtain ⟨ht1, ht2⟩ := twice_law hme hsm kd nmv
    rw [← hx] at ht1 ht2
    have hnil : ∀ w' : World, RF w'.heap.size w' (.slice none 0 0) [] := fun w' => ⟨none, 0, rfl, fun h => absurd rfl h⟩
    have hb7l := lt_of_heap hb7
    have hsz7 := hU07.size
    generalize hb8 : w5.heap.size = b8 at *
    generalize hrk : w3.heap.size = rk at *
    clear hNd5 hR5 hA4 hS7 hA6 hkr4 hkr5 hkr7 hNd7 hR7
    repeat (first | refine WL.ns ?_ | refine WC.seq ?_)
    refine WC.draw (fun w' => w'.heap[b8]? = some (.cells ⟨[.int .i64 (kd : Int), .slice (some ⟨rk, 0, none⟩) 2 2, a', b', c', d']⟩ 40 (0, 0))) ?_
    have hV7d : LsV w7.drew (fun _ => True) (.slice lad es.length lcap) es := hV7.fm (Fm.refl 0 [] w7).drew (by simp) (by simp) (by simp)
    have hc7d : LsIs w7.drew (fun _ => True) [x] [.int .i64 (kd : Int), .slice (some ⟨rk, 0, none⟩) 2 2, a', b', c', d'] := LsIs.keep (Kept.fm (Fm.refl 0 [] w7).drew (by simp) (by simp)) _ _ hc7
    have hb7d : w7.drew.heap[b8]? = some (.cells ⟨[.int .i64 (kd : Int), .slice (some ⟨rk, 0, none⟩) 2 2, a', b', c', d']⟩ 40 (0, 0)) := hb7
    have hU07d : Up w.heap.size w w7.drew := hU07.drew
    have hsz7d : w.heap.size ≤ w7.drew.heap.size := hsz7
    refine WD.weaken (L' := [(5, .slice lad es.length lcap), (8, pt b8)]) ⟨rfl, rfl, trivial⟩ ?_
    refine tw10_any b8 lcap lad es x _ (fun v9 w9 hV9 hU9 => ?_) hb7d hones rfl (by omega) hV7d hc7d
    have hV9' := hV9
    obtain ⟨ad9, cap9, rfl, _⟩ := hV9'
    have hb9 := hU9.at (lt_of_heap hb7d) hb7d
    have hc9 : LsIs w9 (fun _ => True) [x] [.int .i64 (kd : Int), .slice (some ⟨rk, 0, none⟩) 2 2, a', b', c', d'] := LsIs.keep (Kept.fm (hU9.fm (B' := 0) (T := []) (Nat.le_refl _) (Nat.zero_le _)) (by simp) (by simp)) _ _ hc7d
    have hU09 : Up w.heap.size w w9 := hU07d.trans (hU9.mono hsz7d)
    have hsz9 := hU9.size
    repeat (first | refine WC.seq ?_ | refine X.sn ?_)
    refine WC.draw (fun w' => w'.heap[b8]? = some (.cells ⟨[.int .i64 (kd : Int), .slice (some ⟨rk, 0, none⟩) 2 2, a', b', c', d']⟩ 40 (0, 0))) ?_
    have hV9d : LsV w9.drew (fun _ => True) (.slice ad9 (es ++ [x]).length cap9) (es ++ [x]) := hV9.fm (Fm.refl 0 [] w9).drew (by simp) (by simp) (by simp)
    have hc9d : LsIs w9.drew (fun _ => True) [x] [.int .i64 (kd : Int), .slice (some ⟨rk, 0, none⟩) 2 2, a', b', c', d'] := LsIs.keep (Kept.fm (Fm.refl 0 [] w9).drew (by simp) (by simp)) _ _ hc9
    have hb9d : w9.drew.heap[b8]? = some (.cells ⟨[.int .i64 (kd : Int), .slice (some ⟨rk, 0, none⟩) 2 2, a', b', c', d']⟩ 40 (0, 0)) := hb9
    have hU09d : Up w.heap.size w w9.drew := hU09.drew
    have hsz9d : w.heap.size ≤ w9.drew.heap.size := by show w.heap.size ≤ w9.heap.size; omega
    refine WD.weaken (L' := [(9, .slice ad9 (es ++ [x]).length cap9), (5, .slice lad es.length lcap), (8, pt b8)]) ⟨rfl, rfl, rfl, trivial⟩ ?_
    refine tw11_any b8 cap9 ad9 (.slice lad es.length lcap) (es ++ [x]) x _ (fun v10 w10 hV10 hU10 => ?_) hb9d hones rfl (by rw [List.length_append]; simp only [List.length_singleton]; omega) hV9d hc9d
    have hV10' := hV10
    obtain ⟨ad10, cap10, rfl, _⟩ := hV10'
    have hb10 := hU10.at (lt_of_heap hb9d) hb9d
    have hV9t := hV9d.up hU10
    have hU010 : Up w.heap.size w w10 := hU09d.trans (hU10.mono hsz9d)
    have hsz10 := hU010.size
    by_cases hk2 : kd = 2
    · subst hk2
      rw [if_pos (by omega)] at ht2
      repeat (first | refine WL.pp rfl ?_ | refine WL.ns ?_ | refine WC.sr ?_ | refine WC.dT rfl (by first | omega | decide) ?_ | refine WL.ldB rfl rfl hb10 rfl rfl ?_ | refine WC.seq ?_ | refine WC.reg ?_ | refine X.sn ?_ | refine WL.ad rfl rfl (by omega) rfl ?_)
      refine WL.call rfl rfl rfl (writeMeant (Q := fun _ => True) _ _ _ (es ++ [x]) [] w10 hV9t (hnil w10) hok1 (by simp)) ?_
      rintro e w11 ⟨v11, rfl, hU11, hM11⟩
      refine ⟨_, _, rfl, rfl, ?_⟩
      rw [ht1] at hM11
      skip
      refine WL.call rfl rfl rfl hM11 ?_
      rintro e w12 ⟨rfl, hU12b⟩
      refine ⟨_, _, rfl, rfl, ?_⟩
      simp only [foundV]
      have hV12 := (hV10.up hU11).up hU12b
      have hsz11 := hU11.size
      have hsz12 := hU12b.size
      repeat (first | refine WL.pp rfl ?_ | refine WL.p rfl ?_ | refine WL.gT rfl rfl (by first | omega | decide) ?_)
      refine WL.call rfl rfl rfl (writeMeant (Q := fun _ => True) _ _ _ (es ++ [x] ++ [x]) [] w12 hV12 (hnil w12) hok2 (by simp)) ?_
      rintro e w13 ⟨v13, rfl, hU13, hM13⟩
      refine ⟨_, _, rfl, rfl, ?_⟩
      rw [ht2] at hM13
      have hsz13 := hU13.size
      skip
      refine WL.call rfl rfl rfl hM13 ?_
      rintro e w14 ⟨rfl, hU14⟩
      refine ⟨_, _, rfl, rfl, ?_⟩
      simp only [foundV]
      repeat (first | refine WL.pp rfl ?_ | refine WL.ns ?_ | refine WL.p rfl ?_ | refine WC.ret ?_)
      refine X.ret_ rfl rfl ⟨?_, hU010.trans (((hU11.mono (by omega)).trans (hU12b.mono (by omega))).trans ((hU13.mono (by omega)).trans (hU14.mono (by omega))))⟩
      refine congrArg Ending.returned (congrArg Value.bool ?_)
      exact dc_of (by omega)
    · rw [if_neg (by omega)] at ht2
      repeat (first | refine WL.pp rfl ?_ | refine WL.ns ?_ | refine WC.sr ?_ | refine WC.dF rfl (by first | omega | decide) ?_ | refine WL.ldB rfl rfl hb10 rfl rfl ?_ | refine WC.seq ?_ | refine X.sn ?_ | refine WC.skip ?_ | refine WL.ad rfl rfl (by omega) rfl ?_)
      refine WL.call rfl rfl rfl (writeMeant (Q := fun _ => True) _ _ _ (es ++ [x]) [] w10 hV9t (hnil w10) hok1 (by simp)) ?_
      rintro e w11 ⟨v11, rfl, hU11, hM11⟩
      refine ⟨_, _, rfl, rfl, ?_⟩
      rw [ht1] at hM11
      skip
      refine WL.call rfl rfl rfl hM11 ?_
      rintro e w12 ⟨rfl, hU12b⟩
      refine ⟨_, _, rfl, rfl, ?_⟩
      simp only [foundV]
      have hV12 := (hV10.up hU11).up hU12b
      have hsz11 := hU11.size
      have hsz12 := hU12b.size
      repeat (first | refine WL.pp rfl ?_ | refine WL.p rfl ?_ | refine WL.gT rfl rfl (by first | omega | decide) ?_)
      refine WL.call rfl rfl rfl (writeMeant (Q := fun _ => True) _ _ _ (es ++ [x] ++ [x]) [] w12 hV12 (hnil w12) hok2 (by simp)) ?_
      rintro e w13 ⟨v13, rfl, hU13, hM13⟩
      refine ⟨_, _, rfl, rfl, ?_⟩
      rw [ht2] at hM13
      have hsz13 := hU13.size
      skip
      refine WL.call rfl rfl rfl hM13 ?_
      rintro e w14 ⟨rfl, hU14⟩
      refine ⟨_, _, rfl, rfl, ?_⟩
      simp only [foundV]
      repeat (first | refine WL.pp rfl ?_ | refine WL.ns ?_ | refine WL.p rfl ?_ | refine WC.ret ?_)
      refine X.ret_ rfl rfl ⟨?_, hU010.trans (((hU11.mono (by omega)).trans (hU12b.mono (by omega))).trans ((hU13.mono (by omega)).trans (hU14.mono (by omega))))⟩
      refine congrArg Ending.returned (congrArg Value.bool ?_)
      exact dc_of (by omega)
  · repeat (first | refine WL.pp rfl ?_ | refine WL.ns ?_ | refine WC.sr ?_ | refine WC.dT rfl (by first | omega | decide) ?_ | refine X.sr ?_ | refine WC.ret ?_)
    exact X.ret_ rfl rfl ⟨rfl, hU12⟩

end Go.Proofs.YtaccphdkapmdhaaGreat

