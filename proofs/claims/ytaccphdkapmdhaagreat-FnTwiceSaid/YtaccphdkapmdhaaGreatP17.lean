/- The first law: the walk. Maps from texts to things: looked up, grown; a new one. Names below entries: what is found where entries come behind; the things that stand for entries. Tables are begun; the way along a head. No condition. -/
import Derived.Test.YtaccphdkapmdhaaGreatP16
import Derived.Test.YtaccphdkapmdhaaGreatP12
import Derived.MapKept
import Derived.Test.YtaccphdkapmdhaaGreatP1
namespace Go.Proofs.YtaccphdkapmdhaaGreat
attribute [local irreducible] binOp IntKind.wrap Sem.run

/-- What may be written of the laws' lines. -/
structure OkL (es : List Ex) : Prop where
  ok : ∀ x ∈ es, OkX x ∧ kX x ≤ 4000
  len : es.length ≤ 40

theorem OkL.lines (l : List Nat) : OkL (linesOf l) := ⟨fun x hx => by obtain ⟨h1, h2⟩ := (linesOf_ok l).1 x hx; exact ⟨h1, by omega⟩, by have := (linesOf_ok l).2; omega⟩
theorem OkL.take {es : List Ex} (h : OkL es) (k : Nat) : OkL (es.take k) := ⟨fun x hx => h.ok x (List.mem_of_mem_take hx), by have := h.len; rw [List.length_take]; omega⟩
theorem OkL.kXs {es : List Ex} (h : OkL es) : kXs es ≤ 160000 := by
  have h1 := kXs_le 4000 es (fun x hx => (h.ok x hx).2)
  have h2 : es.length * 4000 ≤ 40 * 4000 := Nat.mul_le_mul_right _ h.len
  omega

/-- Lines are written, and read: the first one that is refused. -/
theorem writeMeant {Q : World → Prop} (P : Nat → Prop) (lv cv : Value) (es : List Ex) (code : Bs) (w : World) (hL : LsV w P lv es) (hc : RF w.heap.size w cv code) (hok : OkL es) (hm : code.length ≤ 100000) :
    Calls PP 11 #[lv, cv] w fun e w' => ∃ v, e = .returned v ∧ Up w.heap.size w w' ∧ Calls PP 10 #[v] w' fun e w'' => e = .returned (.int .i64 (foundV (meant es))) ∧ Up w'.heap.size w' w'' := by
  have hk := hok.kXs
  refine (write_any P lv cv es code w hL hc (fun x hx => (hok.ok x hx).1) (by omega)).mono ?_
  rintro e w' ⟨v, l, rfl, hR, hD, hl, hU⟩
  exact ⟨v, rfl, hU, meanings_any v l es w' hR hD (by omega)⟩

theorem LsV.cutTo {w : World} {P : Nat → Prop} {ad : Option Addr} {n cap : Nat} {es : List Ex} (h : LsV w P (.slice ad n cap) es) (k : Nat) (hk : k ≤ es.length) : LsV w P (.slice ad k cap) (es.take k) := by
  obtain ⟨ad', cap', h1, h2⟩ := h
  simp only [Value.slice.injEq] at h1
  obtain ⟨rfl, _, rfl⟩ := h1
  refine ⟨ad, cap, by rw [List.length_take, Nat.min_eq_left hk], fun hne => ?_⟩
  have hne' : es ≠ [] := by rintro rfl; simp at hne
  obtain ⟨g, cur, h3, h4, h5⟩ := h2 hne'
  exact ⟨g, cur, h3, h4, LsIs.take k h5⟩

theorem RF.mono {B B' w v l} (h : RF B w v l) (hb : B ≤ B') : RF B' w v l := by
  obtain ⟨ad, cap, h1, h2⟩ := h
  refine ⟨ad, cap, h1, fun hl => ?_⟩
  obtain ⟨b, o, dc, e, fz, h3, h4, h5, h6⟩ := h2 hl
  exact ⟨b, o, dc, e, fz, h3, h4, h5, Nat.lt_of_lt_of_le h6 hb⟩
theorem US.sl {w v l} (h : US w v l) : ∃ ad cap, v = .slice ad l.length cap := by
  obtain ⟨ad, cap, h, _⟩ := h
  exact ⟨ad, cap, h⟩

theorem LsV.keepOld {w w' : World} {P : Nat → Prop} {v : Value} {es : List Ex} {B : Nat} {T : List Nat} (h : LsV w P v es) (hf : Fm B T w w') (hb : ∀ g, v.ownBlock = some g → g < B) (h9 : 9 ∉ T) (h37 : 37 ∉ T) : LsV w' P v es := by
  obtain ⟨ad, cap, rfl, h2⟩ := h
  refine ⟨ad, cap, rfl, fun hne => ?_⟩
  obtain ⟨g, cur, rfl, h4, h5⟩ := h2 hne
  exact ⟨g, cur, rfl, (hf.old g (hb g rfl)).trans h4, LsIs.keep (Kept.fm hf h9 h37) es cur h5⟩

set_option maxRecDepth 100000 in
set_option maxHeartbeats 64000000 in
theorem fnAhead_any (v0 v1 v2 : Value) (l more : List Nat) (code : Bs) (w : World) (h0 : US w v0 l) (h1 : RF w.heap.size w v1 code) (h2 : US w v2 more) (hl : ∀ n ∈ l, n < UU) (hmo : ∀ n ∈ more, n < UU) :
    Calls PP 3 #[v0, v1, v2] w fun e w' => e = .returned (.bool true) ∧ Up w.heap.size w w' := by
  have g0 := h0
  have g1 := h1
  have g2 := h2
  obtain ⟨ad0, cap0, rfl⟩ := h0.sl
  obtain ⟨ad1, cap1, rfl, _⟩ := h1
  obtain ⟨ad2, cap2, rfl⟩ := h2.sl
  refine enter (L := [(0, .slice ad0 l.length cap0), (1, .slice ad1 code.length cap1), (2, .slice ad2 more.length cap2)]) Tryz.func3 rfl rfl rfl ⟨rfl, rfl, rfl, trivial⟩ ?_
  by_cases a1 : 2147483647 < l.length
  · repeat (first | refine WL.pp rfl ?_ | refine WL.ns ?_ | refine WC.sr ?_ | refine WC.bT rfl (by first | with_reducible rfl | exact Bool.not_false) ?_ | refine WL.p rfl ?_ | refine WC.seq ?_ | refine X.sr ?_ | refine WC.ret ?_ | refine WL.gT rfl rfl (by first | omega | decide) ?_)
    exact X.ret_ rfl rfl ⟨rfl, Up.refl _ _⟩
  by_cases a2 : 2147483647 < code.length
  · repeat (first | refine WL.pp rfl ?_ | refine WL.ns ?_ | refine WC.sr ?_ | refine WC.bT rfl (by first | with_reducible rfl | exact Bool.not_false) ?_ | refine WL.p rfl ?_ | refine WC.seq ?_ | refine X.sr ?_ | refine WC.ret ?_ | refine WL.gT rfl rfl (by first | omega | decide) ?_ | refine WL.gF rfl rfl (by first | omega | decide) ?_)
    exact X.ret_ rfl rfl ⟨rfl, Up.refl _ _⟩
  by_cases a3 : 2147483647 < more.length
  · repeat (first | refine WL.pp rfl ?_ | refine WL.ns ?_ | refine WC.sr ?_ | refine WC.dT rfl (by first | omega | decide) ?_ | refine WL.p rfl ?_ | refine WC.seq ?_ | refine X.sr ?_ | refine WC.ret ?_ | refine WL.gF rfl rfl (by first | omega | decide) ?_)
    exact X.ret_ rfl rfl ⟨rfl, Up.refl _ _⟩
  by_cases b1 : 100 < l.length
  · repeat (first | refine WL.pp rfl ?_ | refine WL.ns ?_ | refine WC.sr ?_ | refine WC.bT rfl (by first | with_reducible rfl | exact Bool.not_false) ?_ | refine WC.dF rfl (by first | omega | decide) ?_ | refine WL.p rfl ?_ | refine WC.seq ?_ | refine X.sn ?_ | refine X.sr ?_ | refine WC.skip ?_ | refine WC.ret ?_ | refine WL.gT rfl rfl (by first | omega | decide) ?_ | refine WL.gF rfl rfl (by first | omega | decide) ?_)
    exact X.ret_ rfl rfl ⟨rfl, Up.refl _ _⟩
  by_cases b2 : 1000 < code.length
  · repeat (first | refine WL.pp rfl ?_ | refine WL.ns ?_ | refine WC.sr ?_ | refine WC.bT rfl (by first | with_reducible rfl | exact Bool.not_false) ?_ | refine WC.dF rfl (by first | omega | decide) ?_ | refine WL.p rfl ?_ | refine WC.seq ?_ | refine X.sn ?_ | refine X.sr ?_ | refine WC.skip ?_ | refine WC.ret ?_ | refine WL.gT rfl rfl (by first | omega | decide) ?_ | refine WL.gF rfl rfl (by first | omega | decide) ?_)
    exact X.ret_ rfl rfl ⟨rfl, Up.refl _ _⟩
  by_cases b3 : 100 < more.length
  · repeat (first | refine WL.pp rfl ?_ | refine WL.ns ?_ | refine WC.sr ?_ | refine WC.dT rfl (by first | omega | decide) ?_ | refine WC.dF rfl (by first | omega | decide) ?_ | refine WL.p rfl ?_ | refine WC.seq ?_ | refine X.sn ?_ | refine X.sr ?_ | refine WC.skip ?_ | refine WC.ret ?_ | refine WL.gF rfl rfl (by first | omega | decide) ?_)
    exact X.ret_ rfl rfl ⟨rfl, Up.refl _ _⟩
  repeat (first | refine WL.pp rfl ?_ | refine WL.ns ?_ | refine WC.sr ?_ | refine WC.dF rfl (by first | omega | decide) ?_ | refine WL.p rfl ?_ | refine WC.seq ?_ | refine X.sn ?_ | refine WC.skip ?_ | refine WL.gF rfl rfl (by first | omega | decide) ?_)
  refine WL.call rfl rfl rfl (linesOf_any _ l w g0 hl) ?_
  rintro e w1 ⟨lv, xs, rfl, hO1, hL1, hU1⟩
  refine ⟨_, _, rfl, rfl, ?_⟩
  have hok := OkL.lines l
  have hlen16 := (linesOf_ok l).2
  have hV1 := LsV.own hO1 hL1
  generalize linesOf l = es at *
  have hV0 := hV1
  obtain ⟨lad, lcap, rfl, _⟩ := hV1
  have hlcap : es.length ≤ lcap := by
    rcases hO1.2 with ⟨h, hn⟩ | ⟨g, cap, cur, h, _, _, hc, _⟩
    · omega
    · simp only [Value.slice.injEq] at h
      omega
  repeat (first | refine WL.pp rfl ?_ | refine WL.ns ?_ | refine WC.sr ?_)
  refine WL.call rfl rfl rfl (writeMeant (Q := fun _ => True) _ _ _ es code w1 hV0 (g1.upS hU1) hok (by omega)) ?_
  rintro e w2 ⟨v2, rfl, hU2, hM2⟩
  refine ⟨_, _, rfl, rfl, ?_⟩
  skip
  refine WL.call rfl rfl rfl hM2 ?_
  rintro e w3 ⟨rfl, hU3⟩
  refine ⟨_, _, rfl, rfl, ?_⟩
  have hV3 := (hV0.up hU2).up hU3
  have hU13 : Up w.heap.size w w3 := (hU1.trans (hU2.mono hU1.size)).trans (hU3.mono (by have := hU1.size; have := hU2.size; omega))
  have hC3 := g1.upS hU13
  have hM3 := g2.up hU13
  have hsz3 := hU13.size
  cases hme : meant es with
  | some k =>
    obtain ⟨hkl, hkt⟩ := meant_take hme
    have hne : es ≠ [] := by rintro rfl; simp at hkl
    simp only [foundV]
    repeat (first | refine WL.pp rfl ?_ | refine WL.ns ?_ | refine WC.sr ?_ | refine WC.dT rfl (by first | omega | decide) ?_ | refine WC.seq ?_)
    refine WL.bs rfl rfl bsE0 rfl (fun w4 hA4 => ?_)
    have hV4 := hV3.up (hA4.up (Nat.le_refl _))
    have hV4' := hV4
    obtain ⟨lad', lcap', hlv, hrow4⟩ := hV4
    simp only [Value.slice.injEq] at hlv
    obtain ⟨rfl, _, rfl⟩ := hlv
    obtain ⟨g, cur, rfl, hg, hLs⟩ := hrow4 hne
    have hg3 : g < w3.heap.size := by
      obtain ⟨ad', cap', e1, e2⟩ := hV3
      simp only [Value.slice.injEq] at e1
      obtain ⟨rfl, _, _⟩ := e1
      obtain ⟨g', cur', e3, e4, _⟩ := e2 hne
      simp only [Option.some.injEq, Addr.mk.injEq] at e3
      rw [e3.1]
      exact lt_of_heap e4
    have hge := hLs.lenGe
    have hO4 : w4.ownsRow w3.heap.size 40 6 (.slice (some ⟨w3.heap.size, 0, none⟩) 0 0) 0 [] := ⟨rfl, .inr ⟨w3.heap.size, 0, #[], rfl, Nat.le_refl _, hA4.at_, Nat.le_refl _, by simp only [maxLen]; omega, rfl, rfl⟩⟩
    repeat (refine WL.pp rfl ?_)
    refine WL.apf (m := es.length) (cur.take (es.length * 6)) rfl rfl (rfl : rowT 24 = some (40, 6)) hO4 (by rw [List.length_take]; omega) (fun j u hu => ?_) (LsIs.one (hLs.tk) (by rw [List.length_take]; omega)) (by have := hok.len; omega) (by rw [hA4.size]; omega) (fun v5 w5 hO5 hF5 _ => ?_)
    · rw [add_zero]
      refine cell_of hg ?_
      rw [List.getElem?_take] at hu
      split at hu
      · simpa using hu
      · cases hu
    refine ⟨_, rfl, ?_⟩
    have hsz4 : w4.heap.size = w3.heap.size + 1 := hA4.size
    have hF45 : Fm 0 [40] w4 w5 := hF5.mono (Nat.zero_le _) (fun _ h => h)
    have hsz45 := hF45.size
    have hU35 : Up w3.heap.size w3 w5 := (hA4.up (Nat.le_refl _)).trans (hF5.up)
    have hC5 := hC3.upS hU35
    have hV5 := hV3.up hU35
    have hLs5 : LsIs w5 (fun _ => True) es (cur.take (es.length * 6)) := LsIs.mono (fun _ _ => trivial) _ _ (LsIs.keep (Kept.fm hF45 (by simp) (by simp)) _ _ hLs.tk)
    have hlt6 : (cur.take (es.length * 6)).length = es.length * 6 := by rw [List.length_take]; omega
    repeat (refine WL.pp rfl ?_)
    refine WL.call rfl rfl rfl (linesOf_any _ more w5 (hM3.up hU35) hmo) ?_
    rintro e w6 ⟨lv2, xs2, rfl, hO6, hL6, hU6⟩
    refine ⟨_, _, rfl, rfl, ?_⟩
    have hok2' := OkL.lines more
    have hlen2 := (linesOf_ok more).2
    generalize linesOf more = es2 at *
    have hok2 : OkL (es ++ es2) := ⟨fun x hx => (List.mem_append.1 hx).elim (hok.ok x) (hok2'.ok x), by rw [List.length_append]; omega⟩
    have hme2 : meant (es ++ es2) = some k := meant_app es2 hme
    have hO6' : w6.ownsRow w3.heap.size 40 6 v5 (0 + es.length) ([] ++ cur.take (es.length * 6)) := own_same hO5 (fun g o hg h => hU6.at (lt_of_heap h) h)
    have hLs6 : LsIs w6 (fun _ => True) es (cur.take (es.length * 6)) := LsIs.move (Moved.up hU6 (fun _ _ _ => trivial)) _ _ hLs5
    have hL6' : LsIs w6 (fun _ => True) es2 xs2 := LsIs.mono (fun _ _ => trivial) _ _ hL6
    have hC6 := hC5.upS hU6
    have hV6 := hV5.up hU6
    have hsz6 := hU6.size
    have hU06 : Up w.heap.size w w6 := hU13.trans ((hU35.mono (by omega)).trans (hU6.mono (by omega)))
    have hkl2 : k ≤ es.length := by omega
    have hklc : k ≤ lcap := by omega
    rcases hO6.2 with ⟨rfl, hn0⟩ | ⟨g2, cap2, cur2, rfl, hb2, hg2, hc2, hm2, hs2, ht2⟩
    · have he2 : es2 = [] := List.eq_nil_of_length_eq_zero hn0
      refine WL.ap0 rfl rfl rfl hO6' rfl ?_
      have hV7 : LsV w6 (fun _ => True) v5 (es ++ es2) := by
        rw [he2, List.append_nil]
        exact LsV.own (B := w3.heap.size) (xs := cur.take (es.length * 6)) (by simpa using hO6') hLs6
      have hC7 := hC6
      have hVl7 := hV6
      have hU7 := hU06
      generalize w6 = w7 at *
      repeat (refine WL.pp rfl ?_)
      refine WL.call rfl rfl rfl (writeMeant (Q := fun _ => True) _ _ _ (es ++ es2) code w7 hV7 hC7 hok2 (by omega)) ?_
      rintro e w8 ⟨v8, rfl, hU8, hM8⟩
      refine ⟨_, _, rfl, rfl, ?_⟩
      skip
      refine WL.call rfl rfl rfl hM8 ?_
      rintro e w9 ⟨rfl, hU9⟩
      refine ⟨_, _, rfl, rfl, ?_⟩
      rw [hme2]
      simp only [foundV]
      have hsz7 := hU7.size
      have hsz8 := hU8.size
      have hsz9 := hU9.size
      have hVl9 := (hVl7.up hU8).up hU9
      have hC9 := (hC7.upS hU8).upS hU9
      repeat (first | refine WL.pp rfl ?_ | refine WL.s0 k rfl rfl rfl hklc rfl ?_ | refine WL.p rfl ?_ | refine WL.gT rfl rfl (by first | omega | decide) ?_)
      refine WL.call rfl rfl rfl (writeMeant (Q := fun _ => True) _ _ _ (es.take k) code w9 (hVl9.cutTo k (by omega)) hC9 (hok.take k) (by omega)) ?_
      rintro e w10 ⟨v10, rfl, hU10, hM10⟩
      refine ⟨_, _, rfl, rfl, ?_⟩
      skip
      refine WL.call rfl rfl rfl hM10 ?_
      rintro e w11 ⟨rfl, hU11⟩
      refine ⟨_, _, rfl, rfl, ?_⟩
      rw [hkt]
      simp only [foundV]
      have hsz10 := hU10.size
      repeat (first | refine WL.pp rfl ?_ | refine WL.ns ?_ | refine WL.p rfl ?_ | refine X.sr ?_ | refine WC.ret ?_)
      refine X.ret_ rfl rfl ⟨?_, hU7.trans (((hU8.mono (by omega)).trans (hU9.mono (by omega))).trans ((hU10.mono (by omega)).trans (hU11.mono (by omega))))⟩
      refine congrArg Ending.returned (congrArg Value.bool ?_)
      exact dc_of rfl
    · refine WL.apf (m := es2.length) xs2 rfl rfl (rfl : rowT 24 = some (40, 6)) hO6' hO6.1 (fun j u hu => hO6.cells (g := g2) rfl j u hu) (LsIs.one hL6' hO6.1) (by omega) (by omega) (fun v7 w7 hO7 hF7 _ => ⟨_, rfl, ?_⟩)
      have hF67 : Fm 0 [40] w6 w7 := hF7.mono (Nat.zero_le _) (fun _ h => h)
      have hV7 : LsV w7 (fun _ => True) v7 (es ++ es2) := by
        refine LsV.own (B := w3.heap.size) (xs := cur.take (es.length * 6) ++ xs2) ?_ (LsIs.app (LsIs.keep (Kept.fm hF67 (by simp) (by simp)) _ _ hLs6) hlt6 (LsIs.keep (Kept.fm hF67 (by simp) (by simp)) _ _ hL6'))
        rw [List.length_append]
        simpa using hO7
      have hC7 := RF.mono (B' := w7.heap.size) (((hC3.fm (hU35.fm (B' := 0) (T := []) (Nat.le_refl _) (Nat.zero_le _)) (by simp)).fm (hU6.fm (B' := 0) (T := []) (Nat.le_refl _) (Nat.zero_le _)) (by simp)).old hF7) (by have := hF7.size; omega)
      have hU7 : Up w.heap.size w w7 := hU06.trans (hF7.up.mono (by omega))
      have hVl7 := hV6.keepOld hF7 (fun g' hg' => by simp only [Value.ownBlock, Option.some.injEq] at hg'; subst hg'; exact hg3) (by simp) (by simp)
      repeat (refine WL.pp rfl ?_)
      refine WL.call rfl rfl rfl (writeMeant (Q := fun _ => True) _ _ _ (es ++ es2) code w7 hV7 hC7 hok2 (by omega)) ?_
      rintro e w8 ⟨v8, rfl, hU8, hM8⟩
      refine ⟨_, _, rfl, rfl, ?_⟩
      skip
      refine WL.call rfl rfl rfl hM8 ?_
      rintro e w9 ⟨rfl, hU9⟩
      refine ⟨_, _, rfl, rfl, ?_⟩
      rw [hme2]
      simp only [foundV]
      have hsz7 := hU7.size
      have hsz8 := hU8.size
      have hsz9 := hU9.size
      have hVl9 := (hVl7.up hU8).up hU9
      have hC9 := (hC7.upS hU8).upS hU9
      repeat (first | refine WL.pp rfl ?_ | refine WL.s0 k rfl rfl rfl hklc rfl ?_ | refine WL.p rfl ?_ | refine WL.gT rfl rfl (by first | omega | decide) ?_)
      refine WL.call rfl rfl rfl (writeMeant (Q := fun _ => True) _ _ _ (es.take k) code w9 (hVl9.cutTo k (by omega)) hC9 (hok.take k) (by omega)) ?_
      rintro e w10 ⟨v10, rfl, hU10, hM10⟩
      refine ⟨_, _, rfl, rfl, ?_⟩
      skip
      refine WL.call rfl rfl rfl hM10 ?_
      rintro e w11 ⟨rfl, hU11⟩
      refine ⟨_, _, rfl, rfl, ?_⟩
      rw [hkt]
      simp only [foundV]
      have hsz10 := hU10.size
      repeat (first | refine WL.pp rfl ?_ | refine WL.ns ?_ | refine WL.p rfl ?_ | refine X.sr ?_ | refine WC.ret ?_)
      refine X.ret_ rfl rfl ⟨?_, hU7.trans (((hU8.mono (by omega)).trans (hU9.mono (by omega))).trans ((hU10.mono (by omega)).trans (hU11.mono (by omega))))⟩
      refine congrArg Ending.returned (congrArg Value.bool ?_)
      exact dc_of rfl
  | none =>
    simp only [foundV]
    repeat (first | refine WL.pp rfl ?_ | refine WL.ns ?_ | refine WC.sr ?_ | refine WC.dF rfl (by first | omega | decide) ?_ | refine WC.seq ?_ | refine WC.block ?_ | refine X.sn ?_ | refine WC.skip ?_ | refine WL.ad rfl rfl (by omega) rfl ?_)
    refine WC.loop (σ := Nat) (I := fun n w' => Up w.heap.size w w' ∧ Up w3.heap.size w3 w' ∧ n ≤ es.length + 1) (m := fun n => es.length + 1 - n) (Lf := fun n => [(1, .slice ad1 code.length cap1), (7, .slice lad es.length lcap), (8, .int .i64 (-1)), (66, .int .i64 ((es.length : Int) + 1)), (67, .int .i64 (n : Int))])
      0 ⟨hU13, Up.refl _ _, Nat.zero_le _⟩ ⟨rfl, rfl, rfl, rfl, rfl, trivial⟩ ?_
    rintro n w4 ⟨hU, hU4, hn⟩
    have hsz4 := hU4.size
    by_cases hlt : n < es.length + 1
    · repeat (first | refine WL.pp rfl ?_ | refine WL.ns ?_ | refine WC.sr ?_ | refine WC.dT rfl (by first | omega | decide) ?_ | refine WL.s0 n rfl rfl rfl (by omega) rfl ?_ | refine WC.seq ?_ | refine WC.block ?_ | refine X.sn ?_ | refine WC.skip ?_)
      refine WL.call rfl rfl rfl (writeMeant (Q := fun _ => True) _ _ _ (es.take n) code w4 ((hV3.up hU4).cutTo n (by omega)) (hC3.upS hU4) (hok.take n) (by omega)) ?_
      rintro e w5 ⟨v5, rfl, hU5, hM5⟩
      refine ⟨_, _, rfl, rfl, ?_⟩
      skip
      refine WL.call rfl rfl rfl hM5 ?_
      rintro e w6 ⟨rfl, hU6⟩
      refine ⟨_, _, rfl, rfl, ?_⟩
      rw [meant_none n hme]
      simp only [foundV]
      have hsz5 := hU5.size
      repeat (first | refine WL.pp rfl ?_ | refine WL.ns ?_ | refine WC.dF rfl (by first | omega | decide) ?_ | refine WC.reg ?_ | refine WL.nil ?_ | refine X.sn ?_ | refine X.bn ?_ | refine WC.skip ?_ | refine WL.ad rfl rfl (by omega) rfl ?_)
      exact X.again (n + 1) ⟨hU.trans ((hU5.mono (by omega)).trans (hU6.mono (by omega))), hU4.trans ((hU5.mono (by omega)).trans (hU6.mono (by omega))), by omega⟩ (by omega) ⟨rfl, rfl, rfl, rfl, rfl, trivial⟩
    · repeat (first | refine WL.pp rfl ?_ | refine WL.ns ?_ | refine WC.sr ?_ | refine WC.dF rfl (by first | omega | decide) ?_ | refine WC.seq ?_ | refine X.sn ?_ | refine X.sx ?_ | refine X.bx ?_ | refine WC.exit ?_ | refine WC.ret ?_)
      refine X.ret_ rfl rfl ⟨?_, hU⟩
      refine congrArg Ending.returned (congrArg Value.bool ?_)
      exact dc_of rfl
end Go.Proofs.YtaccphdkapmdhaaGreat

namespace Go.Proofs.YtaccphdkapmdhaaGreat

abbrev pt (b : Nat) : Value := .pointer (some ⟨b, 0, none⟩)

/-- A map in memory. -/
def MP (w : World) (m : Nat) (l : List (Bs × Nat)) : Prop := ∃ es clock, w.heap[m]? = some (.map es clock) ∧ es.toList.map (fun e => (e.key, e.val)) = l.map fun x => (str x.1, pt x.2)

def lkp : List (Bs × Nat) → Bs → Option Nat
  | [], _ => none
  | (a, b) :: l, k => if k = a then some b else lkp l k

def ptO : Option Nat → Value
  | some b => pt b
  | none => .pointer none

theorem lkp_app (k : Bs) (b : Nat) : ∀ (l : List (Bs × Nat)) (k' : Bs), lkp l k = none → lkp (l ++ [(k, b)]) k' = if k' = k then some b else lkp l k'
  | [], k', _ => by simp [lkp]
  | (a, c) :: l, k', h => by
    simp only [lkp, List.cons_append] at h ⊢
    split at h
    · cases h
    · rename_i hka
      rw [lkp_app k b l k' h]
      by_cases h1 : k' = k
      · subst h1
        rw [if_neg hka, if_pos rfl]
        simp
      · simp [h1]

theorem find_map (k : Bs) : ∀ (es : List MapEntry) (l : List (Bs × Nat)) (i : Nat), es.map (fun e => (e.key, e.val)) = l.map (fun x => (str x.1, pt x.2)) →
    ∃ r, Instr.findNow .string (str k) es i = some r ∧ r.map (·.2) = (lkp l k).map pt
  | [], [], _, _ => ⟨none, rfl, rfl⟩
  | [], _ :: _, _, h => by simp at h
  | _ :: _, [], _, h => by simp at h
  | ⟨key, val, born⟩ :: es, (a, b) :: l, i, h => by
    simp only [List.map_cons, List.cons.injEq, Prod.mk.injEq] at h
    obtain ⟨⟨rfl, rfl⟩, h2⟩ := h
    obtain ⟨r, h3, h4⟩ := find_map k es l (i + 1) h2
    by_cases hka : k = a
    · subst hka
      refine ⟨some (i, pt b), ?_, by simp [lkp]⟩
      simp only [Instr.findNow, Instr.sameNow]
      rw [(MapKept.bytes_beq _ _).2 rfl]
    · refine ⟨r, ?_, by simp only [lkp, if_neg hka]; exact h4⟩
      simp only [Instr.findNow, Instr.sameNow]
      have : ((⟨k.toArray⟩ : ByteArray) == ⟨a.toArray⟩) = false := by
        cases hb : ((⟨k.toArray⟩ : ByteArray) == ⟨a.toArray⟩) with
        | false => rfl
        | true => exact absurd (str_inj.1 ((MapKept.bytes_beq _ _).1 hb)) hka
      rw [this]
      exact h3

theorem u78 : PP.underlying 78 = some (.map 9 73) := by kernel_rfl
theorem z73 (w : World) : (zeroValue 73).run PP w = .ok (.pointer none) w := by kernel_rfl

theorem look_run {w : World} {m : Nat} {l : List (Bs × Nat)} (k : Bs) (h : MP w m l) : (Instr.lookup 78 (.map (some m)) (str k) true).run PP w = .ok (.tuple #[ptO (lkp l k), .bool (lkp l k).isSome]) w := by
  obtain ⟨es, clock, h1, h2⟩ := h
  obtain ⟨r, h3, h4⟩ := find_map k es.toList l 0 h2
  have hc : (Instr.checkKey es.isEmpty 10000 9 (str k)).run PP w = .ok () w := MapKept.run_checkKey (k := str k) string_u (by simp [MapKept.IsKey]) _ 9999
  simp only [Instr.lookup, Sem.run_bind, run_underlying u78, Result.andThen_ok, MapKept.run_getObj_map h1, Sem.run_pure, hc, MapKept.run_findKey string_u h3]
  cases r with
  | none =>
    cases hl : lkp l k with
    | none => simp [z73, ptO]
    | some b => rw [hl] at h4; cases h4
  | some x =>
    cases hl : lkp l k with
    | none => rw [hl] at h4; cases h4
    | some b =>
      rw [hl] at h4
      simp only [Option.map_some, Option.some.injEq] at h4
      obtain ⟨i, v⟩ := x
      simp only at h4
      subst h4
      simp [ptO]

theorem upd_run {w : World} {m : Nat} {l : List (Bs × Nat)} (k : Bs) (b : Nat) (h : MP w m l) (hk : lkp l k = none) :
    ∃ o w', (Instr.mapUpdate 78 (.map (some m)) (str k) (pt b)).run PP w = .ok () w' ∧ St w m o w' ∧ MP w' m (l ++ [(k, b)]) ∧ tag o = 1000 := by
  obtain ⟨es, clock, h1, h2⟩ := h
  obtain ⟨r, h3, h4⟩ := find_map k es.toList l 0 h2
  rw [hk] at h4
  cases r with
  | some x => cases h4
  | none =>
    have hc : (Instr.checkKey false 10000 9 (str k)).run PP w = .ok () w := MapKept.run_checkKey (k := str k) string_u (by simp [MapKept.IsKey]) _ 9999
    have hst := put_st (o := .map (es.push ⟨str k, pt b, clock⟩) (clock + 1)) h1
    refine ⟨_, _, ?_, hst, ⟨_, _, hst.at_, ?_⟩, rfl⟩
    · simp only [Instr.mapUpdate, Sem.run_bind, run_underlying u78, Result.andThen_ok, MapKept.run_getObj_map h1, hc, MapKept.run_findKey string_u h3, MapKept.run_setObj_map _ h1]
      rfl
    · simp [h2]

section
attribute [local semireducible] WL WC X WD WX
variable {all : List Oper} {Q : Exit → Act → World → Prop} {N : Nat} {L L' : Env} {o : Oper} {rest : List Oper} {w : World}

def lkA (L : Env) (op : Op) : Option (Value × Value) :=
  match op with
  | .lookup t x i true => cond (Nat.beq t 78) (match ev L x, ev L i with
    | some m, some k => some (m, k)
    | _, _ => none) none
  | _ => none

/-- A name is looked up. -/
theorem WL.lk {m : Nat} {k : Bs} (l : List (Bs × Nat)) (hg : grd all L o = some true) (h : lkA L o.op = some (.map (some m), str k)) (hm : MP w m l)
    (hd : dstE N o (.tuple ⟨[ptO (lkp l k), .bool (lkp l k).isSome]⟩) L = some L') (kk : WL all Q N L' rest w) : WL all Q N L (o :: rest) w := by
  refine WL.of_run hg (fun a hf => ?_) hd kk
  obtain ⟨dst, op, ty, pos, after, guard⟩ := o
  simp only at h
  unfold lkA at h
  split at h
  · rename_i t x i
    cases ht : Nat.beq t 78 with
    | false => simp [ht] at h
    | true =>
      have : t = 78 := by simpa using ht
      subst this
      simp only [ht, cond_true] at h
      split at h
      · rename_i vm vk hx hi
        simp only [Option.some.injEq, Prod.mk.injEq] at h
        obtain ⟨rfl, rfl⟩ := h
        simp [execOp, hf.eval hx, hf.eval hi, look_run k hm]
      · cases h
  · cases h

def muA (L : Env) (op : Op) : Option (Value × Value × Value) :=
  match op with
  | .mapUpdate t x i v => cond (Nat.beq t 78) (match ev L x, ev L i, ev L v with
    | some m, some k, some u => some (m, k, u)
    | _, _, _ => none) none
  | _ => none

/-- A name that is not there yet comes into a map. -/
theorem WL.mup {m b : Nat} {k : Bs} (l : List (Bs × Nat)) (hg : grd all L o = some true) (h : muA L o.op = some (.map (some m), str k, pt b)) (hm : MP w m l) (hk : lkp l k = none)
    (hd : dstE N o undef L = some L') (kk : ∀ w' ob, St w m ob w' → MP w' m (l ++ [(k, b)]) → tag ob = 1000 → WL all Q N L' rest w') : WL all Q N L (o :: rest) w := by
  obtain ⟨ob, w', hr, hs, hp, ht⟩ := upd_run k b hm hk
  refine WL.of_skip hg (fun a hf => ?_) hd (kk w' ob hs hp ht)
  obtain ⟨dst, op, ty, pos, after, guard⟩ := o
  simp only at h
  unfold muA at h
  split at h
  · rename_i t x i v
    cases ht : Nat.beq t 78 with
    | false => simp [ht] at h
    | true =>
      have : t = 78 := by simpa using ht
      subst this
      simp only [ht, cond_true] at h
      split at h
      · rename_i vm vk vv hx hi hv
        simp only [Option.some.injEq, Prod.mk.injEq] at h
        obtain ⟨rfl, rfl, rfl⟩ := h
        simp [execOp, hf.eval hx, hf.eval hi, hf.eval hv, hr]
      · cases h
  · cases h

def mmA (op : Op) : Bool :=
  match op with
  | .makeMap _ none => true
  | _ => false

/-- A new map. -/
theorem WL.mm (hg : grd all L o = some true) (h : mmA o.op = true) (hd : dstE N o (.map (some w.heap.size)) L = some L')
    (kk : ∀ w', Al w (.map #[] 0) w' → WL all Q N L' rest w') : WL all Q N L (o :: rest) w := by
  refine WL.of_run hg (fun a hf => ?_) hd (kk _ (alloc_al w _))
  obtain ⟨dst, op, ty, pos, after, guard⟩ := o
  simp only at h
  unfold mmA at h
  split at h
  · simp [execOp, Instr.makeMap]
  · cases h
end

theorem MP.new {w w' : World} (h : Al w (.map #[] 0) w') : MP w' w.heap.size [] := ⟨_, _, h.at_, rfl⟩

theorem MP.keep {w w' : World} {m : Nat} {l : List (Bs × Nat)} (h : MP w m l) (hk : ∀ o, w.heap[m]? = some o → w'.heap[m]? = some o) : MP w' m l := by
  obtain ⟨es, c, h1, h2⟩ := h
  exact ⟨es, c, hk _ h1, h2⟩
theorem MP.lt {w : World} {m : Nat} {l : List (Bs × Nat)} (h : MP w m l) : m < w.heap.size := by
  obtain ⟨es, c, h1, h2⟩ := h
  exact lt_of_heap h1

end Go.Proofs.YtaccphdkapmdhaaGreat

namespace Go.Proofs.YtaccphdkapmdhaaGreat

theorem findFrom_app (p : Nat) (nm : Bs) : ∀ (a b : List Ent) (i : Nat), findFrom p nm (a ++ b) i = (findFrom p nm a i).or (findFrom p nm b (i + a.length))
  | [], b, i => by simp [findFrom]
  | e :: a, b, i => by
    simp only [findFrom, List.cons_append]
    split
    · rfl
    · rw [findFrom_app p nm a b (i + 1), List.length_cons, show i + 1 + a.length = i + (a.length + 1) by omega]

theorem findFrom_no (p : Nat) (nm : Bs) : ∀ (a : List Ent) (i : Nat), (∀ e ∈ a, e.is p nm = false) → findFrom p nm a i = none
  | [], _, _ => rfl
  | e :: a, i, h => by
    simp only [findFrom]
    rw [h e (by simp)]
    simp only [Bool.false_eq_true, if_false]
    exact findFrom_no p nm a (i + 1) (fun x hx => h x (by simp [hx]))

theorem findFrom_none {p : Nat} {nm : Bs} : ∀ {a : List Ent} {i : Nat}, findFrom p nm a i = none → ∀ e ∈ a, e.is p nm = false
  | [], _, _, _, h => by simp at h
  | e :: a, i, hn, x, hx => by
    simp only [findFrom] at hn
    split at hn
    · cases hn
    · rename_i he
      rcases List.mem_cons.1 hx with rfl | hx
      · simpa using he
      · exact findFrom_none hn x hx

theorem findFrom_first {p : Nat} {nm : Bs} : ∀ {a : List Ent} {i j : Nat}, findFrom p nm a i = some j → ∀ (k : Nat) (e : Ent), k < j - i → a[k]? = some e → e.is p nm = false
  | [], _, _, h, _, _, _, _ => by simp [findFrom] at h
  | e :: a, i, j, h, k, x, hk, hx => by
    simp only [findFrom] at h
    split at h
    · simp only [Option.some.injEq] at h
      subst h
      omega
    · rename_i he
      cases k with
      | zero =>
        simp only [List.getElem?_cons_zero, Option.some.injEq] at hx
        subst hx
        simpa using he
      | succ k => exact findFrom_first h k x (by have := (findFrom_some _ _ _ h).1; omega) (by simpa using hx)

theorem Ent.is_parent {e : Ent} {p : Nat} {nm : Bs} (h : e.is p nm = true) : e.parent = (p : Int) ∧ e.kind ≠ 5 ∧ e.name = nm := by
  simpa [Ent.is] using h

theorem findE_no {es : List Ent} {p : Nat} {nm : Bs} (h : ∀ (i : Nat) (e : Ent), es[i]? = some e → e.is p nm = false) : findE es p nm = none :=
  findFrom_no _ _ _ _ fun e he => by
    obtain ⟨i, hi⟩ := List.getElem?_of_mem he
    rw [List.getElem?_drop] at hi
    exact h _ e hi

theorem findE_none {es : List Ent} (hO : Ord es) {p : Nat} {nm : Bs} (h : findE es p nm = none) (i : Nat) (e : Ent) (he : es[i]? = some e) : e.is p nm = false := by
  by_cases hi : i ≤ p
  · cases hb : e.is p nm with
    | false => rfl
    | true =>
      have h1 := (Ent.is_parent hb).1
      have h2 := (hO i e he).1
      omega
  · refine findFrom_none h e ?_
    refine List.mem_of_getElem? (i := i - (p + 1)) ?_
    rw [List.getElem?_drop, show p + 1 + (i - (p + 1)) = i by omega]
    exact he

theorem findE_first {es : List Ent} (hO : Ord es) {p j : Nat} {nm : Bs} (h : findE es p nm = some j) (i : Nat) (e : Ent) (hi : i < j) (he : es[i]? = some e) : e.is p nm = false := by
  by_cases hip : i ≤ p
  · cases hb : e.is p nm with
    | false => rfl
    | true =>
      have h1 := (Ent.is_parent hb).1
      have h2 := (hO i e he).1
      omega
  · refine findFrom_first h (i - (p + 1)) e (by omega) ?_
    rw [List.getElem?_drop, show p + 1 + (i - (p + 1)) = i by omega]
    exact he

theorem findE_is {es : List Ent} {p j : Nat} {nm : Bs} {e : Ent} (he : es[j]? = some e) (h1 : e.is p nm = true) (h2 : ∀ (i : Nat) (e' : Ent), i < j → es[i]? = some e' → e'.is p nm = false) (hO : Ord es) : findE es p nm = some j := by
  cases hf : findE es p nm with
  | none => rw [findE_none hO hf j e he] at h1; cases h1
  | some k =>
    obtain ⟨_, ek, hk1, hk2⟩ := findE_some hf
    rcases Nat.lt_trichotomy k j with h | h | h
    · rw [h2 k ek h hk1] at hk2; cases hk2
    · rw [h]
    · rw [findE_first hO hf j e h he] at h1; cases h1

theorem findE_app {es more : List Ent} {q : Nat} (hq : q < es.length) (nm : Bs) : findE (es ++ more) q nm = (findE es q nm).or (findFrom q nm more es.length) := by
  unfold findE
  rw [List.drop_append_of_le_length (by omega), findFrom_app, List.length_drop, show q + 1 + (es.length - (q + 1)) = es.length by omega]

theorem findE_ext {es more : List Ent} {q : Nat} (hq : q < es.length) (nm : Bs) (h : ∀ e ∈ more, e.parent ≠ (q : Int)) : findE (es ++ more) q nm = findE es q nm := by
  rw [findE_app hq, findFrom_no q nm more _ (fun e he => by
    cases hb : e.is q nm with
    | false => rfl
    | true => exact absurd (Ent.is_parent hb).1 (h e he))]
  cases findE es q nm <;> rfl

theorem findE_snoc {es : List Ent} {q p kd : Nat} {x : Bool} {k : Bs} (hq : q < es.length) (nm : Bs) (h5 : kd ≠ 5) :
    findE (es ++ [⟨p, kd, x, k⟩]) q nm = (findE es q nm).or (if q = p ∧ nm = k then some es.length else none) := by
  have h1 : (Ent.mk (p : Int) kd x k).is q nm = decide (q = p ∧ nm = k) := by
    simp only [Ent.is]
    by_cases hqp : q = p ∧ nm = k
    · obtain ⟨rfl, rfl⟩ := hqp
      simp [h5]
    · rw [decide_eq_false hqp, decide_eq_false]
      rintro ⟨h1, _, h3⟩
      exact hqp ⟨by omega, h3.symm⟩
  have h2 : findFrom q nm [⟨p, kd, x, k⟩] es.length = if q = p ∧ nm = k then some es.length else none := by
    show (if (Ent.mk (p : Int) kd x k).is q nm then some es.length else none) = _
    rw [h1]
    simp
  rw [findE_app hq, h2]

theorem findE_last {es : List Ent} {q : Nat} (hq : es.length ≤ q + 1) (nm : Bs) : findE es q nm = none := by
  unfold findE
  rw [List.drop_of_length_le hq]
  rfl

theorem findE_set {es : List Ent} {i : Nat} {e e' : Ent} (he : es[i]? = some e) (h1 : e'.parent = e.parent) (h2 : e'.kind = e.kind) (h3 : e'.name = e.name) (hO : Ord es) (q : Nat) (nm : Bs) :
    findE (es.set i e') q nm = findE es q nm := by
  have hi := (List.getElem?_eq_some_iff.1 he).1
  have hO' : Ord (es.set i e') := hO.set he h1 h2
  have his : e'.is q nm = e.is q nm := by simp [Ent.is, h1, h2, h3]
  have key : ∀ (j : Nat) (a : Ent), (es.set i e')[j]? = some a → ∃ b, es[j]? = some b ∧ a.is q nm = b.is q nm := by
    intro j a ha
    by_cases hij : i = j
    · subst hij
      rw [List.getElem?_set_self hi] at ha
      simp only [Option.some.injEq] at ha
      subst ha
      exact ⟨e, he, his⟩
    · rw [List.getElem?_set_ne hij] at ha
      exact ⟨a, ha, rfl⟩
  cases hf : findE es q nm with
  | none =>
    refine findE_no fun j a ha => ?_
    obtain ⟨b, hb, h⟩ := key j a ha
    rw [h]
    exact findE_none hO hf j b hb
  | some k =>
    obtain ⟨_, ek, hk1, hk2⟩ := findE_some hf
    have hk := (List.getElem?_eq_some_iff.1 hk1).1
    obtain ⟨a, ha⟩ : ∃ a, (es.set i e')[k]? = some a := ⟨_, List.getElem?_eq_getElem (by simpa using hk)⟩
    obtain ⟨b, hb, h⟩ := key k a ha
    rw [hk1] at hb
    simp only [Option.some.injEq] at hb
    subst hb
    refine findE_is ha (by rw [h]; exact hk2) (fun j a' hj ha' => ?_) hO'
    obtain ⟨b', hb', h'⟩ := key j a' ha'
    rw [h']
    exact findE_first hO hf j b' hj hb'

/-! ### Things -/
/-- What stands for an entry: a value (or a table between braces), a table, a list of tables by its last one. -/
inductive TI where
  | val (b : Nat)
  | tab (b m : Nat) (l : List (Bs × Nat))
  | lst (b s tb m : Nat) (l : List (Bs × Nat))

def TI.blk : TI → Nat
  | .val b => b
  | .tab b _ _ => b
  | .lst b _ _ _ _ => b
def TI.tbl : TI → Nat
  | .val b => b
  | .tab b _ _ => b
  | .lst _ _ tb _ _ => tb
def TI.mp : TI → Option (Nat × List (Bs × Nat))
  | .val _ => none
  | .tab _ m l => some (m, l)
  | .lst _ _ _ m l => some (m, l)
def TI.all : TI → List Nat
  | .val b => [b]
  | .tab b m _ => [b, m]
  | .lst b s tb m _ => [b, s, tb, m]
def TI.setL (l : List (Bs × Nat)) : TI → TI
  | .val b => .val b
  | .tab b m _ => .tab b m l
  | .lst b s tb m _ => .lst b s tb m l

theorem TI.setL_blk (l) (t : TI) : (t.setL l).blk = t.blk := by cases t <;> rfl
theorem TI.setL_tbl (l) (t : TI) : (t.setL l).tbl = t.tbl := by cases t <;> rfl
theorem TI.setL_all (l) (t : TI) : (t.setL l).all = t.all := by cases t <;> rfl
theorem TI.setL_mp {l l0 m} {t : TI} (h : t.mp = some (m, l0)) : (t.setL l).mp = some (m, l) := by cases t <;> simp_all [TI.mp, TI.setL]

abbrev tabC (way : Nat) (m : Nat) : Array Value := ⟨[.int .i64 0, .int .i64 (way : Int), .map (some m), .slice none 0 0]⟩

/-- The thing in memory. -/
def TI.at (B K : Nat) (w : World) (root : Prop) (e : Ent) : TI → Prop
  | .val b => e.kind = 1 ∧ ∃ kd way x y, w.heap[b]? = some (.cells ⟨[.int .i64 (kd : Nat), .int .i64 (way : Nat), x, y]⟩ 81 (0, 0)) ∧ (kd = 2 ∧ way = 0 ∨ kd = 0 ∧ way = 3)
  | .tab b m l => (∃ way, w.heap[b]? = some (.cells (tabC way m) 81 (0, 0)) ∧ (¬ root → (e.kind = 2 ∧ way = 2) ∨ (e.kind = 3 ∧ way = if e.expl then 1 else 0))) ∧ MP w m l
  | .lst b s tb m l => e.kind = 4 ∧ (∃ v n xs, w.heap[b]? = some (.cells ⟨[.int .i64 1, .int .i64 0, .map none, v]⟩ 81 (0, 0)) ∧ w.ownsRow B 73 1 v n xs ∧ v.ownBlock = some s ∧ 0 < n ∧ n ≤ K ∧ xs[n - 1]? = some (pt tb)) ∧
      (∃ way, w.heap[tb]? = some (.cells (tabC way m) 81 (0, 0))) ∧ MP w m l

theorem TI.at_keep {B K w w' root e} {t : TI} (h : t.at B K w root e) (hk : ∀ x ∈ t.all, ∀ o, w.heap[x]? = some o → w'.heap[x]? = some o) : t.at B K w' root e := by
  cases t with
  | val b =>
    obtain ⟨h1, kd, way, x, y, h2, h3⟩ := h
    exact ⟨h1, kd, way, x, y, hk b (by simp [TI.all]) _ h2, h3⟩
  | tab b m l =>
    obtain ⟨⟨way, h1, h2⟩, h3⟩ := h
    exact ⟨⟨way, hk b (by simp [TI.all]) _ h1, h2⟩, h3.keep (hk m (by simp [TI.all]))⟩
  | lst b s tb m l =>
    obtain ⟨h0, ⟨v, n, xs, h1, h2, h3, h4, h5⟩, ⟨way, h6⟩, h7⟩ := h
    refine ⟨h0, ⟨v, n, xs, hk b (by simp [TI.all]) _ h1, own_same h2 (fun g o hg ho => hk g ?_ o ho), h3, h4, h5⟩, ⟨way, hk tb (by simp [TI.all]) _ h6⟩, h7.keep (hk m (by simp [TI.all]))⟩
    rw [h3] at hg
    simp only [Option.some.injEq] at hg
    subst hg
    simp [TI.all]

theorem TI.blk_all (t : TI) : t.blk ∈ t.all := by cases t <;> simp [TI.blk, TI.all]
theorem TI.tbl_all (t : TI) : t.tbl ∈ t.all := by cases t <;> simp [TI.tbl, TI.all]
theorem TI.mp_all {t : TI} {m l} (h : t.mp = some (m, l)) : m ∈ t.all := by cases t <;> simp_all [TI.mp, TI.all]
theorem TI.mpMP {B K w root e m l} {t : TI} (h : t.at B K w root e) (hm : t.mp = some (m, l)) : MP w m l := by
  cases t with
  | val b => cases hm
  | tab b m' l' => simp only [TI.mp, Option.some.injEq, Prod.mk.injEq] at hm; obtain ⟨rfl, rfl⟩ := hm; exact h.2
  | lst b s tb m' l' => simp only [TI.mp, Option.some.injEq, Prod.mk.injEq] at hm; obtain ⟨rfl, rfl⟩ := hm; exact h.2.2.2

/-- Another row of names in the map. -/
theorem TI.at_names {B K w w' root e m l l'} {t : TI} (h : t.at B K w root e) (hm : t.mp = some (m, l)) (hk : ∀ x ∈ t.all, x ≠ m → ∀ o, w.heap[x]? = some o → w'.heap[x]? = some o) (hM : MP w' m l') : (t.setL l').at B K w' root e := by
  have hmo := t.mpMP h hm
  obtain ⟨mes, mc, hmh, _⟩ := hmo
  cases t with
  | val b => cases hm
  | tab b m' l0 =>
    simp only [TI.mp, Option.some.injEq, Prod.mk.injEq] at hm
    obtain ⟨rfl, rfl⟩ := hm
    obtain ⟨⟨way, h1, h2⟩, h3⟩ := h
    refine ⟨⟨way, hk b (by simp [TI.all]) ?_ _ h1, h2⟩, hM⟩
    rintro rfl
    rw [hmh] at h1
    cases h1
  | lst b s tb m' l0 =>
    simp only [TI.mp, Option.some.injEq, Prod.mk.injEq] at hm
    obtain ⟨rfl, rfl⟩ := hm
    obtain ⟨h0, ⟨v, n, xs, h1, h2, h3, h4, h5⟩, ⟨way, h6⟩, h7⟩ := h
    refine ⟨h0, ⟨v, n, xs, hk b (by simp [TI.all]) ?_ _ h1, own_same h2 (fun g o hg ho => hk g ?_ ?_ o ho), h3, h4, h5⟩, ⟨way, hk tb (by simp [TI.all]) ?_ _ h6⟩, hM⟩
    · rintro rfl
      rw [hmh] at h1
      cases h1
    · rw [h3] at hg
      simp only [Option.some.injEq] at hg
      subst hg
      simp [TI.all]
    · rintro rfl
      rcases h2.2 with ⟨rfl, _⟩ | ⟨g', cap, cur, rfl, _, hg', _⟩
      · simp [Value.ownBlock] at hg
      · simp only [Value.ownBlock, Option.some.injEq] at hg
        subst hg
        rw [hmh] at hg'
        cases hg'
    · rintro rfl
      rw [hmh] at h6
      cases h6

/-! ### Things for entries -/
/-- The things stand for the entries that can be found by names from 'base' on. -/
structure J (B K : Nat) (w : World) (base : Nat) (es : List Ent) (f : Nat → Option TI) : Prop where
  ord : Ord es
  at_ : ∀ i t, f i = some t → ∃ e, es[i]? = some e ∧ t.at B K w (i = base) e
  bas : ∃ b m l, f base = some (.tab b m l)
  names : ∀ i t m l, f i = some t → t.mp = some (m, l) → ∀ k, (findE es i k = none ∧ lkp l k = none) ∨ ∃ j u, findE es i k = some j ∧ j ≠ base ∧ f j = some u ∧ lkp l k = some u.blk
  low : ∀ i t, f i = some t → ∀ x ∈ t.all, B ≤ x
  inj : ∀ i j t u x, f i = some t → f j = some u → x ∈ t.all → x ∈ u.all → i = j

theorem TI.at_K {B K K' w root e} {t : TI} (h : t.at B K w root e) (hk : K ≤ K') : t.at B K' w root e := by
  cases t with
  | val b => exact h
  | tab b m l => exact h
  | lst b s tb m l =>
    obtain ⟨h0, ⟨v, n, xs, h1, h2, h3, h4, h5, h6⟩, h7⟩ := h
    exact ⟨h0, ⟨v, n, xs, h1, h2, h3, h4, Nat.le_trans h5 hk, h6⟩, h7⟩
theorem J.toK {B K K' w base es f} (h : J B K w base es f) (hk : K ≤ K') : J B K' w base es f :=
  ⟨h.ord, fun i t hi => by obtain ⟨e, he, ht⟩ := h.at_ i t hi; exact ⟨e, he, TI.at_K ht hk⟩, h.bas, h.names, h.low, h.inj⟩

/-- What was there is there. -/
def Ext (f f' : Nat → Option TI) : Prop := ∀ i t, f i = some t → ∃ l, f' i = some (t.setL l)

theorem TI.setL_setL (l l') (t : TI) : (t.setL l).setL l' = t.setL l' := by cases t <;> rfl
theorem TI.setL_self (t : TI) : ∃ l, t.setL l = t := by
  cases t with
  | val b => exact ⟨[], rfl⟩
  | tab b m l => exact ⟨l, rfl⟩
  | lst b s tb m l => exact ⟨l, rfl⟩
theorem Ext.refl (f) : Ext f f := fun i t h => by
  obtain ⟨l, hl⟩ := t.setL_self
  exact ⟨l, by rw [hl]; exact h⟩
theorem Ext.trans {f g h} (a : Ext f g) (b : Ext g h) : Ext f h := fun i t ht => by
  obtain ⟨l, hl⟩ := a i t ht
  obtain ⟨l', hl'⟩ := b i _ hl
  exact ⟨l', by rw [hl', TI.setL_setL]⟩

theorem J.lt {B K w base es f} (h : J B K w base es f) {i t} (hi : f i = some t) : i < es.length := by
  obtain ⟨e, he, _⟩ := h.at_ i t hi
  exact (List.getElem?_eq_some_iff.1 he).1

theorem TI.all_lt {B K w root e} {t : TI} (h : t.at B K w root e) : ∀ x ∈ t.all, x < w.heap.size := by
  cases t with
  | val b =>
    obtain ⟨_, _, _, _, _, h1, _⟩ := h
    intro x hx
    simp only [TI.all, List.mem_cons, List.not_mem_nil, or_false] at hx
    subst hx
    exact lt_of_heap h1
  | tab b m l =>
    obtain ⟨⟨_, h1, _⟩, h2⟩ := h
    intro x hx
    simp only [TI.all, List.mem_cons, List.not_mem_nil, or_false] at hx
    rcases hx with rfl | rfl
    · exact lt_of_heap h1
    · exact h2.lt
  | lst b s tb m l =>
    obtain ⟨_, ⟨v, n, xs, h1, h2, h3, _⟩, ⟨_, h4⟩, h5⟩ := h
    intro x hx
    simp only [TI.all, List.mem_cons, List.not_mem_nil, or_false] at hx
    rcases hx with rfl | rfl | rfl | rfl
    · exact lt_of_heap h1
    · rcases h2.2 with ⟨rfl, _⟩ | ⟨g', cap, cur, rfl, _, hg', _⟩
      · simp [Value.ownBlock] at h3
      · simp only [Value.ownBlock, Option.some.injEq] at h3
        subst h3
        exact lt_of_heap hg'
    · exact lt_of_heap h4
    · exact h5.lt

theorem J.all_lt {B K w base es f} (h : J B K w base es f) {i t} (hi : f i = some t) : ∀ x ∈ t.all, x < w.heap.size := by
  obtain ⟨e, _, ht⟩ := h.at_ i t hi
  exact TI.all_lt ht

theorem J.keep {B K w w' base es f} (h : J B K w base es f) (hk : ∀ x o, B ≤ x → w.heap[x]? = some o → w'.heap[x]? = some o) : J B K w' base es f :=
  ⟨h.ord, fun i t hi => by obtain ⟨e, he, ht⟩ := h.at_ i t hi; exact ⟨e, he, TI.at_keep ht (fun x hx o ho => hk x o (h.low i t hi x hx) ho)⟩, h.bas, h.names, h.low, h.inj⟩

/-- Entries that nobody finds come behind. -/
theorem J.ext {B K w base es more f} (h : J B K w base es f) (hO : Ord (es ++ more)) (hm : ∀ i t m l, f i = some t → t.mp = some (m, l) → ∀ e ∈ more, e.parent ≠ (i : Int)) : J B K w base (es ++ more) f := by
  refine ⟨hO, fun i t hi => ?_, h.bas, fun i t m l hi hp k => ?_, h.low, h.inj⟩
  · obtain ⟨e, he, ht⟩ := h.at_ i t hi
    exact ⟨e, by rw [List.getElem?_append_left (h.lt hi)]; exact he, ht⟩
  · rw [findE_ext (h.lt hi) k (hm i t m l hi hp)]
    exact h.names i t m l hi hp k

/-- A new name, and what it stands for. -/
theorem J.add {B K w w' base es f p t m l} (h : J B K w base es f) (hp : f p = some t) (hm : t.mp = some (m, l)) (k : Bs) (hf : findE es p k = none) (kd : Nat) (x : Bool) (hkd : kd ≤ 5) (hkd0 : kd ≠ 0) (hkd5 : kd ≠ 5) (u : TI)
    (hu : u.at B K w' False ⟨p, kd, x, k⟩) (hul : ∀ y ∈ u.all, B ≤ y) (huf : ∀ y ∈ u.all, w.heap.size ≤ y) (hum : ∀ m2 l2, u.mp = some (m2, l2) → l2 = [])
    (hk : ∀ y o, y ≠ m → w.heap[y]? = some o → w'.heap[y]? = some o) (hM : MP w' m (l ++ [(k, u.blk)])) :
    J B K w' base (es ++ [⟨p, kd, x, k⟩]) (fun j => if j = es.length then some u else if j = p then some (t.setL (l ++ [(k, u.blk)])) else f j) := by
  have hpl := h.lt hp
  have hO := h.ord.snoc (nm := k) (x := x) hpl hkd hkd0
  obtain ⟨b0, m0, l0, hb0⟩ := h.bas
  have hbl := h.lt hb0
  have hlk : lkp l k = none := by
    rcases h.names p t m l hp hm k with h1 | ⟨j, u', h1, _⟩
    · exact h1.2
    · rw [hf] at h1; cases h1
  have cas : ∀ j v, (if j = es.length then some u else if j = p then some (t.setL (l ++ [(k, u.blk)])) else f j) = some v → (j = es.length ∧ v = u) ∨ (j = p ∧ v = t.setL (l ++ [(k, u.blk)])) ∨ (j ≠ es.length ∧ j ≠ p ∧ f j = some v) := by
    intro j v hv
    split at hv
    · rename_i h1; exact .inl ⟨h1, by simpa using hv.symm⟩
    · split at hv
      · rename_i h1; exact .inr (.inl ⟨h1, by simpa using hv.symm⟩)
      · rename_i h1 h2; exact .inr (.inr ⟨h1, h2, hv⟩)
  have al : ∀ j v, (if j = es.length then some u else if j = p then some (t.setL (l ++ [(k, u.blk)])) else f j) = some v → (j = es.length ∧ v = u) ∨ (∃ v0, f j = some v0 ∧ v.all = v0.all) := by
    intro j v hv
    rcases cas j v hv with h1 | ⟨rfl, rfl⟩ | ⟨_, _, h1⟩
    · exact .inl h1
    · exact .inr ⟨t, hp, TI.setL_all _ _⟩
    · exact .inr ⟨v, h1, rfl⟩
  refine ⟨hO, fun i v hv => ?_, ?_, fun i v m' l' hv hv2 k' => ?_, fun i v hv y hy => ?_, fun i j v v' y hv hv' hy hy' => ?_⟩
  · rcases cas i v hv with ⟨rfl, rfl⟩ | ⟨rfl, rfl⟩ | ⟨h1, h2, h3⟩
    · refine ⟨⟨p, kd, x, k⟩, by simp, ?_⟩
      have : ¬ (es.length = base) := by omega
      simpa [this] using hu
    · obtain ⟨e, he, ht⟩ := h.at_ i t hp
      exact ⟨e, by rw [List.getElem?_append_left hpl]; exact he, TI.at_names ht hm (fun y _ hy o ho => hk y o hy ho) hM⟩
    · obtain ⟨e, he, ht⟩ := h.at_ i v h3
      refine ⟨e, by rw [List.getElem?_append_left (h.lt h3)]; exact he, TI.at_keep ht (fun y hy o ho => hk y o ?_ ho)⟩
      rintro rfl
      exact h2 (h.inj i p v t y h3 hp hy (TI.mp_all hm))
  · by_cases hbp : base = p
    · subst hbp
      rw [hb0] at hp
      simp only [Option.some.injEq] at hp
      subst hp
      refine ⟨b0, m0, l ++ [(k, u.blk)], ?_⟩
      rw [if_neg (by omega), if_pos rfl]
      rfl
    · exact ⟨b0, m0, l0, by rw [if_neg (by omega), if_neg hbp]; exact hb0⟩
  · rcases cas i v hv with ⟨rfl, rfl⟩ | ⟨rfl, rfl⟩ | ⟨h1, h2, h3⟩
    · have := hum m' l' hv2
      subst this
      exact .inl ⟨findE_last (by simp) k', rfl⟩
    · rw [TI.setL_mp hm] at hv2
      simp only [Option.some.injEq, Prod.mk.injEq] at hv2
      obtain ⟨rfl, rfl⟩ := hv2
      rw [findE_snoc hpl k' hkd5, lkp_app k u.blk l k' hlk]
      by_cases hk' : k' = k
      · subst hk'
        refine .inr ⟨es.length, u, by simp [hf], by omega, by simp, by simp⟩
      · simp only [hk', and_false, if_false]
        rcases h.names i t m l hp hm k' with ⟨h1, h2⟩ | ⟨j, u', h1, h1', h2, h3⟩
        · exact .inl ⟨by simp [h1], h2⟩
        · refine .inr ⟨j, if j = i then t.setL (l ++ [(k, u.blk)]) else u', by simp [h1], h1', ?_, ?_⟩
          · have := h.lt h2
            rw [if_neg (by omega)]
            split
            · rfl
            · exact h2
          · split
            · rename_i hji
              subst hji
              rw [hp] at h2
              simp only [Option.some.injEq] at h2
              subst h2
              rw [TI.setL_blk]
              exact h3
            · exact h3
    · rw [findE_snoc (h.lt h3) k' hkd5]
      simp only [h2, false_and, if_false]
      rcases h.names i v m' l' h3 hv2 k' with ⟨h4, h5⟩ | ⟨j, u', h4, h4', h5, h6⟩
      · exact .inl ⟨by simp [h4], h5⟩
      · refine .inr ⟨j, if j = p then t.setL (l ++ [(k, u.blk)]) else u', by simp [h4], h4', ?_, ?_⟩
        · have := h.lt h5
          rw [if_neg (by omega)]
          split
          · rfl
          · exact h5
        · split
          · rename_i hji
            subst hji
            rw [hp] at h5
            simp only [Option.some.injEq] at h5
            subst h5
            rw [TI.setL_blk]
            exact h6
          · exact h6
  · rcases al i v hv with ⟨rfl, rfl⟩ | ⟨v0, h1, h2⟩
    · exact hul y hy
    · rw [h2] at hy
      exact h.low i v0 h1 y hy
  · rcases al i v hv with ⟨rfl, rfl⟩ | ⟨v0, h1, h2⟩
    · rcases al j v' hv' with ⟨rfl, rfl⟩ | ⟨v0', h1', h2'⟩
      · rfl
      · rw [h2'] at hy'
        have := h.all_lt h1' y hy'
        have := huf y hy
        omega
    · rw [h2] at hy
      rcases al j v' hv' with ⟨rfl, rfl⟩ | ⟨v0', h1', h2'⟩
      · have := h.all_lt h1 y hy
        have := huf y hy'
        omega
      · rw [h2'] at hy'
        exact h.inj i j v0 v0' y h1 h1' hy hy'

theorem Ext.add {f : Nat → Option TI} {n p : Nat} {t u : TI} {l} (hn : f n = none) (hp : f p = some t) : Ext f (fun j => if j = n then some u else if j = p then some (t.setL l) else f j) := by
  intro i v hv
  have hin : i ≠ n := by rintro rfl; rw [hn] at hv; cases hv
  by_cases hip : i = p
  · subst hip
    rw [hp] at hv
    simp only [Option.some.injEq] at hv
    subst hv
    exact ⟨l, by simp [hin]⟩
  · obtain ⟨l', hl'⟩ := v.setL_self
    exact ⟨l', by simp only [if_neg hin, if_neg hip]; rw [hl']; exact hv⟩

theorem J.none_at {B K w base es f} (h : J B K w base es f) : f es.length = none := by
  cases hf : f es.length with
  | none => rfl
  | some t => have := h.lt hf; omega

/-- The first thing. -/
theorem J.one {B K w base es b m way} (hO : Ord es) (hb : base + 1 = es.length) (h1 : w.heap[b]? = some (.cells (tabC way m) 81 (0, 0))) (h2 : MP w m []) (hB : B ≤ b) (hm : B ≤ m) : J B K w base es (fun j => if j = base then some (.tab b m []) else none) := by
  have hcas : ∀ i t, (if i = base then some (TI.tab b m []) else none) = some t → i = base ∧ t = .tab b m [] := by
    intro i t h
    split at h
    · exact ⟨by assumption, by simpa using h.symm⟩
    · cases h
  refine ⟨hO, fun i t hi => ?_, ⟨b, m, [], by simp⟩, fun i t m' l' hi hp k => ?_, fun i t hi x hx => ?_, fun i j t u x hi hj _ _ => ?_⟩
  · obtain ⟨rfl, rfl⟩ := hcas i t hi
    exact ⟨es[i], List.getElem?_eq_getElem (by omega), ⟨way, h1, fun h => absurd rfl h⟩, h2⟩
  · obtain ⟨rfl, rfl⟩ := hcas i t hi
    simp only [TI.mp, Option.some.injEq, Prod.mk.injEq] at hp
    obtain ⟨rfl, rfl⟩ := hp
    exact .inl ⟨findE_last (by omega) k, rfl⟩
  · obtain ⟨rfl, rfl⟩ := hcas i t hi
    simp only [TI.all, List.mem_cons, List.not_mem_nil, or_false] at hx
    rcases hx with rfl | rfl
    · exact hB
    · exact hm
  · rw [(hcas i t hi).1, (hcas j u hj).1]

end Go.Proofs.YtaccphdkapmdhaaGreat

namespace Go.Proofs.YtaccphdkapmdhaaGreat
attribute [local irreducible] binOp IntKind.wrap Sem.run

theorem bdTab (way m : Nat) (w : World) : (Instr.build 81 ⟨[(0, .int .i64 0), (1, .int .i64 (way : Int)), (2, .map (some m))]⟩).run PP w = .ok (.agg (tabC way m)) w := by kernel_rfl

/-- A new table. -/
theorem mtab_any (way : Nat) (w : World) : Calls PP 30 #[.int .i64 (way : Int)] w fun e w' => ∃ b m, e = .returned (pt b) ∧ w.heap.size ≤ b ∧ w.heap.size ≤ m ∧ w'.heap[b]? = some (.cells (tabC way m) 81 (0, 0)) ∧ MP w' m [] ∧ Up w.heap.size w w' := by
  refine enter (L := [(0, .int .i64 (way : Int))]) Tryz.func30 rfl rfl rfl ⟨rfl, trivial⟩ ?_
  repeat (first | refine WL.pp rfl ?_ | refine WL.ns ?_ | refine WC.sr ?_)
  refine WL.mm rfl rfl rfl (fun w1 hA => ?_)
  skip
  refine WL.bd rfl rfl (bdTab way _) rfl ?_
  refine WL.bx rfl rfl rfl (fun w2 hA2 => ?_)
  have hM := MP.new hA
  have hsz : w1.heap.size = w.heap.size + 1 := hA.size
  repeat (first | refine WL.pp rfl ?_ | refine WL.ns ?_ | refine WC.ret ?_)
  exact X.ret_ rfl rfl ⟨_, _, rfl, by omega, Nat.le_refl _, hA2.at_, hM.keep (fun o ho => hA2.keep ho), (hA.up (Nat.le_refl _)).trans (hA2.up (by omega))⟩

/-- The table at which names below an entry are looked up. -/
theorem J.tb {B K w base es f i t} (h : J B K w base es f) (hi : f i = some t) (hm : t.mp ≠ none) : ∃ way m l, t.mp = some (m, l) ∧ w.heap[t.tbl]? = some (.cells (tabC way m) 81 (0, 0)) ∧ MP w m l := by
  obtain ⟨e, _, ht⟩ := h.at_ i t hi
  cases t with
  | val b => exact absurd rfl hm
  | tab b m l =>
    obtain ⟨⟨way, h1, _⟩, h2⟩ := ht
    exact ⟨way, m, l, rfl, h1, h2⟩
  | lst b s tb m l =>
    obtain ⟨_, _, ⟨way, h1⟩, h2⟩ := ht
    exact ⟨way, m, l, rfl, h1, h2⟩

theorem Ext.mp {f f' : Nat → Option TI} (h : Ext f f') {i t} (hi : f i = some t) : ∃ t', f' i = some t' ∧ t'.tbl = t.tbl ∧ t'.blk = t.blk ∧ (t.mp ≠ none → t'.mp ≠ none) := by
  obtain ⟨l, hl⟩ := h i t hi
  exact ⟨_, hl, TI.setL_tbl _ _, TI.setL_blk _ _, by cases t <;> simp [TI.mp, TI.setL]⟩

/-- Only maps have turned. -/
def Nm (w w' : World) : Prop := ∀ (x : Nat) (o : Obj), w.heap[x]? = some o → tag o ≠ 1000 → w'.heap[x]? = some o

theorem Nm.refl (w : World) : Nm w w := fun _ _ h _ => h
theorem Nm.trans {a b c : World} (h : Nm a b) (g : Nm b c) : Nm a c := fun x o ho ht => g x o (h x o ho ht) ht
theorem Up.nm {w w' : World} (h : Up w.heap.size w w') : Nm w w' := fun _ _ ho _ => h.at (lt_of_heap ho) ho
theorem MP.nm {w w' : World} {m : Nat} {l} {o : Obj} (h : MP w m l) (hS : St w m o w') : Nm w w' := fun x o' ho ht => hS.keep ho (by
  rintro rfl
  obtain ⟨mes, mc, hm, _⟩ := h
  rw [hm] at ho
  cases ho
  exact ht rfl)

set_option maxRecDepth 100000 in
set_option maxHeartbeats 32000000 in
theorem walk_any (B K base r : Nat) (es : List Ent) (f : Nat → Option TI) (P : Nat → Prop) (kv : Value) (ks : List Bs) (w : World) (hJ : J B K w base es f) (t0 : TI) (hr : f base = some t0) (hrt : t0.tbl = r) (hr0 : t0.mp ≠ none)
    (hR : RS w P kv ks) (hP : ∀ b, P b → b < B) (h0 : ks ≠ []) (hB : B ≤ w.heap.size) (hks : ks.length ≤ 1000000000) :
    Calls PP 32 #[pt r, kv] w fun e w' => ∃ es' o f', ckH ks es base = (es', o) ∧ J B K w' base es' f' ∧ Ext f f' ∧ (Up B w w' ∧ Nm w w') ∧
      ((o = none ∧ e = .returned (.pointer none)) ∨ ∃ p k t, o = some (p, k) ∧ ks[ks.length - 1]? = some k ∧ f' p = some t ∧ t.mp ≠ none ∧ e = .returned (pt t.tbl)) := by
  obtain ⟨ad, cap, rfl, hrow⟩ := hR
  obtain ⟨b, dcs, fz, ⟨hPb, hcap⟩, rfl, hb, hdc⟩ := hrow h0
  have hbB := hP b hPb
  have hl0 : 0 < ks.length := List.length_pos_iff.2 h0
  clear hrow
  refine enter (L := [(0, pt r), (1, .slice (some ⟨b, 0, none⟩) ks.length cap)]) Tryz.func32 rfl rfl rfl ⟨rfl, rfl, trivial⟩ ?_
  repeat (first | refine WL.pp rfl ?_ | refine WL.ns ?_ | refine WC.sr ?_ | refine WL.s0 (ks.length - 1) rfl rfl (by simp only [Option.getD]; omega) (by omega) rfl ?_ | refine WC.seq ?_ | refine WC.block ?_ | refine WL.su rfl rfl (by omega) rfl ?_)
  refine WC.loop (σ := Nat × List Ent × (Nat → Option TI) × Nat × Nat) (I := fun s w' => J B K w' base s.2.1 s.2.2.1 ∧ Ext f s.2.2.1 ∧ (Up B w w' ∧ Nm w w') ∧ s.1 + 1 ≤ ks.length ∧ ckH (ks.drop s.1) s.2.1 s.2.2.2.1 = ckH ks es base ∧ ∃ t, s.2.2.1 s.2.2.2.1 = some t ∧ t.mp ≠ none ∧ t.tbl = s.2.2.2.2)
    (m := fun s => ks.length - s.1) (Lf := fun s => [(0, pt s.2.2.2.2), (4, .pointer none), (13, .slice (some ⟨b, 0, none⟩) (ks.length - 1) cap), (14, .int .i64 ((ks.length - 1 : Nat) : Int)), (15, .int .i64 (s.1 : Int))])
    (0, es, f, base, r) ⟨hJ, Ext.refl f, ⟨Up.refl _ _, Nm.refl _⟩, by omega, rfl, t0, hr, hr0, hrt⟩ ⟨rfl, rfl, rfl, rfl, rfl, trivial⟩ ?_
  clear hJ hr hrt hr0
  rintro ⟨m, es1, f1, p, q⟩ w1 ⟨hJ, hE, ⟨hU, hNm⟩, hm, hck, t, ht, htm, htq⟩
  dsimp only at hJ hE hm hck ht htq ⊢
  obtain ⟨k, hk⟩ : ∃ k, ks[m]? = some k := ⟨_, List.getElem?_eq_getElem (by omega)⟩
  have hdrop : ks.drop m = k :: ks.drop (m + 1) := (List.drop_eq_getElem?_toList_append).trans (by rw [hk]; rfl)
  obtain ⟨way, mb, l, hmp, hth, hM⟩ := hJ.tb ht htm
  rw [htq] at hth
  by_cases hlt : m < ks.length - 1
  · have hck0 : w1.cell? ⟨b, m, none⟩ = some (str k) := cell_of (hU.at hbB hb) (hdc m k hk)
    obtain ⟨k2, hk2⟩ : ∃ k2, ks[m + 1]? = some k2 := ⟨_, List.getElem?_eq_getElem (by omega)⟩
    have hdrop2 : ks.drop (m + 1) = k2 :: ks.drop (m + 1 + 1) := (List.drop_eq_getElem?_toList_append).trans (by rw [hk2]; rfl)
    repeat (first | refine WL.pp rfl ?_ | refine WL.ns ?_ | refine WC.sr ?_ | refine WC.dT rfl (by first | omega | decide) ?_ | refine WL.ix (i := m) rfl rfl rfl hlt (by rw [Nat.zero_add, Nat.mul_one]; rfl) ?_ | refine WL.ld rfl rfl hck0 rfl ?_ | refine WL.ldB rfl rfl hth rfl rfl ?_ | refine WL.lk (m := mb) (k := k) l rfl rfl hM rfl ?_ | refine WC.seq ?_ | refine WC.block ?_ | refine X.sn ?_ | refine WC.skip ?_)
    rcases hJ.names p t mb l ht hmp k with ⟨hfn, hlk⟩ | ⟨j, u, hfj, hjb, hu, hlk⟩
    · rw [hlk]
      simp only [Option.isSome_none, ptO]
      repeat (first | refine WC.sr ?_ | refine WC.bT rfl (by first | with_reducible rfl | exact Bool.not_false) ?_)
      refine WL.call rfl rfl rfl (mtab_any 0 w1) ?_
      rintro e w2 ⟨b2, m2, rfl, hb2, hm2, hc2, hM2, hU2⟩
      refine ⟨_, _, rfl, rfl, ?_⟩
      have hth2 := hU2.at (lt_of_heap hth) hth
      have hMl := hM.lt
      repeat (first | refine WL.pp rfl ?_ | refine WL.ns ?_ | refine WL.ldB rfl rfl hth2 rfl rfl ?_ | refine WC.reg ?_)
      refine WL.mup (m := mb) (k := k) (b := b2) l rfl rfl (hM.keep (fun o ho => hU2.at hMl ho)) hlk rfl (fun w3 ob hS3 hM3 hob => ?_)
      have hc3 := hS3.keep hc2 (by omega)
      have hsz2 := hU2.size
      have hJ3 := hJ.add ht hmp k hfn 3 false (by omega) (by omega) (by omega) (.tab b2 m2 []) (w' := w3) ⟨⟨0, hc3, fun _ => .inr ⟨rfl, rfl⟩⟩, hM2.keep (fun o ho => hS3.keep ho (by omega))⟩
        (fun y hy => by simp only [TI.all, List.mem_cons, List.not_mem_nil, or_false] at hy; have := hU.size; rcases hy with rfl | rfl <;> omega)
        (fun y hy => by simp only [TI.all, List.mem_cons, List.not_mem_nil, or_false] at hy; rcases hy with rfl | rfl <;> omega)
        (fun m' l' h' => by simp only [TI.mp, Option.some.injEq, Prod.mk.injEq] at h'; exact h'.2.symm)
        (fun y o hy ho => hS3.keep (hU2.at (lt_of_heap ho) ho) hy) hM3
      have hMB : B ≤ mb := hJ.low p t ht mb (TI.mp_all hmp)
      have hU3 : Up B w w3 := (hU.trans (hU2.mono (Nat.le_trans hB hU.size))).trans (hS3.up hMB)
      repeat (first | refine WL.pp rfl ?_ | refine WL.ns ?_ | refine WC.sr ?_ | refine WC.dF rfl (by first | omega | decide) ?_ | refine WL.ldB rfl rfl hc3 rfl rfl ?_ | refine WL.p rfl ?_ | refine WC.seq ?_ | refine WC.reg ?_ | refine WC.block ?_ | refine WL.nil ?_ | refine X.sn ?_ | refine X.bn ?_ | refine WC.skip ?_ | refine WL.ad rfl rfl (by omega) rfl ?_ | refine WL.gF rfl rfl (by first | omega | decide) ?_)
      refine X.again (m + 1, es1 ++ [⟨p, 3, false, k⟩], _, es1.length, b2) ⟨hJ3, hE.trans (Ext.add hJ.none_at ht), ⟨hU3, hNm.trans (hU2.nm.trans ((hM.keep (fun o ho => hU2.at hMl ho)).nm hS3))⟩, by dsimp only; omega, ?_, .tab b2 m2 [], if_pos rfl, by simp [TI.mp], rfl⟩ (by dsimp only; omega) ⟨rfl, rfl, rfl, rfl, rfl, trivial⟩
      dsimp only
      rw [← hck, hdrop, hdrop2]
      simp only [ckH, hfn]
    · rw [hlk]
      simp only [Option.isSome_some, ptO]
      obtain ⟨ej, hej, htj⟩ := hJ.at_ j u hu
      have hckd : ckH (ks.drop m) es1 p = if ej.kind = 2 ∨ ej.kind = 3 ∨ ej.kind = 4 then ckH (ks.drop (m + 1)) es1 j else (es1, none) := by
        rw [hdrop, hdrop2]
        simp only [ckH, hfj, kindE, hej]
      repeat (first | refine WL.pp rfl ?_ | refine WC.sr ?_ | refine WC.bF rfl (by first | with_reducible rfl | exact Bool.not_true) ?_ | refine WC.seq ?_ | refine WC.block ?_ | refine X.sn ?_ | refine WC.skip ?_)
      cases u with
      | val bv =>
        obtain ⟨hk1, kd, wy, x, y, hbv, hkw⟩ := htj
        simp only [TI.blk]
        rw [if_neg (by omega)] at hckd
        rcases hkw with ⟨rfl, rfl⟩ | ⟨rfl, rfl⟩
        · repeat (first | refine WL.pp rfl ?_ | refine WL.ns ?_ | refine WC.sr ?_ | refine WC.bT rfl (by first | with_reducible rfl | exact Bool.not_false) ?_ | refine WL.ldB rfl rfl hbv rfl rfl ?_ | refine WL.p rfl ?_ | refine X.sr ?_ | refine X.br ?_ | refine WC.ret ?_ | refine WL.gT rfl rfl (by first | omega | decide) ?_)
          exact X.ret_ rfl rfl ⟨es1, none, f1, by rw [← hck, hckd], hJ, hE, ⟨hU, hNm⟩, .inl ⟨rfl, rfl⟩⟩
        · repeat (first | refine WL.pp rfl ?_ | refine WL.ns ?_ | refine WC.sr ?_ | refine WC.dT rfl (by first | omega | decide) ?_ | refine WL.ldB rfl rfl hbv rfl rfl ?_ | refine WL.p rfl ?_ | refine X.sr ?_ | refine X.br ?_ | refine WC.ret ?_ | refine WL.gF rfl rfl (by first | omega | decide) ?_)
          exact X.ret_ rfl rfl ⟨es1, none, f1, by rw [← hck, hckd], hJ, hE, ⟨hU, hNm⟩, .inl ⟨rfl, rfl⟩⟩
      | tab bt mt lt =>
        obtain ⟨⟨wy, hbt, hw⟩, hMt⟩ := htj
        simp only [TI.blk]
        have hw' := hw hjb
        rw [if_pos (by omega)] at hckd
        have hwy : (wy : Int) ≠ 3 := by
          rcases hw' with ⟨_, rfl⟩ | ⟨_, rfl⟩
          · omega
          · cases ej.expl <;> simp
        repeat (first | refine WL.pp rfl ?_ | refine WL.ns ?_ | refine WC.sr ?_ | refine WC.dF rfl (by first | omega | decide) ?_ | refine WL.ldB rfl rfl hbt rfl rfl ?_ | refine WL.p rfl ?_ | refine WC.reg ?_ | refine WL.nil ?_ | refine X.sn ?_ | refine X.bn ?_ | refine WC.skip ?_ | refine WL.ad rfl rfl (by omega) rfl ?_ | refine WL.gF rfl rfl (by first | omega | decide) ?_)
        exact X.again (m + 1, es1, f1, j, bt) ⟨hJ, hE, ⟨hU, hNm⟩, by dsimp only; omega, by rw [← hck, hckd], .tab bt mt lt, hu, by simp [TI.mp], rfl⟩ (by dsimp only; omega) ⟨rfl, rfl, rfl, rfl, rfl, trivial⟩
      | lst bl sl tl ml ll =>
        obtain ⟨hk4, ⟨v, n, xs, hbl, hO, hv, hn0, hn1, hxs⟩, ⟨wy, htl⟩, hMl⟩ := htj
        simp only [TI.blk]
        rw [if_pos (by omega)] at hckd
        rcases hO.2 with ⟨rfl, _⟩ | ⟨g, cp, cur, rfl, hgB, hg, hgc, hgm, hgs, hgt⟩
        · simp [Value.ownBlock] at hv
        have hgm2 : cp ≤ 9223372036854775807 := hgm
        repeat (first | refine WL.pp rfl ?_ | refine WL.ns ?_ | refine WC.sr ?_ | refine WC.dT rfl (by first | omega | decide) ?_ | refine WC.dF rfl (by first | omega | decide) ?_ | refine WL.ldB rfl rfl hbl rfl rfl ?_ | refine WL.p rfl ?_ | refine WL.gF rfl rfl (by first | omega | decide) ?_)
        have hd : w1.drew.heap = w1.heap := rfl
        have k3 : ∀ w' : World, w'.heap = w1.heap → w'.cell? ⟨bl, 3, none⟩ = some (.slice (some ⟨g, 0, none⟩) n cp) := fun w' hw => cell_of (by rw [hw]; exact hbl) rfl
        have hcx : cur[0 + (n - 1) * 1]? = some (pt tl) := by
          rw [← hgt, Nat.mul_one, List.getElem?_take, if_pos (by omega)] at hxs
          rw [Nat.zero_add, Nat.mul_one]
          simpa using hxs
        have k5 : ∀ w' : World, w'.heap = w1.heap → w'.cell? ⟨g, 0 + (n - 1) * 1, none⟩ = some (pt tl) := fun w' hw => cell_of (by rw [hw]; exact hg) hcx
        refine WC.drx (fun w' => w'.heap = w1.heap) ?_
        repeat (first | refine WX.p (by kernel_rfl) (by first | trivial | assumption) rfl ?_ | refine WX.ld (by kernel_rfl) hd rfl rfl k3 rfl ?_ | refine WX.ix (i := n - 1) (by kernel_rfl) hd rfl rfl (by omega) (by omega) rfl ?_ | refine WX.ld (by kernel_rfl) hd rfl rfl k5 rfl ?_ | refine WX.su (by kernel_rfl) (by first | trivial | assumption) rfl rfl (by omega) rfl ?_)
        refine WX.nil ?_
        repeat (first | refine WL.pp rfl ?_ | refine WC.reg ?_ | refine WL.nil ?_ | refine X.sn ?_ | refine X.bn ?_ | refine WL.ad rfl rfl (by omega) rfl ?_)
        exact X.again (m + 1, es1, f1, j, tl) ⟨hJ.keep (fun _ _ _ ho => ho), hE, ⟨hU.drew, fun x o ho ht => hNm x o ho ht⟩, by dsimp only; omega, by rw [← hck, hckd], _, hu, by simp [TI.mp], rfl⟩ (by dsimp only; omega) ⟨rfl, rfl, rfl, rfl, rfl, trivial⟩
  · have hme : m = ks.length - 1 := by omega
    have hnil : ks.drop (m + 1) = [] := List.drop_eq_nil_of_le (by omega)
    have hckd : ckH (ks.drop m) es1 p = (es1, some (p, k)) := by
      rw [hdrop, hnil]
      rfl
    repeat (first | refine WL.pp rfl ?_ | refine WL.ns ?_ | refine WC.sr ?_ | refine WC.dF rfl (by first | omega | decide) ?_ | refine WC.seq ?_ | refine X.sn ?_ | refine X.sx ?_ | refine X.bx ?_ | refine WC.exit ?_ | refine WC.ret ?_)
    refine X.ret_ rfl rfl ⟨es1, some (p, k), f1, by rw [← hck, hckd], hJ, hE, ⟨hU, hNm⟩, .inr ⟨p, k, t, rfl, by rw [← hme]; exact hk, ht, htm, by rw [htq]; rfl⟩⟩

end Go.Proofs.YtaccphdkapmdhaaGreat

