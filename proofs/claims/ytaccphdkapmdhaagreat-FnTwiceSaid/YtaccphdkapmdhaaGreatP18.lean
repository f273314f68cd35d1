/- A value is put at a key with points. What values stand for. A table's own head; a list's next table: what is found behind them. A list's next table. No condition. -/
import Derived.Test.YtaccphdkapmdhaaGreatP17
namespace Go.Proofs.YtaccphdkapmdhaaGreat

/-- Entries that came behind, none of them ahead of p. -/
def Beh (p : Nat) (es es' : List Ent) : Prop := ∃ more, es' = es ++ more ∧ ∀ e ∈ more, (p : Int) ≤ e.parent

theorem Beh.refl (p : Nat) (es : List Ent) : Beh p es es := ⟨[], by simp, by simp⟩
theorem Beh.trans {p q : Nat} {a b c : List Ent} (h : Beh p a b) (g : Beh q b c) (hq : p ≤ q) : Beh p a c := by
  obtain ⟨x, rfl, hx⟩ := h
  obtain ⟨y, rfl, hy⟩ := g
  refine ⟨x ++ y, by simp, fun e he => ?_⟩
  rcases List.mem_append.1 he with h | h
  · exact hx e h
  · have := hy e h; omega
theorem Beh.snoc (p : Nat) (es : List Ent) (k : Nat) (x : Bool) (nm : Bs) : Beh p es (es ++ [⟨p, k, x, nm⟩]) := ⟨_, rfl, by simp⟩
theorem Beh.len {p : Nat} {es es' : List Ent} (h : Beh p es es') : es.length ≤ es'.length := by
  obtain ⟨x, rfl, _⟩ := h
  simp

theorem ckK_beh {f : List Ent → Nat → List Ent × Bool} (hf : ∀ es id, id < es.length → Beh id es (f es id).1) : ∀ (ks : List Bs) (es : List Ent) (p : Nat), p < es.length → Beh p es (ckK f ks es p).1
  | [], es, p, _ => Beh.refl p es
  | [k], es, p, hp => by
    simp only [ckK]
    split
    · exact Beh.refl p es
    · exact (Beh.snoc p es 1 false k).trans (hf _ es.length (by simp)) (by omega)
  | k :: k2 :: ks, es, p, hp => by
    simp only [ckK]
    split
    · exact (Beh.snoc p es 2 false k).trans (ckK_beh hf (k2 :: ks) _ es.length (by simp)) (by omega)
    · rename_i i hi
      split
      · have := findE_some hi
        exact (Beh.refl p es).trans (ckK_beh hf (k2 :: ks) es i (findE_lt hi)) (by omega)
      · exact Beh.refl p es

mutual
theorem ckV_beh : ∀ (v : Val) (es : List Ent) (id : Nat), id < es.length → Beh id es (ckV v es id).1
  | .sc _ _, es, id, _ => by rw [ckV]; exact Beh.refl _ _
  | .arr vs, es, id, h => by rw [ckV]; exact ckIs_beh vs es id h
  | .tbl ts, es, id, h => by rw [ckV]; exact ckEs_beh ts es id h
theorem ckIs_beh : ∀ (vs : List Val) (es : List Ent) (id : Nat), id < es.length → Beh id es (ckIs vs es id).1
  | [], es, id, _ => by rw [ckIs]; exact Beh.refl _ _
  | v :: vs, es, id, h => by
    rw [ckIs]
    split
    · exact ckIs_beh vs es id h
    · have h1 := ckV_beh v (es ++ [⟨id, 5, false, []⟩]) es.length (by simp)
      have h2 : Beh id es (ckV v (es ++ [⟨id, 5, false, []⟩]) es.length).1 := (Beh.snoc id es 5 false []).trans h1 (by omega)
      split
      · rename_i es' he
        rw [he] at h2
        exact h2.trans (ckIs_beh vs es' id (by have := h2.len; simp only at this; omega)) (Nat.le_refl _)
      · rename_i es' he
        rw [he] at h2
        exact h2
theorem ckEs_beh : ∀ (ts : List (List Bs × Val)) (es : List Ent) (id : Nat), id < es.length → Beh id es (ckEs ts es id).1
  | [], es, id, _ => by rw [ckEs]; exact Beh.refl _ _
  | (ks, v) :: ts, es, id, h => by
    rw [ckEs]
    have h2 : Beh id es (ckK (ckV v) ks es id).1 := ckK_beh (fun es id h => ckV_beh v es id h) ks es id h
    split
    · rename_i es' he
      rw [he] at h2
      exact h2.trans (ckEs_beh ts es' id (by have := h2.len; simp only at this; omega)) (Nat.le_refl _)
    · rename_i es' he
      rw [he] at h2
      exact h2
end

theorem ckIs_app : ∀ (a b : List Val) (es : List Ent) (id : Nat), ckIs (a ++ b) es id = if (ckIs a es id).2 then ckIs b (ckIs a es id).1 id else ckIs a es id
  | [], b, es, id => by simp [ckIs]
  | v :: a, b, es, id => by
    simp only [List.cons_append, ckIs]
    split
    · exact ckIs_app a b es id
    · split
      · rename_i es' he
        exact ckIs_app a b es' id
      · simp

theorem ckEs_app : ∀ (a b : List (List Bs × Val)) (es : List Ent) (id : Nat), ckEs (a ++ b) es id = if (ckEs a es id).2 then ckEs b (ckEs a es id).1 id else ckEs a es id
  | [], b, es, id => by simp [ckEs]
  | (ks, v) :: a, b, es, id => by
    simp only [List.cons_append, ckEs]
    obtain ⟨⟨es', ok⟩, hr⟩ : ∃ r, ckK (ckV v) ks es id = r := ⟨_, rfl⟩
    simp only [hr]
    cases ok
    · simp
    · exact ckEs_app a b es' id

attribute [local irreducible] binOp IntKind.wrap Sem.run

mutual
/-- Values of kinds and sizes that can be. -/
def MkV : Val → Prop
  | .sc k _ => k < 8
  | .arr vs => vs.length ≤ 1000000000 ∧ MkI vs
  | .tbl es => es.length ≤ 1000000000 ∧ MkE es
def MkI : List Val → Prop
  | [] => True
  | v :: vs => MkV v ∧ MkI vs
def MkE : List (List Bs × Val) → Prop
  | [] => True
  | (ks, v) :: es => (ks ≠ [] ∧ ks.length ≤ 1000000000) ∧ MkV v ∧ MkE es
end

theorem MkI.mem : ∀ {vs : List Val}, MkI vs → ∀ v ∈ vs, MkV v
  | [], _, v, hv => by simp at hv
  | u :: us, h, v, hv => by
    simp only [MkI] at h
    rcases List.mem_cons.1 hv with e | hv
    · rw [e]; exact h.1
    · exact MkI.mem h.2 v hv
theorem MkE.mem : ∀ {es : List (List Bs × Val)}, MkE es → ∀ ks v, (ks, v) ∈ es → (ks ≠ [] ∧ ks.length ≤ 1000000000) ∧ MkV v
  | [], _, ks, v, hv => by simp at hv
  | (ks', u) :: us, h, ks, v, hv => by
    simp only [MkE] at h
    rcases List.mem_cons.1 hv with e | hv
    · simp only [Prod.mk.injEq] at e
      rw [e.1, e.2]; exact ⟨h.1, h.2.1⟩
    · exact MkE.mem h.2.2 ks v hv

/-- What 'made' does with a value. -/
def MadeV (v : Val) : Prop := ∀ (es : List Ent) (id : Nat), MkV v → Ord es → id + 1 = es.length → ∀ (P : Nat → Prop) (a b c d : Value) (w : World), Nd w P v a b c → oneV d = true → (∀ g, P g → g < w.heap.size) →
  Calls PP 58 #[.agg ⟨[a, b, c, d]⟩] w fun e w' => ∃ (st x kd way : Nat) (y z : Value), e = .returned (.tuple #[pt x, .int .i64 (st : Int)]) ∧ w.heap.size ≤ x ∧ w'.heap[x]? = some (.cells ⟨[.int .i64 (kd : Nat), .int .i64 (way : Nat), y, z]⟩ 81 (0, 0)) ∧ (kd = 2 ∧ way = 0 ∨ kd = 0 ∧ way = 3) ∧
    Up w.heap.size w w' ∧ (st = 0 ↔ (ckV v es id).2 = true)

set_option maxRecDepth 100000 in
set_option maxHeartbeats 32000000 in
theorem put_any (v : Val) (hv : MadeV v) (hmk : MkV v) (B K base p q : Nat) (es : List Ent) (f : Nat → Option TI) (t0 : TI) (P : Nat → Prop) (kv : Value) (ks : List Bs) (a b' c d : Value) (w : World) (hJ : J B K w base es f) (hp : f p = some t0) (hp0 : t0.mp ≠ none) (hpq : t0.tbl = q)
    (hR : RS w P kv ks) (hN : Nd w P v a b' c) (hd : oneV d = true) (hP : ∀ b, P b → b < B) (h0 : ks ≠ []) (hB : B ≤ w.heap.size) (hks : ks.length ≤ 1000000000) :
    Calls PP 31 #[pt q, kv, .agg ⟨[a, b', c, d]⟩] w fun e w' => ∃ (st : Nat) (es' : List Ent) (f' : Nat → Option TI), e = .returned (.int .i64 (st : Int)) ∧ J B K w' base es' f' ∧ Ext f f' ∧ Up B w w' ∧
      ((st = 0 ∧ ckK (ckV v) ks es p = (es', true)) ∨ (st ≠ 0 ∧ (ckK (ckV v) ks es p).2 = false)) := by
  obtain ⟨ad, cap, rfl, hrow⟩ := hR
  obtain ⟨b, dcs, fz, ⟨hPb, hcap⟩, rfl, hb, hdc⟩ := hrow h0
  have hbB := hP b hPb
  have hl0 : 0 < ks.length := List.length_pos_iff.2 h0
  clear hrow
  obtain ⟨o1, o2, o3, _⟩ := hN.one
  refine enter (L := [(0, pt q), (1, .slice (some ⟨b, 0, none⟩) ks.length cap), (2, .agg ⟨[a, b', c, d]⟩)]) Tryz.func31 rfl rfl rfl ⟨rfl, rfl, rfl, trivial⟩ ?_
  repeat (refine WC.sr ?_)
  refine WL.bx rfl rfl rfl (fun w0 hA0 => ?_)
  repeat (first | refine WL.pp rfl ?_ | refine WL.ns ?_ | refine WC.sr ?_ | refine WL.s0 (ks.length - 1) rfl rfl (by simp only [Option.getD]; omega) (by omega) rfl ?_ | refine WC.seq ?_ | refine WC.block ?_ | refine WL.su rfl rfl (by omega) rfl ?_)
  have hJ0 : J B K w0 base es f := hJ.keep (fun x o _ ho => hA0.keep ho)
  have hbx := hA0.at_
  have hU0 : Up B w w0 := hA0.up hB
  have hsz0 : w0.heap.size = w.heap.size + 1 := hA0.size
  generalize hnb : w.heap.size = nb at *
  clear hA0
  refine WC.loop (σ := Nat × List Ent × (Nat → Option TI) × Nat × Nat) (I := fun s w' => J B K w' base s.2.1 s.2.2.1 ∧ Ext f s.2.2.1 ∧ Up B w w' ∧ s.1 + 1 ≤ ks.length ∧ ckK (ckV v) (ks.drop s.1) s.2.1 s.2.2.2.1 = ckK (ckV v) ks es p ∧ (∃ t, s.2.2.1 s.2.2.2.1 = some t ∧ t.mp ≠ none ∧ t.tbl = s.2.2.2.2) ∧
      w'.heap[nb]? = some (.cells ⟨[a, b', c, d]⟩ 37 (0, 0)))
    (m := fun s => ks.length - s.1) (Lf := fun s => [(0, pt s.2.2.2.2), (1, .slice (some ⟨b, 0, none⟩) ks.length cap), (5, pt nb), (6, .int .i64 0), (20, .slice (some ⟨b, 0, none⟩) (ks.length - 1) cap), (21, .int .i64 ((ks.length - 1 : Nat) : Int)), (22, .int .i64 (s.1 : Int))])
    (0, es, f, p, q) ⟨hJ0, Ext.refl f, hU0, by omega, rfl, ⟨t0, hp, hp0, hpq⟩, hbx⟩ ⟨rfl, rfl, rfl, rfl, rfl, rfl, rfl, trivial⟩ ?_
  clear hJ hJ0 hp hp0 hpq hU0 hbx hsz0
  rintro ⟨m, es1, f1, p1, q1⟩ w1 ⟨hJ, hE, hU, hm, hck, ⟨t, ht, htm, htq⟩, hbx⟩
  dsimp only at hJ hE hm hck ht htq ⊢
  obtain ⟨k, hk⟩ : ∃ k, ks[m]? = some k := ⟨_, List.getElem?_eq_getElem (by omega)⟩
  have hdrop : ks.drop m = k :: ks.drop (m + 1) := (List.drop_eq_getElem?_toList_append).trans (by rw [hk]; rfl)
  obtain ⟨way, mb, l, hmp, hth, hM⟩ := hJ.tb ht htm
  rw [htq] at hth
  have hszU := hU.size
  by_cases hlt : m < ks.length - 1
  · have hck0 : w1.cell? ⟨b, m, none⟩ = some (str k) := cell_of (hU.at hbB hb) (hdc m k hk)
    obtain ⟨k2, hk2⟩ : ∃ k2, ks[m + 1]? = some k2 := ⟨_, List.getElem?_eq_getElem (by omega)⟩
    have hdrop2 : ks.drop (m + 1) = k2 :: ks.drop (m + 1 + 1) := (List.drop_eq_getElem?_toList_append).trans (by rw [hk2]; rfl)
    repeat (first | refine WL.pp rfl ?_ | refine WL.ns ?_ | refine WC.sr ?_ | refine WC.dT rfl (by first | omega | decide) ?_ | refine WL.ix (i := m) rfl rfl rfl hlt (by rw [Nat.zero_add, Nat.mul_one]; rfl) ?_ | refine WL.ld rfl rfl hck0 rfl ?_ | refine WL.ldB rfl rfl hth rfl rfl ?_ | refine WL.lk (m := mb) (k := k) l rfl rfl hM rfl ?_ | refine WC.seq ?_ | refine WC.block ?_ | refine X.sn ?_ | refine WC.skip ?_)
    rcases hJ.names p1 t mb l ht hmp k with ⟨hfn, hlk⟩ | ⟨j, u, hfj, hjb, hu, hlk⟩
    · rw [hlk]
      simp only [Option.isSome_none, ptO]
      repeat (first | refine WC.sr ?_ | refine WC.bT rfl (by first | with_reducible rfl | exact Bool.not_false) ?_)
      refine WL.call rfl rfl rfl (mtab_any 2 w1) ?_
      rintro e w2 ⟨b2, m2, rfl, hb2, hm2, hc2, hM2, hU2⟩
      refine ⟨_, _, rfl, rfl, ?_⟩
      have hth2 := hU2.at (lt_of_heap hth) hth
      have hMl := hM.lt
      repeat (first | refine WL.pp rfl ?_ | refine WL.ns ?_ | refine WL.ldB rfl rfl hth2 rfl rfl ?_ | refine WC.reg ?_)
      refine WL.mup (m := mb) (k := k) (b := b2) l rfl rfl (hM.keep (fun o ho => hU2.at hMl ho)) hlk rfl (fun w3 ob hS3 hM3 hob => ?_)
      have hc3 := hS3.keep hc2 (by omega)
      have hsz2 := hU2.size
      have hJ3 := hJ.add ht hmp k hfn 2 false (by omega) (by omega) (by omega) (.tab b2 m2 []) (w' := w3) ⟨⟨2, hc3, fun _ => .inl ⟨rfl, rfl⟩⟩, hM2.keep (fun o ho => hS3.keep ho (by omega))⟩
        (fun y hy => by simp only [TI.all, List.mem_cons, List.not_mem_nil, or_false] at hy; rcases hy with rfl | rfl <;> omega)
        (fun y hy => by simp only [TI.all, List.mem_cons, List.not_mem_nil, or_false] at hy; rcases hy with rfl | rfl <;> omega)
        (fun m' l' h' => by simp only [TI.mp, Option.some.injEq, Prod.mk.injEq] at h'; exact h'.2.symm)
        (fun y o hy ho => hS3.keep (hU2.at (lt_of_heap ho) ho) hy) hM3
      have hMB : B ≤ mb := hJ.low p1 t ht mb (TI.mp_all hmp)
      have hU3 : Up B w w3 := (hU.trans (hU2.mono (by omega))).trans (hS3.up hMB)
      have hbm : nb ≠ mb := by
        rintro rfl
        obtain ⟨mes, mc, hmh, _⟩ := hM
        rw [hbx] at hmh
        cases hmh
      have hbx3 := hS3.keep (hU2.at (lt_of_heap hbx) hbx) hbm
      repeat (first | refine WL.pp rfl ?_ | refine WL.ns ?_ | refine WC.sr ?_ | refine WC.dF rfl (by first | omega | decide) ?_ | refine WL.ldB rfl rfl hc3 rfl rfl ?_ | refine WL.p rfl ?_ | refine WC.seq ?_ | refine WC.reg ?_ | refine WC.block ?_ | refine WL.nil ?_ | refine X.sn ?_ | refine X.bn ?_ | refine WC.skip ?_ | refine WL.ad rfl rfl (by omega) rfl ?_ | refine WL.gF rfl rfl (by first | omega | decide) ?_)
      refine X.again (m + 1, es1 ++ [⟨p1, 2, false, k⟩], _, es1.length, b2) ⟨hJ3, hE.trans (Ext.add hJ.none_at ht), hU3, by dsimp only; omega, ?_, ⟨.tab b2 m2 [], if_pos rfl, by simp [TI.mp], rfl⟩, hbx3⟩ (by dsimp only; omega) ⟨rfl, rfl, rfl, rfl, rfl, rfl, rfl, trivial⟩
      dsimp only
      rw [← hck, hdrop, hdrop2]
      simp only [ckK, hfn]
    · rw [hlk]
      simp only [Option.isSome_some, ptO]
      obtain ⟨ej, hej, htj⟩ := hJ.at_ j u hu
      have hckd : ckK (ckV v) (ks.drop m) es1 p1 = if ej.kind = 2 then ckK (ckV v) (ks.drop (m + 1)) es1 j else (es1, false) := by
        rw [hdrop, hdrop2]
        simp only [ckK, hfj, kindE, hej]
      repeat (first | refine WL.pp rfl ?_ | refine WC.sr ?_ | refine WC.bF rfl (by first | with_reducible rfl | exact Bool.not_true) ?_ | refine WC.seq ?_ | refine WC.block ?_ | refine X.sn ?_ | refine WC.skip ?_)
      cases u with
      | val bv =>
        obtain ⟨hk1, kd, wy, x, y, hbv, hkw⟩ := htj
        simp only [TI.blk]
        rw [if_neg (by omega)] at hckd
        rcases hkw with ⟨rfl, rfl⟩ | ⟨rfl, rfl⟩
        · repeat (first | refine WL.pp rfl ?_ | refine WL.ns ?_ | refine WC.sr ?_ | refine WC.bT rfl (by first | with_reducible rfl | exact Bool.not_false) ?_ | refine WL.ldB rfl rfl hbv rfl rfl ?_ | refine WL.p rfl ?_ | refine X.sr ?_ | refine X.br ?_ | refine WC.ret ?_ | refine WL.gT rfl rfl (by first | omega | decide) ?_)
          exact X.ret_ rfl rfl ⟨1, es1, f1, rfl, hJ, hE, hU, .inr ⟨by omega, by rw [← hck, hckd]⟩⟩
        · repeat (first | refine WL.pp rfl ?_ | refine WL.ns ?_ | refine WC.sr ?_ | refine WC.dT rfl (by first | omega | decide) ?_ | refine WL.ldB rfl rfl hbv rfl rfl ?_ | refine WL.p rfl ?_ | refine X.sr ?_ | refine X.br ?_ | refine WC.ret ?_ | refine WL.gF rfl rfl (by first | omega | decide) ?_)
          exact X.ret_ rfl rfl ⟨1, es1, f1, rfl, hJ, hE, hU, .inr ⟨by omega, by rw [← hck, hckd]⟩⟩
      | tab bt mt lt =>
        obtain ⟨⟨wy, hbt, hw⟩, hMt⟩ := htj
        simp only [TI.blk]
        rcases hw hjb with ⟨hk2', rfl⟩ | ⟨hk3, hwy⟩
        · rw [if_pos (by omega)] at hckd
          repeat (first | refine WL.pp rfl ?_ | refine WL.ns ?_ | refine WC.sr ?_ | refine WC.dF rfl (by first | omega | decide) ?_ | refine WL.ldB rfl rfl hbt rfl rfl ?_ | refine WL.p rfl ?_ | refine WC.reg ?_ | refine WL.nil ?_ | refine X.sn ?_ | refine X.bn ?_ | refine WC.skip ?_ | refine WL.ad rfl rfl (by omega) rfl ?_ | refine WL.gF rfl rfl (by first | omega | decide) ?_)
          exact X.again (m + 1, es1, f1, j, bt) ⟨hJ, hE, hU, by dsimp only; omega, by rw [← hck, hckd], ⟨.tab bt mt lt, hu, by simp [TI.mp], rfl⟩, hbx⟩ (by dsimp only; omega) ⟨rfl, rfl, rfl, rfl, rfl, rfl, rfl, trivial⟩
        · rw [if_neg (by omega)] at hckd
          cases hxe : ej.expl with
          | true =>
            rw [hxe] at hwy
            simp only [if_true] at hwy
            subst hwy
            repeat (first | refine WL.pp rfl ?_ | refine WL.ns ?_ | refine WC.sr ?_ | refine WC.bT rfl (by first | with_reducible rfl | exact Bool.not_false) ?_ | refine WL.ldB rfl rfl hbt rfl rfl ?_ | refine WL.p rfl ?_ | refine X.sr ?_ | refine X.br ?_ | refine WC.ret ?_ | refine WL.gT rfl rfl (by first | omega | decide) ?_ | refine WL.gF rfl rfl (by first | omega | decide) ?_)
            exact X.ret_ rfl rfl ⟨1, es1, f1, rfl, hJ, hE, hU, .inr ⟨by omega, by rw [← hck, hckd]⟩⟩
          | false =>
            rw [hxe] at hwy
            simp only [Bool.false_eq_true, if_false] at hwy
            subst hwy
            repeat (first | refine WL.pp rfl ?_ | refine WL.ns ?_ | refine WC.sr ?_ | refine WC.dT rfl (by first | omega | decide) ?_ | refine WC.dF rfl (by first | omega | decide) ?_ | refine WL.ldB rfl rfl hbt rfl rfl ?_ | refine WL.p rfl ?_ | refine X.sr ?_ | refine X.br ?_ | refine WC.ret ?_ | refine WL.gF rfl rfl (by first | omega | decide) ?_)
            exact X.ret_ rfl rfl ⟨2, es1, f1, rfl, hJ, hE, hU, .inr ⟨by omega, by rw [← hck, hckd]⟩⟩
      | lst bl sl tl ml ll =>
        obtain ⟨hk4, ⟨vl, n, xs, hbl, hO, hv, hn0, hn1, hxs⟩, ⟨wy, htl⟩, hMl⟩ := htj
        simp only [TI.blk]
        rw [if_neg (by omega)] at hckd
        repeat (first | refine WL.pp rfl ?_ | refine WL.ns ?_ | refine WC.sr ?_ | refine WC.bT rfl (by first | with_reducible rfl | exact Bool.not_false) ?_ | refine WL.ldB rfl rfl hbl rfl rfl ?_ | refine WL.p rfl ?_ | refine X.sr ?_ | refine X.br ?_ | refine WC.ret ?_ | refine WL.gT rfl rfl (by first | omega | decide) ?_)
        exact X.ret_ rfl rfl ⟨1, es1, f1, rfl, hJ, hE, hU, .inr ⟨by omega, by rw [← hck, hckd]⟩⟩
  · have hme : m = ks.length - 1 := by omega
    have hnil : ks.drop (m + 1) = [] := List.drop_eq_nil_of_le (by omega)
    have hck0 : w1.cell? ⟨b, m, none⟩ = some (str k) := cell_of (hU.at hbB hb) (hdc m k hk)
    repeat (first | refine WL.pp rfl ?_ | refine WL.ns ?_ | refine WC.sr ?_ | refine WC.dF rfl (by first | omega | decide) ?_ | refine WL.ix (i := m) rfl rfl (by omega) (by omega) (by rw [Nat.zero_add, Nat.mul_one]; rfl) ?_ | refine WL.ld rfl rfl hck0 rfl ?_ | refine WL.ldB rfl rfl hth rfl rfl ?_ | refine WL.lk (m := mb) (k := k) l rfl rfl hM rfl ?_ | refine WC.seq ?_ | refine X.sn ?_ | refine X.sx ?_ | refine X.bx ?_ | refine WC.exit ?_ | refine WL.su rfl rfl (by omega) rfl ?_)
    rcases hJ.names p1 t mb l ht hmp k with ⟨hfn, hlk⟩ | ⟨j, u, hfj, hjb, hu, hlk⟩
    · rw [hlk]
      simp only [Option.isSome_none, ptO]
      have hckd : ckK (ckV v) (ks.drop m) es1 p1 = ckV v (es1 ++ [⟨p1, 1, false, k⟩]) es1.length := by
        rw [hdrop, hnil]
        simp only [ckK, hfn]
      have hlc : ∀ (j : Nat) (x : Value), [a, b', c, d][j]? = some x → w1.cell? ⟨nb, 0 + j, none⟩ = some x := fun j x hx => cell_of hbx (by rw [Nat.zero_add, List.getElem?_toArray]; exact hx)
      repeat (first | refine WC.sr ?_ | refine WC.bF rfl (by first | with_reducible rfl | exact Bool.not_true) ?_ | refine WL.lg (cs := [a, b', c, d]) rfl rfl rfl hlc rfl ?_ | refine X.sn ?_ | refine WC.skip ?_)
      have hN1 : Nd w1 P v a b' c := Nd.move (fun g o hg ho _ => ⟨hU.at (hP g hg) ho, hg⟩) _ _ _ _ hN
      refine WL.call rfl rfl rfl (hv (es1 ++ [⟨p1, 1, false, k⟩]) es1.length hmk (hJ.ord.snoc (hJ.lt ht) (by omega) (by omega)) (by simp) P a b' c d w1 hN1 hd (fun g hg => by have := hP g hg; omega)) ?_
      rintro e w2 ⟨st, x, kd, wy, y, z, rfl, hx1, hx2, hx3, hU2, hst⟩
      refine ⟨_, _, rfl, rfl, ?_⟩
      have hth2 := hU2.at (lt_of_heap hth) hth
      have hMl := hM.lt
      repeat (first | refine WL.pp rfl ?_ | refine WL.ns ?_ | refine WC.sr ?_ | refine WL.ldB rfl rfl hth2 rfl rfl ?_)
      refine WL.mup (m := mb) (k := k) (b := x) l rfl rfl (hM.keep (fun o ho => hU2.at hMl ho)) hlk rfl (fun w3 ob hS3 hM3 hob => ?_)
      have hc3 := hS3.keep hx2 (by omega)
      have hsz2 := hU2.size
      have hJ3 := hJ.add ht hmp k hfn 1 false (by omega) (by omega) (by omega) (.val x) (w' := w3) ⟨rfl, kd, wy, y, z, hc3, hx3⟩
        (fun y hy => by simp only [TI.all, List.mem_cons, List.not_mem_nil, or_false] at hy; omega)
        (fun y hy => by simp only [TI.all, List.mem_cons, List.not_mem_nil, or_false] at hy; omega)
        (fun m' l' h' => by cases h')
        (fun y o hy ho => hS3.keep (hU2.at (lt_of_heap ho) ho) hy) hM3
      have hMB : B ≤ mb := hJ.low p1 t ht mb (TI.mp_all hmp)
      have hU3 : Up B w w3 := (hU.trans (hU2.mono (by omega))).trans (hS3.up hMB)
      have hpl := hJ.lt ht
      have hO2 : Ord (es1 ++ [⟨p1, 1, false, k⟩]) := hJ3.ord
      have hst2 := hst
      have hE3 := hE.trans (Ext.add (u := .val x) (l := l ++ [(k, x)]) hJ.none_at ht)
      repeat (first | refine WL.pp rfl ?_ | refine WL.ns ?_ | refine WC.sr ?_ | refine WC.ret ?_)
      by_cases hst0 : st = 0
      · have hok := hst2.1 hst0
        obtain ⟨more, hmore, hpar⟩ := ckV_beh v (es1 ++ [⟨p1, 1, false, k⟩]) es1.length (by simp)
        have hO3 : Ord (es1 ++ [⟨p1, 1, false, k⟩] ++ more) := by
          rw [← hmore]
          exact (ckV_grow v _ es1.length hO2 (by simp)).1
        refine X.ret_ rfl rfl ⟨st, _, _, rfl, hJ3.ext hO3 (fun i t' m' l' hi hm' e he => ?_), hE3, hU3, .inl ⟨hst0, ?_⟩⟩
        · have hpe := hpar e he
          have : i < es1.length := by
            split at hi
            · simp only [Option.some.injEq] at hi
              subst hi
              cases hm'
            · split at hi
              · omega
              · exact hJ.lt hi
          omega
        · rw [← hck, hckd]
          exact Prod.ext hmore hok
      · refine X.ret_ rfl rfl ⟨st, _, _, rfl, hJ3, hE3, hU3, .inr ⟨hst0, ?_⟩⟩
        rw [← hck, hckd]
        cases hb : (ckV v (es1 ++ [⟨p1, 1, false, k⟩]) es1.length).2 with
        | false => rfl
        | true => exact absurd (hst2.2 hb) hst0
    · rw [hlk]
      simp only [Option.isSome_some, ptO]
      repeat (first | refine WL.pp rfl ?_ | refine WL.ns ?_ | refine WC.sr ?_ | refine WC.bT rfl (by first | with_reducible rfl | exact Bool.not_false) ?_ | refine X.sr ?_ | refine WC.ret ?_)
      refine X.ret_ rfl rfl ⟨1, es1, f1, rfl, hJ, hE, hU, .inr ⟨by omega, ?_⟩⟩
      rw [← hck, hdrop, hnil]
      simp only [ckK, hfj]

end Go.Proofs.YtaccphdkapmdhaaGreat

namespace Go.Proofs.YtaccphdkapmdhaaGreat
attribute [local irreducible] binOp IntKind.wrap Sem.run

theorem bdVal (w : World) : (Instr.build 81 ⟨[(0, .int .i64 2)]⟩).run PP w = .ok (.agg ⟨[.int .i64 ((2 : Nat) : Int), .int .i64 ((0 : Nat) : Int), .map none, .slice none 0 0]⟩) w := by kernel_rfl

theorem ckIs_ord (vs : List Val) {es : List Ent} {id : Nat} (hO : Ord es) (h : id < es.length) : Ord (ckIs vs es id).1 ∧ es.length ≤ (ckIs vs es id).1.length := by
  have := ckIs_grow vs es id hO h
  exact ⟨this.1, this.2.1⟩

theorem ckIs_snoc (vs : List Val) (v : Val) (es : List Ent) (id : Nat) :
    (ckIs (vs ++ [v]) es id).2 = true ↔ (ckIs vs es id).2 = true ∧ (ckV v ((ckIs vs es id).1 ++ [⟨id, 5, false, []⟩]) (ckIs vs es id).1.length).2 = true := by
  rw [ckIs_app]
  cases h : (ckIs vs es id).2 with
  | false => simp [h]
  | true =>
    simp only [if_true, true_and]
    rw [ckIs]
    cases v with
    | sc k t => simp [Val.isSc, ckIs, ckV]
    | arr us =>
      simp only [Val.isSc, Bool.false_eq_true, if_false]
      obtain ⟨⟨es', ok⟩, hr⟩ : ∃ r, ckV (.arr us) ((ckIs vs es id).1 ++ [⟨id, 5, false, []⟩]) (ckIs vs es id).1.length = r := ⟨_, rfl⟩
      simp only [hr]
      cases ok <;> simp [ckIs]
    | tbl us =>
      simp only [Val.isSc, Bool.false_eq_true, if_false]
      obtain ⟨⟨es', ok⟩, hr⟩ : ∃ r, ckV (.tbl us) ((ckIs vs es id).1 ++ [⟨id, 5, false, []⟩]) (ckIs vs es id).1.length = r := ⟨_, rfl⟩
      simp only [hr]
      cases ok <;> simp [ckIs]

set_option maxRecDepth 10000 in
set_option maxHeartbeats 8000000 in
theorem madeSc (k : Nat) (t : Bs) : MadeV (.sc k t) := by
  intro es id hmk hO hid P a b c d w hn hd hP
  simp only [MkV] at hmk
  simp only [Nd] at hn
  obtain ⟨rfl, rfl, ad, cap, rfl⟩ := hn
  refine enter (L := [(0, .agg ⟨[.int .i64 (k : Int), str t, .slice ad 0 cap, d]⟩)]) Tryz.func58 rfl rfl rfl ⟨rfl, trivial⟩ ?_
  repeat (refine WC.sr ?_)
  refine WL.bx rfl rfl rfl (fun w1 hA => ?_)
  have h1 := hA.at_
  repeat (first | refine WL.pp rfl ?_ | refine WL.ns ?_ | refine WC.sr ?_ | refine WC.dF rfl (by first | omega | decide) ?_ | refine WL.ldB rfl rfl h1 rfl rfl ?_ | refine WC.seq ?_ | refine WC.block ?_ | refine X.sn ?_ | refine X.bn ?_ | refine WC.skip ?_)
  refine WL.bd rfl rfl bdVal rfl ?_
  refine WL.bx rfl rfl rfl (fun w2 hA2 => ?_)
  repeat (first | refine WL.pp rfl ?_ | refine WL.ns ?_ | refine WC.ret ?_)
  have hsz : w1.heap.size = w.heap.size + 1 := hA.size
  exact X.ret_ rfl rfl ⟨0, _, 2, 0, _, _, rfl, by omega, hA2.at_, .inl ⟨rfl, rfl⟩, (hA.up (Nat.le_refl _)).trans (hA2.up (by omega)), by simp [ckV]⟩

set_option maxRecDepth 100000 in
set_option maxHeartbeats 32000000 in
theorem madeArr (vs : List Val) (hvs : ∀ v ∈ vs, MadeV v) : MadeV (.arr vs) := by
  intro es id hmk hO hid P a b c d w hn hd hP
  simp only [MkV] at hmk
  obtain ⟨hvl, hmk⟩ := hmk
  simp only [Nd] at hn
  obtain ⟨rfl, rfl, ad, cap, rfl, hrow⟩ := hn
  refine enter (L := [(0, .agg ⟨[.int .i64 8, str [], .slice ad vs.length cap, d]⟩)]) Tryz.func58 rfl rfl rfl ⟨rfl, trivial⟩ ?_
  repeat (refine WC.sr ?_)
  refine WL.bx rfl rfl rfl (fun w1 hA => ?_)
  have h1 := hA.at_
  repeat (first | refine WL.pp rfl ?_ | refine WL.ns ?_ | refine WC.sr ?_ | refine WC.dT rfl (by first | omega | decide) ?_ | refine WL.ldB rfl rfl h1 rfl rfl ?_ | refine WC.seq ?_ | refine WC.block ?_)
  refine WC.loop (σ := Nat × Nat) (I := fun s w' => Up w.heap.size w w' ∧ s.1 ≤ vs.length ∧ (s.2 = 0 ↔ (ckIs (vs.take s.1) es id).2 = true))
    (m := fun s => vs.length - s.1) (Lf := fun s => [(4, .int .i64 (s.2 : Int)), (18, .slice ad vs.length cap), (19, .int .i64 (vs.length : Int)), (20, .int .i64 (s.1 : Int))])
    (0, 0) ⟨hA.up (Nat.le_refl _), Nat.zero_le _, by simp [ckIs]⟩ ⟨rfl, rfl, rfl, rfl, trivial⟩ ?_
  clear hA h1
  rintro ⟨m, st⟩ w2 ⟨hU, hm, hst⟩
  dsimp only at hU hm hst ⊢
  have hsz2 := hU.size
  by_cases hml : m < vs.length
  · obtain ⟨v, hv⟩ : ∃ v, vs[m]? = some v := ⟨_, List.getElem?_eq_getElem hml⟩
    have hvm := List.mem_of_getElem? hv
    have htake : vs.take (m + 1) = vs.take m ++ [v] := by rw [List.take_add_one, hv]; rfl
    have hne : vs ≠ [] := by rintro rfl; simp at hml
    obtain ⟨g, cur, hPg, rfl, hg, hNd⟩ := hrow hne
    obtain ⟨a', b', c', d', hcells, hNv, hR⟩ := hNd.get hv
    obtain ⟨o1, o2, o3, _⟩ := hNv.one
    have o4 := hR.one
    have hg2 := hU.at (hP g hPg) hg
    have hlc : ∀ (j : Nat) (x : Value), [a', b', c', d'][j]? = some x → w2.cell? ⟨g, m * 4 + j, none⟩ = some x := fun j x hx => cell_of hg2 (by rw [List.getElem?_toArray]; exact hcells j x hx)
    repeat (first | refine WL.pp rfl ?_ | refine WL.ns ?_ | refine WC.sr ?_ | refine WC.dT rfl (by first | omega | decide) ?_ | refine WL.ix (i := m) rfl rfl rfl hml (by rw [Nat.zero_add]; rfl) ?_ | refine WL.lg (cs := [a', b', c', d']) rfl rfl rfl hlc rfl ?_ | refine WC.seq ?_ | refine WC.block ?_ | refine X.sn ?_ | refine WC.skip ?_)
    refine WL.al rfl rfl rfl (fun w3 hA3 => ?_)
    skip
    refine WL.sg rfl rfl rfl (by simp [o1, o2, o3, o4]) hA3.at_ (by simp) rfl (fun w4 hS4 => ?_)
    have hb4 : w4.heap[w2.heap.size]? = some (.cells ⟨[a', b', c', d']⟩ 37 (0, 0)) := by simpa using hS4.at_
    have hU24 : Up w2.heap.size w2 w4 := (hA3.up (Nat.le_refl _)).trans (hS4.up (Nat.le_refl _))
    have hU4 : Up w.heap.size w w4 := hU.trans (hU24.mono hsz2)
    have hsz4 := hU24.size
    have hNv4 : Nd w4 P v a' b' c' := Nd.move (fun g o hg ho _ => ⟨hU4.at (hP g hg) ho, hg⟩) _ _ _ _ hNv
    generalize hnb2 : w2.heap.size = nb2 at *
    clear hA3 hS4 hlc
    have hlc4 : ∀ (j : Nat) (x : Value), [a', b', c', d'][j]? = some x → w4.cell? ⟨nb2, 0 + j, none⟩ = some x := fun j x hx => cell_of hb4 (by rw [Nat.zero_add, List.getElem?_toArray]; exact hx)
    obtain ⟨hOm, hlm⟩ := ckIs_ord (vs.take m) hO (show id < es.length by omega)
    repeat (first | refine WL.ns ?_ | refine WC.sr ?_ | refine WL.lg (cs := [a', b', c', d']) rfl rfl rfl hlc4 rfl ?_)
    refine WL.call rfl rfl rfl (hvs v hvm ((ckIs (vs.take m) es id).1 ++ [⟨id, 5, false, []⟩]) (ckIs (vs.take m) es id).1.length (hmk.mem v hvm) (hOm.snoc (p := id) (k := 5) (x := false) (nm := []) (by omega) (by omega) (by omega)) (by simp) P a' b' c' d' w4 hNv4 o4 (fun g hg => by have := hP g hg; omega)) ?_
    rintro e w5 ⟨s, x, kd, wy, y, z, rfl, hx1, hx2, hx3, hU5, hs⟩
    refine ⟨_, _, rfl, rfl, ?_⟩
    have hsn := ckIs_snoc (vs.take m) v es id
    rw [← htake] at hsn
    have hU6 : Up w.heap.size w w5 := hU4.trans (hU5.mono (by omega))
    by_cases hs0 : s = 0
    · subst hs0
      repeat (first | refine WL.pp rfl ?_ | refine WL.ns ?_ | refine WC.sr ?_ | refine WC.bF rfl (by first | with_reducible rfl | exact Bool.not_true) ?_ | refine WL.p rfl ?_ | refine WC.reg ?_ | refine WL.nil ?_ | refine X.sn ?_ | refine X.bn ?_ | refine WC.skip ?_ | refine WL.ad rfl rfl (by omega) rfl ?_ | refine WL.gF rfl rfl (by first | omega | decide) ?_)
      refine X.again (m + 1, st) ⟨hU6, by dsimp only; omega, ?_⟩ (by dsimp only; omega) ⟨rfl, rfl, rfl, rfl, trivial⟩
      dsimp only
      rw [hsn, ← hs, ← hst]
      simp
    · by_cases hst1 : st = 1
      · subst hst1
        repeat (first | refine WL.pp rfl ?_ | refine WL.ns ?_ | refine WC.sr ?_ | refine WC.dF rfl (by first | omega | decide) ?_ | refine WL.p rfl ?_ | refine WC.reg ?_ | refine WL.nil ?_ | refine X.sn ?_ | refine X.bn ?_ | refine WC.skip ?_ | refine WL.ad rfl rfl (by omega) rfl ?_ | refine WL.gT rfl rfl (by first | omega | decide) ?_)
        refine X.again (m + 1, 1) ⟨hU6, by dsimp only; omega, ?_⟩ (by dsimp only; omega) ⟨rfl, rfl, rfl, rfl, trivial⟩
        dsimp only
        rw [hsn, ← hs, ← hst]
        simp
      · repeat (first | refine WL.pp rfl ?_ | refine WL.ns ?_ | refine WC.sr ?_ | refine WC.dT rfl (by first | omega | decide) ?_ | refine WL.p rfl ?_ | refine WC.reg ?_ | refine WL.nil ?_ | refine X.sn ?_ | refine X.bn ?_ | refine WL.ad rfl rfl (by omega) rfl ?_ | refine WL.gT rfl rfl (by first | omega | decide) ?_)
        refine X.again (m + 1, s) ⟨hU6, by dsimp only; omega, ?_⟩ (by dsimp only; omega) ⟨rfl, rfl, rfl, rfl, trivial⟩
        dsimp only
        rw [hsn, ← hs]
        simp [hs0]
  · have hmv : vs.take m = vs := List.take_of_length_le (by omega)
    rw [hmv] at hst
    repeat (first | refine WL.pp rfl ?_ | refine WL.ns ?_ | refine WC.sr ?_ | refine WC.dF rfl (by first | omega | decide) ?_ | refine WC.seq ?_ | refine X.sn ?_ | refine X.sx ?_ | refine X.bn ?_ | refine X.bx ?_ | refine WC.exit ?_)
    refine WL.bd rfl rfl bdVal rfl ?_
    refine WL.bx rfl rfl rfl (fun w3 hA3 => ?_)
    repeat (first | refine WL.pp rfl ?_ | refine WL.ns ?_ | refine WC.ret ?_)
    refine X.ret_ rfl rfl ⟨st, _, 2, 0, _, _, rfl, by omega, hA3.at_, .inl ⟨rfl, rfl⟩, hU.trans (hA3.up (by omega)), ?_⟩
    rw [ckV]
    exact hst

set_option maxRecDepth 100000 in
set_option maxHeartbeats 32000000 in
theorem madeTbl (ts : List (List Bs × Val)) (hts : ∀ ks v, (ks, v) ∈ ts → MadeV v) : MadeV (.tbl ts) := by
  intro es id hmk hO hid P a b c d w hn hd hP
  simp only [MkV] at hmk
  obtain ⟨hvl, hmk⟩ := hmk
  simp only [Nd] at hn
  obtain ⟨rfl, rfl, ad, cap, rfl, hrow⟩ := hn
  refine enter (L := [(0, .agg ⟨[.int .i64 9, str [], .slice ad ts.length cap, d]⟩)]) Tryz.func58 rfl rfl rfl ⟨rfl, trivial⟩ ?_
  repeat (refine WC.sr ?_)
  refine WL.bx rfl rfl rfl (fun w1 hA => ?_)
  have h1 := hA.at_
  have hsz1 : w1.heap.size = w.heap.size + 1 := hA.size
  repeat (first | refine WL.pp rfl ?_ | refine WL.ns ?_ | refine WC.sr ?_ | refine WC.dT rfl (by first | omega | decide) ?_ | refine WC.dF rfl (by first | omega | decide) ?_ | refine WL.ldB rfl rfl h1 rfl rfl ?_ | refine WC.seq ?_ | refine WC.block ?_)
  refine WL.call rfl rfl rfl (mtab_any 2 w1) ?_
  rintro e w1' ⟨b2, m2, rfl, hb2, hm2, hc2, hM2, hU2⟩
  refine ⟨_, _, rfl, rfl, ?_⟩
  have h1' := hU2.at (lt_of_heap h1) h1
  repeat (first | refine WL.pp rfl ?_ | refine WL.ns ?_ | refine WC.sr ?_ | refine WL.ldB rfl rfl h1' rfl rfl ?_ | refine WC.seq ?_ | refine WC.block ?_)
  refine WC.loop (σ := Nat × Nat × List Ent × (Nat → Option TI)) (I := fun s w' => Up w1.heap.size w1 w' ∧ s.1 ≤ ts.length ∧ J w1.heap.size 0 w' id s.2.2.1 s.2.2.2 ∧ (∃ l, s.2.2.2 id = some (.tab b2 m2 l)) ∧ ((s.2.1 = 0 ∧ ckEs (ts.take s.1) es id = (s.2.2.1, true)) ∨ (s.2.1 ≠ 0 ∧ (ckEs (ts.take s.1) es id).2 = false)))
    (m := fun s => ts.length - s.1) (Lf := fun s => [(4, .int .i64 (s.2.1 : Int)), (9, pt b2), (41, .slice ad ts.length cap), (42, .int .i64 (ts.length : Int)), (43, .int .i64 (s.1 : Int))])
    (0, 0, es, _) ⟨hU2, Nat.zero_le _, J.one hO hid hc2 hM2 hb2 hm2, ⟨[], if_pos rfl⟩, .inl ⟨rfl, by simp [ckEs]⟩⟩ ⟨rfl, rfl, rfl, rfl, rfl, trivial⟩ ?_
  have hUw1 : Up w.heap.size w w1 := hA.up (Nat.le_refl _)
  clear hA h1 h1' hM2 hc2 hU2
  rintro ⟨m, st, es1, f1⟩ w2 ⟨hU, hm, hJ, ⟨l, hl⟩, hst⟩
  dsimp only at hU hm hJ hl hst ⊢
  have hsz2 := hU.size
  have hUw2 : Up w.heap.size w w2 := hUw1.trans (hU.mono (by omega))
  by_cases hml : m < ts.length
  · obtain ⟨⟨ks, v⟩, hv⟩ : ∃ v, ts[m]? = some v := ⟨_, List.getElem?_eq_getElem hml⟩
    have hvm := List.mem_of_getElem? hv
    obtain ⟨⟨hk0, hkl⟩, hmv⟩ := hmk.mem ks v hvm
    have htake : ts.take (m + 1) = ts.take m ++ [(ks, v)] := by rw [List.take_add_one, hv]; rfl
    have hne : ts ≠ [] := by rintro rfl; simp at hml
    obtain ⟨g, cur, hPg, rfl, hg, hNd⟩ := hrow hne
    obtain ⟨a', b', c', d', hcells, hNv, hR⟩ := hNd.get hv
    obtain ⟨o1, o2, o3, _⟩ := hNv.one
    have o4 := hR.one
    have hg2 := hUw2.at (hP g hPg) hg
    have hlc : ∀ (j : Nat) (x : Value), [a', b', c', d'][j]? = some x → w2.cell? ⟨g, m * 4 + j, none⟩ = some x := fun j x hx => cell_of hg2 (by rw [List.getElem?_toArray]; exact hcells j x hx)
    repeat (first | refine WL.pp rfl ?_ | refine WL.ns ?_ | refine WC.sr ?_ | refine WC.dT rfl (by first | omega | decide) ?_ | refine WL.ix (i := m) rfl rfl rfl hml (by rw [Nat.zero_add]; rfl) ?_ | refine WL.lg (cs := [a', b', c', d']) rfl rfl rfl hlc rfl ?_ | refine WC.seq ?_ | refine WC.block ?_ | refine X.sn ?_ | refine WC.skip ?_)
    refine WL.al rfl rfl rfl (fun w3 hA3 => ?_)
    skip
    refine WL.sg rfl rfl rfl (by simp [o1, o2, o3, o4]) hA3.at_ (by simp) rfl (fun w4 hS4 => ?_)
    have hb4 : w4.heap[w2.heap.size]? = some (.cells ⟨[a', b', c', d']⟩ 37 (0, 0)) := by simpa using hS4.at_
    have hU24 : Up w2.heap.size w2 w4 := (hA3.up (Nat.le_refl _)).trans (hS4.up (Nat.le_refl _))
    have hU4 : Up w.heap.size w w4 := hUw2.trans (hU24.mono (by omega))
    have hsz4 := hU24.size
    have hJ4 : J w1.heap.size 0 w4 id es1 f1 := hJ.keep (fun x o _ ho => hU24.at (lt_of_heap ho) ho)
    have hNv4 : Nd w4 P v a' b' c' := Nd.move (fun g o hg ho _ => ⟨hU4.at (hP g hg) ho, hg⟩) _ _ _ _ hNv
    have hR4 : RS w4 P d' ks := RS.move (fun g o hg ho _ => ⟨hU4.at (hP g hg) ho, hg⟩) hR
    generalize hnb2 : w2.heap.size = nb2 at *
    clear hA3 hS4 hlc
    have hlc4 : ∀ (j : Nat) (x : Value), [a', b', c', d'][j]? = some x → w4.cell? ⟨nb2, 0 + j, none⟩ = some x := fun j x hx => cell_of hb4 (by rw [Nat.zero_add, List.getElem?_toArray]; exact hx)
    repeat (first | refine WL.pp rfl ?_ | refine WL.ns ?_ | refine WC.sr ?_ | refine WL.lg (cs := [a', b', c', d']) rfl rfl rfl hlc4 rfl ?_ | refine WL.ldB rfl rfl hb4 rfl rfl ?_)
    refine WL.call rfl rfl rfl (put_any v (hts ks v hvm) hmv w1.heap.size 0 id id b2 es1 f1 _ P d' ks a' b' c' d' w4 hJ4 hl (by simp [TI.mp]) rfl hR4 hNv4 o4 (fun g hg => by have := hP g hg; omega) hk0 (by omega) hkl) ?_
    rintro e w5 ⟨s, es2, f2, rfl, hJ5, hE5, hU5, hs⟩
    refine ⟨_, _, rfl, rfl, ?_⟩
    obtain ⟨l2, hl2⟩ := hE5 id _ hl
    have hl2' : f2 id = some (.tab b2 m2 l2) := hl2
    have hU6 : Up w1.heap.size w1 w5 := (hU.trans (hU24.mono (by omega))).trans hU5
    have hsn := ckEs_app (ts.take m) [(ks, v)] es id
    rw [← htake] at hsn
    by_cases hs0 : s = 0
    · subst hs0
      repeat (first | refine WL.pp rfl ?_ | refine WL.ns ?_ | refine WC.sr ?_ | refine WC.bF rfl (by first | with_reducible rfl | exact Bool.not_true) ?_ | refine WL.p rfl ?_ | refine WC.reg ?_ | refine WL.nil ?_ | refine X.sn ?_ | refine X.bn ?_ | refine WC.skip ?_ | refine WL.ad rfl rfl (by omega) rfl ?_ | refine WL.gF rfl rfl (by first | omega | decide) ?_)
      refine X.again (m + 1, st, es2, f2) ⟨hU6, by dsimp only; omega, hJ5, ⟨l2, hl2'⟩, ?_⟩ (by dsimp only; omega) ⟨rfl, rfl, rfl, rfl, rfl, trivial⟩
      dsimp only
      rcases hst with ⟨h0, h1⟩ | ⟨h0, h1⟩
      · rcases hs with ⟨_, h2⟩ | ⟨h2, _⟩
        · refine .inl ⟨h0, ?_⟩
          rw [hsn, h1]
          simp only [if_true, ckEs, h2]
        · exact absurd rfl h2
      · refine .inr ⟨h0, ?_⟩
        rw [hsn, h1]
        exact h1
    · have hf : (ckEs (ts.take (m + 1)) es id).2 = false := by
        rw [hsn]
        rcases hst with ⟨h0, h1⟩ | ⟨h0, h1⟩
        · rcases hs with ⟨h2, _⟩ | ⟨_, h2⟩
          · exact absurd h2 hs0
          · rw [h1]
            obtain ⟨⟨es', ok⟩, hr⟩ : ∃ r, ckK (ckV v) ks es1 id = r := ⟨_, rfl⟩
            rw [hr] at h2
            simp only at h2
            subst h2
            simp only [if_true, ckEs, hr]
        · rw [h1]
          exact h1
      by_cases hst1 : st = 1
      · subst hst1
        repeat (first | refine WL.pp rfl ?_ | refine WL.ns ?_ | refine WC.sr ?_ | refine WC.dF rfl (by first | omega | decide) ?_ | refine WL.p rfl ?_ | refine WC.reg ?_ | refine WL.nil ?_ | refine X.sn ?_ | refine X.bn ?_ | refine WC.skip ?_ | refine WL.ad rfl rfl (by omega) rfl ?_ | refine WL.gT rfl rfl (by first | omega | decide) ?_)
        exact X.again (m + 1, 1, es2, f2) ⟨hU6, by dsimp only; omega, hJ5, ⟨l2, hl2'⟩, .inr ⟨by dsimp only; omega, hf⟩⟩ (by dsimp only; omega) ⟨rfl, rfl, rfl, rfl, rfl, trivial⟩
      · repeat (first | refine WL.pp rfl ?_ | refine WL.ns ?_ | refine WC.sr ?_ | refine WC.dT rfl (by first | omega | decide) ?_ | refine WL.p rfl ?_ | refine WC.reg ?_ | refine WL.nil ?_ | refine X.sn ?_ | refine X.bn ?_ | refine WL.ad rfl rfl (by omega) rfl ?_ | refine WL.gT rfl rfl (by first | omega | decide) ?_)
        exact X.again (m + 1, s, es2, f2) ⟨hU6, by dsimp only; omega, hJ5, ⟨l2, hl2'⟩, .inr ⟨hs0, hf⟩⟩ (by dsimp only; omega) ⟨rfl, rfl, rfl, rfl, rfl, trivial⟩
  · have hmv : ts.take m = ts := List.take_of_length_le (by omega)
    rw [hmv] at hst
    obtain ⟨way, mb, l', hmp, hth, hM⟩ := hJ.tb hl (by simp [TI.mp])
    simp only [TI.tbl] at hth
    repeat (first | refine WL.pp rfl ?_ | refine WL.ns ?_ | refine WC.sr ?_ | refine WC.dF rfl (by first | omega | decide) ?_ | refine WC.seq ?_ | refine X.sn ?_ | refine X.sx ?_ | refine X.bx ?_ | refine WC.exit ?_)
    refine WL.stB rfl rfl rfl hth rfl rfl (fun w3 hS3 => ?_)
    repeat (first | refine WL.pp rfl ?_ | refine WL.ns ?_ | refine WC.sr ?_ | refine X.sr ?_ | refine X.br ?_ | refine WC.ret ?_)
    refine X.ret_ rfl rfl ⟨st, b2, 0, 3, _, _, rfl, by omega, hS3.at_, .inr ⟨rfl, rfl⟩, hUw2.trans (hS3.up (by omega)), ?_⟩
    rw [ckV]
    rcases hst with ⟨h0, h1⟩ | ⟨h0, h1⟩
    · simp [h0, h1]
    · simp [h0, h1]

mutual
theorem made_all : ∀ (v : Val), MadeV v
  | .sc k t => madeSc k t
  | .arr vs => madeArr vs (made_allI vs)
  | .tbl es => madeTbl es (made_allE es)
theorem made_allI : ∀ (vs : List Val), ∀ v ∈ vs, MadeV v
  | [], v, hv => by simp at hv
  | u :: us, v, hv => by
    rcases List.mem_cons.1 hv with e | hv
    · rw [e]; exact made_all u
    · exact made_allI us v hv
theorem made_allE : ∀ (es : List (List Bs × Val)), ∀ ks v, (ks, v) ∈ es → MadeV v
  | [], ks, v, hv => by simp at hv
  | (ks', u) :: us, ks, v, hv => by
    rcases List.mem_cons.1 hv with e | hv
    · simp only [Prod.mk.injEq] at e
      rw [e.2]; exact made_all u
    · exact made_allE us ks v hv
end
end Go.Proofs.YtaccphdkapmdhaaGreat

namespace Go.Proofs.YtaccphdkapmdhaaGreat

theorem TI.at_root {B K w e} {t : TI} {p q : Prop} (h : t.at B K w p e) (hpq : q ↔ p) : t.at B K w q e := by
  have : q = p := propext hpq
  rw [this]; exact h

theorem TI.at_ent {B K w root e e'} {t : TI} (h : t.at B K w root e) (h1 : e'.kind = e.kind) (h2 : e'.expl = e.expl) : t.at B K w root e' := by
  cases t <;> simpa only [TI.at, h1, h2] using h

/-- A table that a longer head began has its own head now. -/
theorem J.expl {B K w w' base es f i b m l e} (h : J B K w base es f) (hi : f i = some (.tab b m l)) (hib : i ≠ base) (he : es[i]? = some e) (hk : e.kind = 3) (hS : St w b (.cells (tabC 1 m) 81 (0, 0)) w') :
    J B K w' base (es.set i { e with expl := true }) f := by
  have hlt := (List.getElem?_eq_some_iff.1 he).1
  refine ⟨h.ord.set he rfl rfl, fun j t hj => ?_, h.bas, fun j t m' l' hj hp k => ?_, h.low, h.inj⟩
  · by_cases hij : j = i
    · subst hij
      rw [hi] at hj
      simp only [Option.some.injEq] at hj
      subst hj
      obtain ⟨e', he', ⟨⟨way, h1, _⟩, h2⟩⟩ := h.at_ j _ hi
      refine ⟨{ e with expl := true }, List.getElem?_set_self hlt, ⟨1, hS.at_, fun _ => .inr ⟨hk, rfl⟩⟩, h2.keep (fun o ho => hS.keep ho ?_)⟩
      rintro rfl
      obtain ⟨mes, mc, hm, _⟩ := h2
      rw [h1] at hm
      cases hm
    · obtain ⟨e', he', ht⟩ := h.at_ j t hj
      refine ⟨e', by rw [List.getElem?_set_ne (fun h => hij h.symm)]; exact he', TI.at_keep ht (fun x hx o ho => hS.keep ho ?_)⟩
      rintro rfl
      exact hij (h.inj j i t _ x hj hi hx (by simp [TI.all]))
  · rw [findE_set (e' := { e with expl := true }) he rfl rfl rfl h.ord]
    exact h.names j t m' l' hj hp k

/-! ### Entries taken out -/
/-- What is known of each entry while entries are taken out. -/
structure ClrR (id : Nat) (es : List Ent) (i : Nat) (c : Clr) : Prop where
  ok : ClrOk id es i c
  each : ∀ (j : Nat) (e : Ent), j < i → es[j]? = some e → (c.gone[j]? = some true ∧ (e.parent = (id : Int) ∨ ∃ q : Nat, e.parent = (q : Int) ∧ c.gone[q]? = some true)) ∨
    (c.gone[j]? = some false ∧ e.parent ≠ (id : Int) ∧ ∃ (m : Nat) (e' : Ent), c.remap[j]? = some m ∧ c.out[m]? = some e' ∧ e'.kind = e.kind ∧ e'.expl = e.expl ∧ e'.name = e.name ∧
      ((e.parent < 0 ∧ e'.parent = e.parent) ∨ ∃ q q' : Nat, e.parent = (q : Int) ∧ c.gone[q]? = some false ∧ c.remap[q]? = some q' ∧ e'.parent = (q' : Int)))
  onto : ∀ (m : Nat), m < c.out.length → ∃ j : Nat, c.gone[j]? = some false ∧ c.remap[j]? = some m
  mono : ∀ (j j' m m' : Nat), j < j' → c.gone[j]? = some false → c.gone[j']? = some false → c.remap[j]? = some m → c.remap[j']? = some m' → m < m'
  idn : c.out.length = i → ∀ (j : Nat), j < i → c.gone[j]? = some false ∧ c.remap[j]? = some j

theorem app_lt {α} {a : List α} {x : α} {j : Nat} {y : α} (h : a[j]? = some y) : (a ++ [x])[j]? = some y := by
  rw [List.getElem?_append_left (List.getElem?_eq_some_iff.1 h).1]; exact h

theorem app_get {α} {a : List α} {x : α} {j : Nat} {y : α} (h : (a ++ [x])[j]? = some y) : a[j]? = some y ∨ (j = a.length ∧ x = y) := by
  by_cases hj : j < a.length
  · rw [List.getElem?_append_left hj] at h; exact .inl h
  · have hj' : j = a.length := by
      have := (List.getElem?_eq_some_iff.1 h).1
      simp at this; omega
    subst hj'
    rw [List.getElem?_append_right (Nat.le_refl _), Nat.sub_self] at h
    exact .inr ⟨rfl, by simpa using h⟩

theorem ClrR.step {id : Nat} {es : List Ent} {i : Nat} {c : Clr} {e : Ent} (h : ClrR id es i c) (hO : Ord es) (he : es[i]? = some e) : ClrR id es (i + 1) (clrOne id c e) := by
  have hok := h.ok.step hO he
  obtain ⟨o1, o2, o3, o4⟩ := hO i e he
  have hg := h.ok.gone
  have hr := h.ok.remap
  have ho := h.ok.out
  have hgf : ∀ q : Nat, q < i → c.gone[q]? = some false ∨ c.gone[q]? = some true := fun q hq => by
    cases hx : c.gone[q]? with
    | none => rw [List.getElem?_eq_none_iff] at hx; omega
    | some b => cases b <;> simp
  have old : ∀ (j : Nat) (e0 : Ent) (x : Ent) (r : Nat) (g : Bool), j < i → es[j]? = some e0 → ((c.gone ++ [g])[j]? = some true ∧ (e0.parent = (id : Int) ∨ ∃ q : Nat, e0.parent = (q : Int) ∧ (c.gone ++ [g])[q]? = some true)) ∨
      ((c.gone ++ [g])[j]? = some false ∧ e0.parent ≠ (id : Int) ∧ ∃ (m : Nat) (e' : Ent), (c.remap ++ [r])[j]? = some m ∧ (c.out[m]? = some e' ∧ (c.out ++ [x])[m]? = some e') ∧ e'.kind = e0.kind ∧ e'.expl = e0.expl ∧ e'.name = e0.name ∧
        ((e0.parent < 0 ∧ e'.parent = e0.parent) ∨ ∃ q q' : Nat, e0.parent = (q : Int) ∧ (c.gone ++ [g])[q]? = some false ∧ (c.remap ++ [r])[q]? = some q' ∧ e'.parent = (q' : Int))) := by
    intro j e0 x r g hj he0
    rcases h.each j e0 hj he0 with ⟨h1, h2⟩ | ⟨h1, h2, m, e', h3, h4, h5, h6, h7, h8⟩
    · refine .inl ⟨app_lt h1, ?_⟩
      rcases h2 with h2 | ⟨q, h2, h3⟩
      · exact .inl h2
      · exact .inr ⟨q, h2, app_lt h3⟩
    · refine .inr ⟨app_lt h1, h2, m, e', app_lt h3, ⟨h4, app_lt h4⟩, h5, h6, h7, ?_⟩
      rcases h8 with h8 | ⟨q, q', h8, h9, h10, h11⟩
      · exact .inl h8
      · exact .inr ⟨q, q', h8, app_lt h9, app_lt h10, h11⟩
  unfold clrOne at hok ⊢
  split
  · rename_i hc
    rw [if_pos hc] at hok
    obtain ⟨hc0, hc1⟩ := hc
    refine ⟨hok, fun j e0 hj he0 => ?_, fun m hm => ?_, fun j j' m m' hjj hj hj' hm hm' => ?_, fun hs => ?_⟩
    · by_cases hji : j < i
      · rcases old j e0 e 0 true hji he0 with h1 | ⟨h1, h2, m, e', h3, h4, h5⟩
        · exact .inl h1
        · exact .inr ⟨h1, h2, m, e', h3, h4.1, h5⟩
      · have hji' : j = i := by omega
        subst hji'
        rw [he] at he0
        simp only [Option.some.injEq] at he0
        subst he0
        refine .inl ⟨by rw [List.getElem?_append_right (by omega), hg, Nat.sub_self]; rfl, ?_⟩
        rcases hc1 with ⟨hc1, _⟩ | hc1
        · exact .inl hc1
        · refine .inr ⟨e.parent.toNat, by omega, ?_⟩
          rcases hgf e.parent.toNat (by omega) with h5 | h5
          · simp [List.getD_eq_getElem?_getD, h5] at hc1
          · exact app_lt h5
    · obtain ⟨j, h1, h2⟩ := h.onto m hm
      exact ⟨j, app_lt h1, app_lt h2⟩
    · rcases app_get hj with hj | ⟨_, hx⟩
      · rcases app_get hj' with hj' | ⟨_, hx⟩
        · have l1 := (List.getElem?_eq_some_iff.1 hj).1
          have l2 := (List.getElem?_eq_some_iff.1 hj').1
          rw [List.getElem?_append_left (by omega)] at hm hm'
          exact h.mono j j' m m' hjj hj hj' hm hm'
        · cases hx
      · cases hx
    · simp only at hs; omega
  · rename_i hc
    rw [if_neg hc] at hok
    have hpar : e.parent ≥ 0 → c.gone[e.parent.toNat]? = some false := fun h0 => by
      rcases hgf e.parent.toNat (by omega) with h5 | h5
      · exact h5
      · exact absurd ⟨h0, .inr (by simp [List.getD_eq_getElem?_getD, h5])⟩ hc
    have hnid : e.parent ≠ (id : Int) := fun h0 => hc ⟨by omega, .inl ⟨h0, o4⟩⟩
    have hgi : ∀ g : Bool, (c.gone ++ [g])[i]? = some g := fun g => by rw [List.getElem?_append_right (by omega), hg, Nat.sub_self]; rfl
    have hri : ∀ r : Nat, (c.remap ++ [r])[i]? = some r := fun r => by rw [List.getElem?_append_right (by omega), hr, Nat.sub_self]; rfl
    refine ⟨hok, fun j e0 hj he0 => ?_, fun m hm => ?_, fun j j' m m' hjj hj hj' hm hm' => ?_, fun hs j hj => ?_⟩
    · by_cases hji : j < i
      · rcases old j e0 (if c.out.length = c.gone.length then e else { e with parent := (c.remap.getD e.parent.toNat 0 : Nat) }) c.out.length false hji he0 with h1 | ⟨h1, h2, m, e', h3, h4, h5⟩
        · exact .inl h1
        · exact .inr ⟨h1, h2, m, e', h3, h4.2, h5⟩
      · have hji' : j = i := by omega
        subst hji'
        rw [he] at he0
        simp only [Option.some.injEq] at he0
        subst he0
        refine .inr ⟨hgi _, hnid, c.out.length, (if c.out.length = c.gone.length then e else { e with parent := (c.remap.getD e.parent.toNat 0 : Nat) }), hri _, by simp, ?_⟩
        split
        · rename_i hs
          refine ⟨rfl, rfl, rfl, ?_⟩
          by_cases h0 : e.parent < 0
          · exact .inl ⟨h0, rfl⟩
          · obtain ⟨q1, q2⟩ := h.idn (by omega) e.parent.toNat (by omega)
            exact .inr ⟨e.parent.toNat, e.parent.toNat, by omega, app_lt q1, app_lt q2, by omega⟩
        · rename_i hs
          refine ⟨rfl, rfl, rfl, ?_⟩
          have h0 : e.parent ≥ 0 := by
            rcases o2 with o2 | o2
            · omega
            · exact o2
          obtain ⟨m, h1, _⟩ := h.ok.keep _ (hpar h0)
          exact .inr ⟨e.parent.toNat, m, by omega, app_lt (hpar h0), app_lt h1, by simp [List.getD_eq_getElem?_getD, h1]⟩
    · simp only [List.length_append, List.length_singleton] at hm
      by_cases hml : m < c.out.length
      · obtain ⟨j, h1, h2⟩ := h.onto m hml
        exact ⟨j, app_lt h1, app_lt h2⟩
      · have : m = c.out.length := by omega
        subst this
        exact ⟨i, hgi _, hri _⟩
    · rcases app_get hj with hj | ⟨hj0, _⟩
      · have l1 := (List.getElem?_eq_some_iff.1 hj).1
        rw [List.getElem?_append_left (by omega)] at hm
        rcases app_get hj' with hj' | ⟨hj0', _⟩
        · have l2 := (List.getElem?_eq_some_iff.1 hj').1
          rw [List.getElem?_append_left (by omega)] at hm'
          exact h.mono j j' m m' hjj hj hj' hm hm'
        · subst hj0'
          rw [hg, hri] at hm'
          simp only [Option.some.injEq] at hm'
          subst hm'
          obtain ⟨m2, q1, q2⟩ := h.ok.keep j hj
          rw [hm] at q1
          simp only [Option.some.injEq] at q1
          omega
      · rcases app_get hj' with hj' | ⟨hj0', _⟩
        · have l2 := (List.getElem?_eq_some_iff.1 hj').1
          omega
        · omega
    · simp only [List.length_append, List.length_singleton] at hs
      by_cases hji : j < i
      · obtain ⟨q1, q2⟩ := h.idn (by omega) j hji
        exact ⟨app_lt q1, app_lt q2⟩
      · have hji' : j = i := by omega
        subst hji'
        refine ⟨hgi _, ?_⟩
        rw [hri]
        congr 1
        omega

theorem clrR_all (id : Nat) (es : List Ent) (hO : Ord es) : ∀ (l : List Ent) (i : Nat) (c : Clr), es.drop i = l → i ≤ es.length → ClrR id es i c → ClrR id es es.length (l.foldl (clrOne id) c)
  | [], i, c, hl, hi, h => by
    have : i = es.length := by
      have := List.drop_eq_nil_iff.1 hl
      omega
    subst this
    exact h
  | e :: l, i, c, hl, hi, h => by
    have he : es[i]? = some e := by
      have := congrArg (fun l => l[0]?) hl
      simpa using this
    have hl' : es.drop (i + 1) = l := by
      have := congrArg (fun l => l.drop 1) hl
      simpa using this
    exact clrR_all id es hO l (i + 1) _ hl' (by have := (List.getElem?_eq_some_iff.1 he).1; omega) (h.step hO he)

theorem clrR (id : Nat) (es : List Ent) (hO : Ord es) : ClrR id es es.length (es.foldl (clrOne id) ⟨[], [], []⟩) :=
  clrR_all id es hO es 0 _ rfl (Nat.zero_le _) ⟨clr_zero id es, fun j e h => by omega, fun m h => by simp at h, fun j j' m m' _ h => by simp at h, fun _ j h => by omega⟩

/-- The new place of an entry that is left. -/
def newAt (id : Nat) (es : List Ent) (j m : Nat) : Prop := (es.foldl (clrOne id) ⟨[], [], []⟩).gone[j]? = some false ∧ (es.foldl (clrOne id) ⟨[], [], []⟩).remap[j]? = some m

theorem newAt.inj {id es j j' m} (hO : Ord es) (h : newAt id es j m) (h' : newAt id es j' m) : j = j' := by
  rcases Nat.lt_trichotomy j j' with hlt | he | hgt
  · have := (clrR id es hO).mono j j' m m hlt h.1 h'.1 h.2 h'.2; omega
  · exact he
  · have := (clrR id es hO).mono j' j m m hgt h'.1 h.1 h'.2 h.2; omega
theorem newAt.fn {id es j m m'} (h : newAt id es j m) (h' : newAt id es j m') : m = m' := by
  have := h.2.symm.trans h'.2
  simpa using this
theorem newAt.low {id es j} (hO : Ord es) (hj : j < es.length) (hji : j ≤ id) : newAt id es j j := by
  obtain ⟨h1, h2, _⟩ := (clrR id es hO).ok.low j hj hji
  exact ⟨h1, h2⟩

theorem newAt.ent {id es j m e} (hO : Ord es) (h : newAt id es j m) (he : es[j]? = some e) : ∃ e', (clrE id es)[m]? = some e' ∧ e'.kind = e.kind ∧ e'.expl = e.expl ∧ e'.name = e.name ∧
    ((e.parent < 0 ∧ e'.parent = e.parent) ∨ ∃ q q' : Nat, e.parent = (q : Int) ∧ newAt id es q q' ∧ e'.parent = (q' : Int)) := by
  have hlt := (List.getElem?_eq_some_iff.1 he).1
  rcases (clrR id es hO).each j e hlt he with ⟨h1, _⟩ | ⟨_, _, m', e', h3, h4, h5, h6, h7, h8⟩
  · rw [h.1] at h1; cases h1
  · rw [h.2] at h3
    simp only [Option.some.injEq] at h3
    subst h3
    refine ⟨e', h4, h5, h6, h7, ?_⟩
    rcases h8 with h8 | ⟨q, q', h8, h9, h10, h11⟩
    · exact .inl h8
    · exact .inr ⟨q, q', h8, ⟨h9, h10⟩, h11⟩

theorem newAt.onto {id es m} (hO : Ord es) (hm : m < (clrE id es).length) : ∃ j e, es[j]? = some e ∧ newAt id es j m := by
  obtain ⟨j, h1, h2⟩ := (clrR id es hO).onto m hm
  have hg := (clrR id es hO).ok.gone
  have hj : j < es.length := by have := (List.getElem?_eq_some_iff.1 h1).1; omega
  exact ⟨j, es[j], List.getElem?_eq_getElem hj, h1, h2⟩

/-- What is found below an entry that is left. -/
theorem clr_find {id es p p'} (hO : Ord es) (hid : id < es.length) (h : newAt id es p p') (nm : Bs) :
    (p = id ∧ findE (clrE id es) p' nm = none) ∨ (p ≠ id ∧ ((findE es p nm = none ∧ findE (clrE id es) p' nm = none) ∨ ∃ j j', findE es p nm = some j ∧ newAt id es j j' ∧ findE (clrE id es) p' nm = some j')) := by
  have hO' := (clrE_ok id es hO hid).1
  have R := clrR id es hO
  have back : ∀ (m : Nat) (a : Ent), (clrE id es)[m]? = some a → a.is p' nm = true → ∃ j e, es[j]? = some e ∧ newAt id es j m ∧ e.is p nm = true := by
    intro m a ha his
    obtain ⟨j, e, he, hj⟩ := newAt.onto hO (List.getElem?_eq_some_iff.1 ha).1
    obtain ⟨e', h1, h2, h3, h4, h5⟩ := hj.ent hO he
    rw [ha] at h1
    simp only [Option.some.injEq] at h1
    subst h1
    obtain ⟨i1, i2, i3⟩ := Ent.is_parent his
    refine ⟨j, e, he, hj, ?_⟩
    rcases h5 with ⟨h5, h6⟩ | ⟨q, q', h5, h6, h7⟩
    · omega
    · have hq : q' = p' := by omega
      subst hq
      have hqp := newAt.inj hO h6 h
      subst hqp
      simp only [Ent.is, decide_eq_true_eq]
      exact ⟨h5, by rw [← h2]; exact i2, by rw [← h4]; exact i3⟩
  by_cases hp : p = id
  · refine .inl ⟨hp, findE_no fun m a ha => ?_⟩
    cases hb : a.is p' nm with
    | false => rfl
    | true =>
      obtain ⟨j, e, he, hj, his⟩ := back m a ha hb
      have hlt := (List.getElem?_eq_some_iff.1 he).1
      rcases R.each j e hlt he with ⟨h1, _⟩ | ⟨_, h2, _⟩
      · rw [hj.1] at h1; cases h1
      · exact absurd (by rw [(Ent.is_parent his).1, hp]) h2
  · refine .inr ⟨hp, ?_⟩
    cases hf : findE es p nm with
    | none =>
      refine .inl ⟨rfl, findE_no fun m a ha => ?_⟩
      cases hb : a.is p' nm with
      | false => rfl
      | true =>
        obtain ⟨j, e, he, hj, his⟩ := back m a ha hb
        rw [findE_none hO hf j e he] at his
        cases his
    | some j =>
      obtain ⟨_, e, he, his⟩ := findE_some hf
      have hlt := (List.getElem?_eq_some_iff.1 he).1
      obtain ⟨i1, i2, i3⟩ := Ent.is_parent his
      rcases R.each j e hlt he with ⟨_, h2⟩ | ⟨h1, _, m, e', h3, h4, h5, h6, h7, h8⟩
      · exfalso
        rcases h2 with h2 | ⟨q, h2, h3⟩
        · omega
        · have : q = p := by omega
          subst this
          rw [h.1] at h3; cases h3
      · refine .inr ⟨j, m, rfl, ⟨h1, h3⟩, ?_⟩
        have hee : e'.is p' nm = true := by
          rcases h8 with ⟨h8, _⟩ | ⟨q, q', h8, h9, h10, h11⟩
          · omega
          · have hq : q = p := by omega
            subst hq
            have := h.fn ⟨h9, h10⟩
            subst this
            simp only [Ent.is, decide_eq_true_eq]
            exact ⟨h11, by rw [h5]; exact i2, by rw [h7]; exact i3⟩
        refine findE_is h4 hee (fun m2 a hm2 ha => ?_) hO'
        cases hb : a.is p' nm with
        | false => rfl
        | true =>
          obtain ⟨j2, e2, he2, hj2, his2⟩ := back m2 a ha hb
          have : j ≤ j2 := by
            rcases Nat.lt_or_ge j2 j with h9 | h9
            · rw [findE_first hO hf j2 e2 h9 he2] at his2; cases his2
            · exact h9
          rcases Nat.lt_or_ge j j2 with h9 | h9
          · have := R.mono j j2 m m2 h9 h1 hj2.1 h3 hj2.2
            omega
          · have : j = j2 := by omega
            subst this
            have := hj2.fn ⟨h1, h3⟩
            omega

end Go.Proofs.YtaccphdkapmdhaaGreat

namespace Go.Proofs.YtaccphdkapmdhaaGreat

open Classical in
/-- What stands for the entries that are left. -/
noncomputable def clrF (id : Nat) (es : List Ent) (f : Nat → Option TI) (u : TI) (m : Nat) : Option TI :=
  if m = id then some u else if h : ∃ j, newAt id es j m then f h.choose else none

theorem clrF_at {id es f u j m} (hO : Ord es) (h : newAt id es j m) (hm : m ≠ id) : clrF id es f u m = f j := by
  have he : ∃ j, newAt id es j m := ⟨j, h⟩
  unfold clrF
  rw [if_neg hm, dif_pos he]
  exact congrArg f (newAt.inj hO he.choose_spec h)

theorem clrF_cas {id es f u m t} (h : clrF id es f u m = some t) : (m = id ∧ t = u) ∨ (m ≠ id ∧ ∃ j, newAt id es j m ∧ f j = some t) := by
  unfold clrF at h
  split at h
  · rename_i hm; exact .inl ⟨hm, by simpa using h.symm⟩
  · rename_i hm
    split at h
    · rename_i he; exact .inr ⟨hm, _, he.choose_spec, h⟩
    · cases h

/-- A list has a new last table: all that was below the old one is gone. -/
theorem J.reopen {B K w w' base es f i b s tb m l s' tb' m' e} (h : J B K w base es f) (hi : f i = some (.lst b s tb m l)) (hbi : base < i) (he : es[i]? = some e)
    (hu : TI.at B K w' False e (.lst b s' tb' m' [])) (hl : ∀ x ∈ (TI.lst b s' tb' m' []).all, B ≤ x ∧ (x = b ∨ x = s ∨ w.heap.size ≤ x)) (hk : ∀ x o, x ≠ b → x ≠ s → w.heap[x]? = some o → w'.heap[x]? = some o) :
    J B K w' base (clrE i es) (clrF i es f (.lst b s' tb' m' [])) := by
  have hlt := (List.getElem?_eq_some_iff.1 he).1
  have hO := h.ord
  have hii : newAt i es i i := newAt.low hO hlt (Nat.le_refl _)
  have hbb : newAt i es base base := newAt.low hO (by omega) (by omega)
  have hne : ∀ {j m0 : Nat}, newAt i es j m0 → m0 ≠ i → j ≠ i := fun h1 h2 h3 => by subst h3; exact h2 (h1.fn hii)
  have dis : ∀ {j : Nat} {t : TI} {x : Nat}, f j = some t → j ≠ i → x ∈ t.all → x ≠ b ∧ x ≠ s := fun hj hji hx =>
    ⟨fun e => hji (h.inj _ i _ _ _ hj hi hx (by simp [TI.all, e])), fun e => hji (h.inj _ i _ _ _ hj hi hx (by simp [TI.all, e]))⟩
  refine ⟨(clrE_ok i es hO hlt).1, fun q t hq => ?_, ?_, fun q t mq lq hq hp k => ?_, fun q t hq x hx => ?_, fun q q' t t' x hq hq' hx hx' => ?_⟩
  · rcases clrF_cas hq with ⟨rfl, rfl⟩ | ⟨hqi, j, hj, hfj⟩
    · obtain ⟨e', h1, h2, h3, _⟩ := hii.ent hO he
      exact ⟨e', h1, TI.at_root (TI.at_ent hu h2 h3) ⟨fun h => by omega, fun h => h.elim⟩⟩
    · obtain ⟨ej, hej, ht⟩ := h.at_ j t hfj
      obtain ⟨e', h1, h2, h3, _⟩ := hj.ent hO hej
      refine ⟨e', h1, TI.at_root (TI.at_ent (TI.at_keep ht (fun x hx o ho => hk x o (dis hfj (hne hj hqi) hx).1 (dis hfj (hne hj hqi) hx).2 ho)) h2 h3) ⟨fun h => ?_, fun h => ?_⟩⟩
      · subst h; exact newAt.inj hO hj hbb
      · subst h; exact hj.fn hbb
  · obtain ⟨b0, m0, l0, hb0⟩ := h.bas
    exact ⟨b0, m0, l0, by rw [clrF_at hO hbb (by omega)]; exact hb0⟩
  · rcases clrF_cas hq with ⟨rfl, rfl⟩ | ⟨hqi, j, hj, hfj⟩
    · simp only [TI.mp, Option.some.injEq, Prod.mk.injEq] at hp
      rcases clr_find hO hlt hii k with ⟨_, h1⟩ | ⟨h1, _⟩
      · exact .inl ⟨h1, by rw [← hp.2]; rfl⟩
      · exact absurd rfl h1
    · rcases clr_find hO hlt hj k with ⟨h1, _⟩ | ⟨_, ⟨h1, h2⟩ | ⟨j2, j2', h1, h2, h3⟩⟩
      · exact absurd h1 (hne hj hqi)
      · rcases h.names j t mq lq hfj hp k with ⟨_, h3⟩ | ⟨j2, u, h3, _⟩
        · exact .inl ⟨h2, h3⟩
        · rw [h1] at h3; cases h3
      · rcases h.names j t mq lq hfj hp k with ⟨h4, _⟩ | ⟨j3, u, h4, h5, h6, h7⟩
        · rw [h1] at h4; cases h4
        · rw [h1] at h4
          simp only [Option.some.injEq] at h4
          subst h4
          have hnb : j2' ≠ base := by
            rintro rfl
            exact h5 (newAt.inj hO h2 hbb)
          by_cases hji : j2 = i
          · subst hji
            have := h2.fn hii
            subst this
            rw [hi] at h6
            simp only [Option.some.injEq] at h6
            subst h6
            exact .inr ⟨j2', .lst b s' tb' m' [], h3, hnb, by unfold clrF; rw [if_pos rfl], h7⟩
          · have hj2 : j2' ≠ i := by
              rintro rfl
              exact hji (newAt.inj hO h2 hii)
            exact .inr ⟨j2', u, h3, hnb, by rw [clrF_at hO h2 hj2]; exact h6, h7⟩
  · rcases clrF_cas hq with ⟨rfl, rfl⟩ | ⟨hqi, j, hj, hfj⟩
    · exact (hl x hx).1
    · exact h.low j t hfj x hx
  · rcases clrF_cas hq with ⟨rfl, rfl⟩ | ⟨hqi, j, hj, hfj⟩
    · rcases clrF_cas hq' with ⟨rfl, rfl⟩ | ⟨hqi', j', hj', hfj'⟩
      · rfl
      · have h1 := dis hfj' (hne hj' hqi') hx'
        have h2 := h.all_lt hfj' x hx'
        rcases (hl x hx).2 with h3 | h3 | h3
        · exact absurd h3 h1.1
        · exact absurd h3 h1.2
        · omega
    · rcases clrF_cas hq' with ⟨rfl, rfl⟩ | ⟨hqi', j', hj', hfj'⟩
      · have h1 := dis hfj (hne hj hqi) hx
        have h2 := h.all_lt hfj x hx
        rcases (hl x hx').2 with h3 | h3 | h3
        · exact absurd h3 h1.1
        · exact absurd h3 h1.2
        · omega
      · have := h.inj j j' t t' x hfj hfj' hx hx'
        subst this
        exact hj.fn hj'

theorem firstBad_begun (l : List Ex) (n : Nat) : firstBad ⟨[], 0⟩ l n = firstBad ⟨[⟨-1, 3, false, []⟩], 0⟩ l n := by
  cases l with
  | nil => rfl
  | cons x l => rfl

end Go.Proofs.YtaccphdkapmdhaaGreat

