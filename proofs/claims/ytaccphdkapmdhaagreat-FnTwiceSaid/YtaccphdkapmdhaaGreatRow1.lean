/- Rows of numbers and of bytes that come in, opened; what a row of this program is made of. No condition. -/
import Derived.Test.YtaccphdkapmdhaaGreatRows
import Derived.Test.YtaccphdkapmdhaaGreatP17
import Derived.ProofKit
namespace Go.Proofs.YtaccphdkapmdhaaGreat
open Go.ChangeShapes Go.WideShapes Go.ChangeAt Go.RowKit

theorem ownNone : ownKnob Tryz.prog.godebug = none := by kernel_rfl
theorem laidOutP : laidOutB Tryz.prog = true := by kernel_rfl
theorem u22 : Tryz.prog.underlying 22 = some (.slice 29) := by kernel_rfl
theorem u29 : Tryz.prog.underlying 29 = some (.int .u32) := by kernel_rfl
theorem c29 : Tryz.prog.cellsOf 29 = 1 := by kernel_rfl
theorem u23 : Tryz.prog.underlying 23 = some (.slice 5) := by kernel_rfl
theorem u5 : Tryz.prog.underlying 5 = some (.int .u8) := by kernel_rfl
theorem c5 : Tryz.prog.cellsOf 5 = 1 := by kernel_rfl
theorem u4 : Tryz.prog.underlying 4 = some .bool := by kernel_rfl
theorem r22 : Tryz.prog.readableRec 22 = true := by kernel_rfl
theorem r23 : Tryz.prog.readableRec 23 = true := by kernel_rfl
theorem t22 : 22 < Tryz.prog.types.size := of_decide_eq_true (by kernel_rfl)
theorem t23 : 23 < Tryz.prog.types.size := of_decide_eq_true (by kernel_rfl)

theorem Up.below {W w' : World} (h : Up W.heap.size W w') : Below W.heap.size W w' := ⟨h.os, h.tape, h.output, h.size, h.old⟩

theorem cells_ints {W : World} {a : Addr} {k : IntKind} {zs : List Int} (h : ∀ i, i < zs.length → W.cell? (a.add i) = some (.int k (zs.getD i 0))) (h0 : 0 < zs.length) :
    ∃ b o dc e fz, a = ⟨b, o, none⟩ ∧ W.heap[b]? = some (.cells dc e fz) ∧ ∀ i, i < zs.length → dc[o + i]? = some (.int k (zs.getD i 0)) := by
  obtain ⟨b, o, spot⟩ := a
  have hs : spot = none := by simpa [Addr.add] using World.cell?_spot (h 0 h0)
  subst hs
  have h1 := h 0 h0
  rw [add_plain] at h1
  unfold World.cell? at h1
  dsimp only at h1
  split at h1
  · rename_i dc e fz hb
    refine ⟨b, o, dc, e, fz, rfl, hb, fun i hi => ?_⟩
    have h2 := h i hi
    rw [add_plain] at h2
    unfold World.cell? at h2
    simp only [hb] at h2
    simpa using h2
  · cases h1

section
variable {H : Type} {enc : TypeId × Value → H}

set_option maxRecDepth 100000 in
theorem open_us {W : World} {base : Nat} {v : Value} {d : DataW H} {p : List MemPlace} (hval : Value.okWide Tryz.prog W .any base 22 v) (h : DataW.Trod enc Tryz.prog W 0 (fun _ => true) true 22 v d p) :
    ∃ l : List Nat, US W v l ∧ ∀ n ∈ l, n < UU := by
  obtain ⟨a1, len, cap, rfl⟩ := okWide_slice u22 hval
  obtain ⟨fuel, hf⟩ := h
  rcases open_ints u22 u29 c29 hf with ⟨hcs, hx⟩ | ⟨a, len', cap', zs, hcs, _, hl, hm, hz, hx, hcell, hwz⟩
  · simp [Value.cells] at hcs
    obtain ⟨rfl, rfl, rfl⟩ := hcs
    exact ⟨[], ⟨none, 0, rfl, Nat.le_refl _, fun h => absurd rfl h⟩, by simp⟩
  · simp [Value.cells] at hcs
    obtain ⟨rfl, rfl, rfl⟩ := hcs
    simp only [if_true] at hz
    have hw : ∀ n ∈ zs, 0 ≤ n ∧ n < 4294967296 := fun n hn => by
      have := hwz n hn
      simp [Lit.wf, IntKind.min, IntKind.max, IntKind.signed, IntKind.bits] at this
      omega
    have hlen : ((zs.take len).map Int.toNat).length = len := by rw [List.length_map, List.length_take]; omega
    refine ⟨(zs.take len).map Int.toNat, ⟨some a, cap, by rw [hlen], by rw [hlen]; exact hl, fun hne => ?_⟩, ?_⟩
    · have hl0 : 0 < len := by
        rcases Nat.eq_zero_or_pos len with h | h
        · subst h; simp at hne
        · exact h
      obtain ⟨b, o, dc, e, fz, rfl, hb, hc⟩ := cells_ints hcell (by omega)
      refine ⟨b, o, dc, e, fz, rfl, hb, fun i n hi => ?_⟩
      rw [List.getElem?_map, List.getElem?_take] at hi
      split at hi
      · rename_i hil
        have hiz : i < zs.length := by omega
        rw [List.getElem?_eq_getElem hiz] at hi
        simp only [Option.map_some, Option.some.injEq] at hi
        subst hi
        have := hw _ (List.getElem_mem hiz)
        rw [hc i hiz]
        have e1 : zs.getD i 0 = zs[i] := by simp [List.getD, hiz]
        rw [e1]
        congr 2
        omega
      · cases hi
    · intro n hn
      obtain ⟨z, hz1, rfl⟩ := List.mem_map.1 hn
      have := hw z (List.mem_of_mem_take hz1)
      show z.toNat < 4294967296
      omega

set_option maxRecDepth 100000 in
theorem open_rf {W : World} {base : Nat} {v : Value} {d : DataW H} {p : List MemPlace} (hval : Value.okWide Tryz.prog W .any base 23 v) (h : DataW.Trod enc Tryz.prog W 0 (fun _ => true) true 23 v d p) :
    ∃ l : Bs, RF W.heap.size W v l := by
  obtain ⟨a1, len, cap, rfl⟩ := okWide_slice u23 hval
  obtain ⟨fuel, hf⟩ := h
  rcases open_ints u23 u5 c5 hf with ⟨hcs, hx⟩ | ⟨a, len', cap', zs, hcs, _, hl, hm, hz, hx, hcell, hwz⟩
  · simp [Value.cells] at hcs
    obtain ⟨rfl, rfl, rfl⟩ := hcs
    exact ⟨[], ⟨none, 0, rfl, fun h => absurd rfl h⟩⟩
  · simp [Value.cells] at hcs
    obtain ⟨rfl, rfl, rfl⟩ := hcs
    simp only [if_true] at hz
    have hw : ∀ n ∈ zs, 0 ≤ n ∧ n < 256 := fun n hn => by
      have := hwz n hn
      simp [Lit.wf, IntKind.min, IntKind.max, IntKind.signed, IntKind.bits] at this
      omega
    have hlen : ((zs.take len).map fun n => UInt8.ofNat n.toNat).length = len := by rw [List.length_map, List.length_take]; omega
    refine ⟨(zs.take len).map fun n => UInt8.ofNat n.toNat, ⟨some a, cap, by rw [hlen], fun hne => ?_⟩⟩
    have hl0 : 0 < len := by
      rcases Nat.eq_zero_or_pos len with h | h
      · subst h; simp at hne
      · exact h
    obtain ⟨b, o, dc, e, fz, rfl, hb, hc⟩ := cells_ints hcell (by omega)
    refine ⟨b, o, dc, e, fz, rfl, hb, fun i n hi => ?_, lt_of_heap hb⟩
    rw [List.getElem?_map, List.getElem?_take] at hi
    split at hi
    · rename_i hil
      have hiz : i < zs.length := by omega
      rw [List.getElem?_eq_getElem hiz] at hi
      simp only [Option.map_some, Option.some.injEq] at hi
      subst hi
      have := hw _ (List.getElem_mem hiz)
      rw [hc i hiz]
      have e1 : zs.getD i 0 = zs[i] := by simp [List.getD, hiz]
      rw [e1]
      congr 2
      simp only [UInt8.toNat_ofNat']
      omega
    · cases hi

variable {P : Program}

theorem post_of_below {f : Func} {s : ChangeSpec} {apart fresh handsOn again : Bool} {W W' : World} {args : Array Value} {v : Value} {ds gs : List (DataW H)} {before pa pv : List MemPlace}
    (hW : DataW.Whole enc P f.params.toList s.vars apart W args.toList ds gs before) (hb : Below W.heap.size W W')
    (hres : ∀ (b : Nat) (sp : Nat → Bool) (hd : Bool), DataW.TrodAll enc P W' b sp hd f.resultTypes.toList (v.resultList f.resultTypes.size) (s.fn H (ds ++ gs)).results [])
    (hargs : ∀ sp : Nat → Bool, (∀ p ∈ before, sp p.block = true) → DataW.TrodAll enc P W' 0 sp true f.params.toList args.toList (s.fn H (ds ++ gs)).args pa)
    (hvars : ∀ sp : Nat → Bool, (∀ p ∈ before, sp p.block = true) → DataW.TrodVars enc P W' sp s.vars (s.fn H (ds ++ gs)).vars pv)
    (hps : before = pa ++ pv)
    (hok : ∀ (j : Nat) (t : TypeId) (r : Value), f.resultTypes[j]? = some t → (v.resultList f.resultTypes.size)[j]? = some r → Value.okWide P W' .any 0 t r) :
    s.post enc P f apart fresh handsOn again W args v W' := by
  have hlt := hW.lt
  have hold : ∀ p ∈ before, (fun b => decide (b < W.heap.size)) p.block = true := fun p hp => by simpa using hlt p hp
  refine ⟨ds, gs, before, [], pa, pv, hW, hres _ _ _, hargs _ hold, hvars _ hold, hb.frame _, fun _ => ?_⟩
  obtain ⟨_, _, _, _, _, hz, hn⟩ := hW
  refine ⟨hok, _, _, ([] ++ pa) ++ pv, ⟨[] ++ pa, pv, trodAll_append (hargs _ (fun _ _ => rfl)) (hres _ _ _), hvars _ (fun _ _ => rfl), rfl, ?_, ?_⟩, ?_⟩
  · intro b off hp
    have hp' : MemPlace.cell b off ∈ before := by rw [hps]; simpa using hp
    rw [hb.frozen (p := ⟨b, off, none⟩) (hlt _ hp')]
    exact hz b off hp'
  · intro ha
    have := hn ha
    rw [hps] at this
    simpa using this
  · intro p hp _
    rw [hps]
    simpa using hp

/-- What came in reads again as it did. -/
theorem again {t : Nat} (hr : Tryz.prog.readableRec t = true) (ht : t < Tryz.prog.types.size) {W W' : World} {v : Value} {d : DataW H} {ps : List MemPlace} (h : DataW.Trod enc Tryz.prog W 0 (fun _ => true) true t v d ps)
    (hb : Below W.heap.size W W') (hlt : ∀ x ∈ ps, x.block < W.heap.size) {sp : Nat → Bool} (hsp : ∀ p ∈ ps, sp p.block = true) : DataW.Trod enc Tryz.prog W' 0 sp true t v d ps :=
  WideElems.Trod_stays laidOutP hr ht h (fun x hx => hb.same (hlt x hx)) hsp

end

end Go.Proofs.YtaccphdkapmdhaaGreat
