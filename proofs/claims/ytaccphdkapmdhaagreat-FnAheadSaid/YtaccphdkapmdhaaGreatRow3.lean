/- The first law: the row. No condition. -/
import Derived.Test.YtaccphdkapmdhaaGreatRow1
namespace Go.Proofs.YtaccphdkapmdhaaGreat
open Go.ChangeShapes Go.WideShapes Go.ChangeAt Go.RowKit

set_option maxRecDepth 100000 in
theorem fnAhead_lifted (os : Os) (started : os.Started) (H : Type) (enc : TypeId × Value → H) :
    ReturnsInHanded {} Tryz.checked os 3 .any (Rows.fnAheadSpec.pre6 enc Tryz.prog Tryz.f3 Rows.fnAheadRow.domain false) (Rows.fnAheadSpec.post enc Tryz.prog Tryz.f3 false true false false) := by
  refine returnsInHanded_of_change (C := Tryz.checked) ownNone started (by kernel_rfl) Tryz.func3
    (ChangeSpec.witness6 (enc := enc) (C := Tryz.checked) false ⟨#[], #[.slice none 0 0, .slice none 0 0, .slice none 0 0], []⟩ 8 (by kernel_rfl) (by kernel_rfl) (by kernel_rfl) (by kernel_rfl)) ?_
  intro W base args ds gs before hval0 hW hcnd _
  have hval : ∀ (j : Nat) t v, Tryz.f3.params[j]? = some t → args[j]? = some v → Value.okWide Tryz.prog W .any base t v := hval0
  have hW' := hW
  have hlt := hW.lt
  obtain ⟨p, q, hA0, hV, rfl, hfz, hnd⟩ := hW
  have hA : DataW.TrodAll enc Tryz.prog W 0 (fun _ => true) true Tryz.f3.params.toList args.toList ds p := hA0
  rw [show Tryz.f3.params = #[22, 23, 22] from rfl] at hA hval
  obtain ⟨v0, v1, v2, d0, d1, d2, p0, p1, p2, rfl, rfl, rfl, h0, h1, h2⟩ := trodAll_three hA
  obtain ⟨rfl, rfl⟩ := trodVars_none hV
  obtain ⟨l, hl, hl1⟩ := open_us (hval 0 22 v0 rfl rfl) h0
  obtain ⟨code, hc⟩ := open_rf (hval 1 23 v1 rfl rfl) h1
  obtain ⟨more, hm, hm1⟩ := open_us (hval 2 22 v2 rfl rfl) h2
  clear hA0 hval0
  simp only [List.append_nil] at hW' hlt
  refine (fnAhead_any v0 v1 v2 l more code W hl hc hm hl1 hm1).mono fun e W' ⟨he, hw⟩ => ?_
  subst he
  have hb := hw.below
  exact ⟨_, rfl, post_of_below (pa := p0 ++ (p1 ++ p2)) (pv := []) hW' hb (fun _ _ _ => trodAll_mk1 (shut_bool u4 true))
    (fun sp hsp => trodAll_mk3 (again r22 t22 h0 hb (fun x hx => hlt x (by simp [hx])) (fun x hx => hsp x (by simp [hx])))
      (again r23 t23 h1 hb (fun x hx => hlt x (by simp [hx])) (fun x hx => hsp x (by simp [hx])))
      (again r22 t22 h2 hb (fun x hx => hlt x (by simp [hx])) (fun x hx => hsp x (by simp [hx]))))
    (fun _ _ => rfl) (by simp) (ok_one (by kernel_rfl) rfl (okWide_bool_mk u4 true))⟩

theorem fnAhead_holds : Rows.FnAheadSaid :=
  OpenClaim.holds_of_wide 3 Tryz.f3 rfl rfl rfl rfl rfl rfl rfl ⟨rfl, rfl, rfl, rfl, rfl⟩ rfl rfl rfl rfl rfl (by kernel_rfl) Tryz.func3 (by kernel_rfl)
    (of_decide_eq_true (by kernel_rfl)) (by unfold Func.isWrapper; first | (rw [if_pos (by decide +kernel)]; kernel_rfl) | (rw [if_neg (by decide +kernel)]; exact ⟨rfl, rfl⟩))
    (fun os started H enc _ => fnAhead_lifted os started H enc)

#print axioms fnAhead_holds
end Go.Proofs.YtaccphdkapmdhaaGreat
