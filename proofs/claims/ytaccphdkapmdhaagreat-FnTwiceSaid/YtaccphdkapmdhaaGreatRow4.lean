/- The second law: the row. No condition. -/
import Derived.Test.YtaccphdkapmdhaaGreatRow1
import Derived.Test.YtaccphdkapmdhaaGreatP20
namespace Go.Proofs.YtaccphdkapmdhaaGreat
open Go.ChangeShapes Go.WideShapes Go.ChangeAt Go.RowKit

set_option maxRecDepth 100000 in
theorem fnTwice_lifted (os : Os) (started : os.Started) (H : Type) (enc : TypeId × Value → H) :
    ReturnsInHanded {} Tryz.checked os 4 .any (Rows.fnTwiceSpec.pre6 enc Tryz.prog Tryz.f4 Rows.fnTwiceRow.domain false) (Rows.fnTwiceSpec.post enc Tryz.prog Tryz.f4 false true false false) := by
  refine returnsInHanded_of_change (C := Tryz.checked) ownNone started (by kernel_rfl) Tryz.func4
    (ChangeSpec.witness6 (enc := enc) (C := Tryz.checked) false ⟨#[], #[.slice none 0 0, .int .u32 0], []⟩ 8 (by kernel_rfl) (by kernel_rfl) (by kernel_rfl) (by kernel_rfl)) ?_
  intro W base args ds gs before hval0 hW hcnd _
  have hval : ∀ (j : Nat) t v, Tryz.f4.params[j]? = some t → args[j]? = some v → Value.okWide Tryz.prog W .any base t v := hval0
  have hW' := hW
  have hlt := hW.lt
  obtain ⟨p, q, hA0, hV, rfl, hfz, hnd⟩ := hW
  have hA : DataW.TrodAll enc Tryz.prog W 0 (fun _ => true) true Tryz.f4.params.toList args.toList ds p := hA0
  rw [show Tryz.f4.params = #[22, 29] from rfl] at hA hval
  obtain ⟨v0, v1, d0, d1, p0, p1, rfl, rfl, rfl, h0, h1⟩ := trodAll_two hA
  obtain ⟨rfl, rfl⟩ := trodVars_none hV
  obtain ⟨l, hl, hl1⟩ := open_us (hval 0 22 v0 rfl rfl) h0
  obtain ⟨a, rfl, rfl, rfl, wa⟩ := open_int u29 (hval 1 29 v1 rfl rfl) h1
  clear hA0 hval0
  simp only [List.append_nil] at hW' hlt
  have hwa : 0 ≤ a ∧ a < 4294967296 := by
    have := wa
    simp [Lit.wf, IntKind.min, IntKind.max, IntKind.signed, IntKind.bits] at this
    omega
  obtain ⟨n, rfl⟩ : ∃ n : Nat, a = (n : Int) := ⟨a.toNat, by omega⟩
  have hn : n < UU := by show n < 4294967296; omega
  refine (fnTwice_any v0 l n W hl hl1 hn).mono fun e W' ⟨he, hw⟩ => ?_
  subst he
  have hb := hw.below
  exact ⟨_, rfl, post_of_below (pa := p0) (pv := []) hW' hb (fun _ _ _ => trodAll_mk1 (shut_bool u4 true))
    (fun sp hsp => by
      have := trodAll_mk2 (again r22 t22 h0 hb (fun x hx => hlt x hx) (sp := sp) (fun x hx => hsp x hx)) (shut_int (enc := enc) (w := W') (base := 0) (spare := sp) (held := true) u29 wa)
      rw [List.append_nil] at this
      exact this)
    (fun _ _ => rfl) (by simp) (ok_one (by kernel_rfl) rfl (okWide_bool_mk u4 true))⟩

theorem fnTwice_holds : Rows.FnTwiceSaid :=
  OpenClaim.holds_of_wide 4 Tryz.f4 rfl rfl rfl rfl rfl rfl rfl ⟨rfl, rfl, rfl, rfl, rfl⟩ rfl rfl rfl rfl rfl (by kernel_rfl) Tryz.func4 (by kernel_rfl)
    (of_decide_eq_true (by kernel_rfl)) (by unfold Func.isWrapper; first | (rw [if_pos (by decide +kernel)]; kernel_rfl) | (rw [if_neg (by decide +kernel)]; exact ⟨rfl, rfl⟩))
    (fun os started H enc _ => fnTwice_lifted os started H enc)

#print axioms fnTwice_holds
end Go.Proofs.YtaccphdkapmdhaaGreat
