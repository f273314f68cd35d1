/- FnFew answers true on every input. No condition. -/
import Derived.Test.YtaccphdkapmdhaaGreatR53
import Derived.Test.YtaccphdkapmdhaaGreatR57
namespace Go.Proofs.YtaccphdkapmdhaaGreat
set_option maxRecDepth 100000
set_option maxHeartbeats 64000000
set_option linter.all false
open Go.ChangeShapes Go.WideShapes Go.ChangeAt Go.RowKit
theorem aW (os:Os) (started:os.Started) (H:Type) (enc:TypeId×Value->H):
  ReturnsInHanded {} Tryz.checked os 5 .any (Rows.fnFewSpec.pre6 enc Tryz.prog Tryz.f5 Rows.fnFewRow.domain false) (Rows.fnFewSpec.post enc Tryz.prog Tryz.f5 false true false false):=by
 refine returnsInHanded_of_change (C:=Tryz.checked) Ul started (by kernel_rfl) Tryz.func5
  (ChangeSpec.witness6 (enc:=enc) (C:=Tryz.checked) false ⟨#[],#[.slice none 0 0,.slice none 0 0],[]⟩ 8 (by kernel_rfl) (by kernel_rfl) (by kernel_rfl) (by kernel_rfl)) ?_
 intro W base args ds gs before a hW i _;have b:∀(j:Nat) t v,Tryz.f5.params[j]?=some t->args[j]?=some v->Value.okWide Tryz.prog W .any base t v:=a;have d:=hW;have c:=hW.lt;obtain⟨p,q,f,hV,rfl,k,m⟩:=hW;have hA:DataW.TrodAll enc Tryz.prog W 0 (fun _=>true) true Tryz.f5.params.toList args.toList ds p:=f;rw [show Tryz.f5.params=#[22,23] from rfl] at hA b;obtain⟨v0,v1,d0,d1,p0,p1,rfl,rfl,rfl,h0,h1⟩:=trodAll_two hA;obtain⟨rfl,rfl⟩:=trodVars_none hV;obtain⟨l,hl,h⟩:=aA (b 0 22 v0 rfl rfl) h0;obtain⟨code,hc⟩:=aB (b 1 23 v1 rfl rfl) h1;clear f a;simp only [List.append_nil] at d c;refine (kG v0 v1 l code W hl hc h).mono fun e W' ⟨he,hw⟩=>?_;subst he;have hb:=hw.below;exact⟨_,rfl,Kf (pa:=p0++p1) (pv:=[]) d hb (fun _ _ _=>trodAll_mk1 (shut_bool u4 true))
  (fun sp g=>trodAll_mk2 (Jq r22 t22 h0 hb (fun x hx=>c x (by simp [hx])) (fun x hx=>g x (by simp [hx])))
   (Jq r23 t23 h1 hb (fun x hx=>c x (by simp [hx])) (fun x hx=>g x (by simp [hx]))))
  (fun _ _=>rfl) (by simp) (ok_one (by kernel_rfl) Z (okWide_bool_mk u4 true))⟩
theorem fnFew_holds:Rows.FnFewSaid:=
 OpenClaim.holds_of_wide 5 Tryz.f5 Z Z Z Z Z Z Z ⟨rfl,rfl,rfl,rfl,rfl⟩ Z Z Z Z Z (by kernel_rfl) Tryz.func5 (by kernel_rfl)
  (of_decide_eq_true (by kernel_rfl)) (by unfold Func.isWrapper;first|(rw [if_pos (by decide +kernel)];kernel_rfl)|(rw [if_neg (by decide +kernel)];exact⟨rfl,rfl⟩))
  (fun os started H enc _=>aW os started H enc)
end Go.Proofs.YtaccphdkapmdhaaGreat
