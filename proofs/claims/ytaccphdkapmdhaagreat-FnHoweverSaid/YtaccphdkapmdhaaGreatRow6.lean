/- FnHowever answers true on every input. No condition. -/
import Derived.Test.YtaccphdkapmdhaaGreatR54
import Derived.Test.YtaccphdkapmdhaaGreatR57
namespace Go.Proofs.YtaccphdkapmdhaaGreat
set_option maxRecDepth 100000
set_option maxHeartbeats 64000000
set_option linter.all false
open Go.ChangeShapes Go.WideShapes Go.ChangeAt Go.RowKit
theorem Sv (os:Os) (started:os.Started) (H:Type) (enc:TypeId×Value->H):
  ReturnsInHanded {} Tryz.checked os 6 .any (Rows.fnHoweverSpec.pre6 enc Tryz.prog Tryz.f6 Rows.fnHoweverRow.domain false) (Rows.fnHoweverSpec.post enc Tryz.prog Tryz.f6 false true false false):=by
 refine returnsInHanded_of_change (C:=Tryz.checked) Ul started (by kernel_rfl) Tryz.func6
  (ChangeSpec.witness6 (enc:=enc) (C:=Tryz.checked) false ⟨#[],#[.slice none 0 0,.slice none 0 0,.slice none 0 0],[]⟩ 8 (by kernel_rfl) (by kernel_rfl) (by kernel_rfl) (by kernel_rfl)) ?_
 intro W base args ds gs before b hW m _;have a:∀(j:Nat) t v,Tryz.f6.params[j]?=some t->args[j]?=some v->Value.okWide Tryz.prog W .any base t v:=b;have f:=hW;have c:=hW.lt;obtain⟨p,q,g,hV,rfl,n,o⟩:=hW;have hA:DataW.TrodAll enc Tryz.prog W 0 (fun _=>true) true Tryz.f6.params.toList args.toList ds p:=g;rw [show Tryz.f6.params=#[22,23,23] from rfl] at hA a;obtain⟨v0,v1,v2,d0,d1,d2,p0,p1,p2,rfl,rfl,rfl,h0,h1,h2⟩:=trodAll_three hA;obtain⟨rfl,rfl⟩:=trodVars_none hV;obtain⟨l,hl,h⟩:=aA (a 0 22 v0 rfl rfl) h0;obtain⟨c1,i⟩:=aB (a 1 23 v1 rfl rfl) h1;obtain⟨c2,k⟩:=aB (a 2 23 v2 rfl rfl) h2;clear g b;simp only [List.append_nil] at f c;refine (Xq v0 v1 v2 l c1 c2 W hl i k h).mono fun e W' ⟨he,hw⟩=>?_;subst he;have hb:=hw.below;exact⟨_,rfl,Kf (pa:=p0++(p1++p2)) (pv:=[]) f hb (fun _ _ _=>trodAll_mk1 (shut_bool u4 true))
  (fun sp d=>trodAll_mk3 (Jq r22 t22 h0 hb (fun x hx=>c x (by simp [hx])) (fun x hx=>d x (by simp [hx])))
   (Jq r23 t23 h1 hb (fun x hx=>c x (by simp [hx])) (fun x hx=>d x (by simp [hx])))
   (Jq r23 t23 h2 hb (fun x hx=>c x (by simp [hx])) (fun x hx=>d x (by simp [hx]))))
  (fun _ _=>rfl) (by simp) (ok_one (by kernel_rfl) Z (okWide_bool_mk u4 true))⟩
theorem fnHowever_holds:Rows.FnHoweverSaid:=
 OpenClaim.holds_of_wide 6 Tryz.f6 Z Z Z Z Z Z Z ⟨rfl,rfl,rfl,rfl,rfl⟩ Z Z Z Z Z (by kernel_rfl) Tryz.func6 (by kernel_rfl)
  (of_decide_eq_true (by kernel_rfl)) (by unfold Func.isWrapper;first|(rw [if_pos (by decide +kernel)];kernel_rfl)|(rw [if_neg (by decide +kernel)];exact⟨rfl,rfl⟩))
  (fun os started H enc _=>Sv os started H enc)
end Go.Proofs.YtaccphdkapmdhaaGreat
