/- FnLonger answers true on every input. No condition. -/
import Derived.Test.YtaccphdkapmdhaaGreatR56
import Derived.Test.YtaccphdkapmdhaaGreatR57
namespace Go.Proofs.YtaccphdkapmdhaaGreat
set_option maxRecDepth 100000
set_option maxHeartbeats 64000000
set_option linter.all false
open Go.ChangeShapes Go.WideShapes Go.ChangeAt Go.RowKit
theorem Ug (os:Os) (started:os.Started) (H:Type) (enc:TypeId×Value->H):
  ReturnsInHanded {} Tryz.checked os 7 .any (Rows.fnLongerSpec.pre6 enc Tryz.prog Tryz.f7 Rows.fnLongerRow.domain false) (Rows.fnLongerSpec.post enc Tryz.prog Tryz.f7 false true false false):=by
 refine returnsInHanded_of_change (C:=Tryz.checked) Ul started (by kernel_rfl) Tryz.func7
  (ChangeSpec.witness6 (enc:=enc) (C:=Tryz.checked) false ⟨#[],#[.slice none 0 0,.int .u8 0],[]⟩ 8 (by kernel_rfl) (by kernel_rfl) (by kernel_rfl) (by kernel_rfl)) ?_
 intro W base args ds gs before b hW k _;have c:∀(j:Nat) t v,Tryz.f7.params[j]?=some t->args[j]?=some v->Value.okWide Tryz.prog W .any base t v:=b;have d:=hW;have f:=hW.lt;obtain⟨p,q,g,hV,rfl,m,o⟩:=hW;have hA:DataW.TrodAll enc Tryz.prog W 0 (fun _=>true) true Tryz.f7.params.toList args.toList ds p:=g;rw [show Tryz.f7.params=#[22,5] from rfl] at hA c;obtain⟨v0,v1,d0,d1,p0,p1,rfl,rfl,rfl,h0,h1⟩:=trodAll_two hA;obtain⟨rfl,rfl⟩:=trodVars_none hV;obtain⟨l,hl,h⟩:=aA (c 0 22 v0 rfl rfl) h0;obtain⟨a,rfl,rfl,rfl,wa⟩:=open_int u5 (c 1 5 v1 rfl rfl) h1;clear g b;simp only [List.append_nil] at d f;have r:0<=a/\a<256:=by
  have:=wa;simp [Lit.wf,IntKind.min,IntKind.max,IntKind.signed,IntKind.bits] at this;omega
 obtain⟨n,rfl⟩:∃n:Nat,a=(n:Int):=⟨a.toNat,by omega⟩;have hn:n<256:=by omega
 refine (aV v0 l n W hl h hn).mono fun e W' ⟨he,hw⟩=>?_;subst he;have hb:=hw.below;exact⟨_,rfl,Kf (pa:=p0) (pv:=[]) d hb (fun _ _ _=>trodAll_mk1 (shut_bool u4 true))
  (fun sp i=>by
   have:=trodAll_mk2 (Jq r22 t22 h0 hb (fun x hx=>f x hx) (sp:=sp) (fun x hx=>i x hx)) (shut_int (enc:=enc) (w:=W') (base:=0) (spare:=sp) (held:=true) u5 wa);rw [List.append_nil] at this;exact this)
  (fun _ _=>rfl) (by simp) (ok_one (by kernel_rfl) Z (okWide_bool_mk u4 true))⟩
theorem fnLonger_holds:Rows.FnLongerSaid:=
 OpenClaim.holds_of_wide 7 Tryz.f7 Z Z Z Z Z Z Z ⟨rfl,rfl,rfl,rfl,rfl⟩ Z Z Z Z Z (by kernel_rfl) Tryz.func7 (by kernel_rfl)
  (of_decide_eq_true (by kernel_rfl)) (by unfold Func.isWrapper;first|(rw [if_pos (by decide +kernel)];kernel_rfl)|(rw [if_neg (by decide +kernel)];exact⟨rfl,rfl⟩))
  (fun os started H enc _=>Ug os started H enc)
end Go.Proofs.YtaccphdkapmdhaaGreat
