/- FnMeans answers true on every input. No condition. -/
import Derived.Test.YtaccphdkapmdhaaGreatR55
import Derived.Test.YtaccphdkapmdhaaGreatR57
namespace Go.Proofs.YtaccphdkapmdhaaGreat
set_option maxRecDepth 100000
set_option maxHeartbeats 64000000
set_option linter.all false
open Go.ChangeShapes Go.WideShapes Go.ChangeAt Go.RowKit
section
variable {H:Type} {enc:TypeId×Value->H}
theorem open_rt {W:World} {base:Nat} {v:Value} {d:DataW H} {p:List MemPlace} (k:Value.okWide Tryz.prog W .any base 23 v) (h:DataW.Trod enc Tryz.prog W 0 (fun _=>true) true 23 v d p):
  ∃l:Bs,RT W.heap.size W v l:=by
 obtain⟨a1,len,cap,rfl⟩:=okWide_slice u23 k;obtain⟨fuel,hf⟩:=h;rcases open_ints u23 u5 c5 hf with ⟨c,hx⟩|⟨a,len',cap',zs,c,_,hl,hm,hz,hx,j,m⟩
 ·simp [Value.cells] at c;obtain⟨rfl,rfl,rfl⟩:=c;exact⟨[],⟨none,0,rfl,Nat.le_refl _,fun h=>absurd rfl h⟩⟩
 ·simp [Value.cells] at c;obtain⟨rfl,rfl,rfl⟩:=c;simp only [if_true] at hz;have hw:∀n∈zs,0<=n/\n<256:=fun n hn=>by
   have:=m n hn;simp [Lit.wf,IntKind.min,IntKind.max,IntKind.signed,IntKind.bits] at this;omega
  have g:((zs.take len).map fun n=>UInt8.ofNat n.toNat).length=len:=(by rw [List.length_map,List.length_take];omega);refine⟨(zs.take len).map fun n=>UInt8.ofNat n.toNat,⟨some a,cap,by rw [g],by rw [g];exact hl,fun q=>?_⟩⟩;have r:0<len:=by
   rcases Nat.eq_zero_or_pos len with h|h
   ·subst h;simp at q
   ·exact h
  obtain⟨b,o,dc,e,fz,rfl,hb,hc⟩:=Qm j (by omega);refine⟨b,o,dc,e,fz,rfl,hb,fun i n hi=>?_,Ah hb⟩;rw [List.getElem?_map,List.getElem?_take] at hi;split at hi
  ·rename_i s;have f:i<zs.length:=(by omega);rw [Yd f] at hi;simp only [Option.map_some,Yb] at hi;subst hi;have:=hw _ (List.getElem_mem f);rw [hc i f];have e1:zs.getD i 0=zs[i]:=(by simp [List.getD,f]);rw [e1];congr 2;simp only [UInt8.toNat_ofNat'];omega
  ·cases hi
end
theorem Vx (os:Os) (started:os.Started) (H:Type) (enc:TypeId×Value->H):
  ReturnsInHanded {} Tryz.checked os 8 .any (Rows.fnMeansSpec.pre6 enc Tryz.prog Tryz.f8 Rows.fnMeansRow.domain false) (Rows.fnMeansSpec.post enc Tryz.prog Tryz.f8 false true false false):=by
 refine returnsInHanded_of_change (C:=Tryz.checked) Ul started (by kernel_rfl) Tryz.func8
  (ChangeSpec.witness6 (enc:=enc) (C:=Tryz.checked) false ⟨#[],#[.slice none 0 0],[]⟩ 8 (by kernel_rfl) (by kernel_rfl) (by kernel_rfl) (by kernel_rfl)) ?_
 intro W base args ds gs before a hW k _;have c:∀(j:Nat) t v,Tryz.f8.params[j]?=some t->args[j]?=some v->Value.okWide Tryz.prog W .any base t v:=a;have d:=hW;have f:=hW.lt;obtain⟨p,q,g,hV,rfl,l,m⟩:=hW;have hA:DataW.TrodAll enc Tryz.prog W 0 (fun _=>true) true Tryz.f8.params.toList args.toList ds p:=g;rw [show Tryz.f8.params=#[23] from rfl] at hA c;obtain⟨v0,d0,rfl,rfl,h0⟩:=trodAll_one hA;obtain⟨rfl,rfl⟩:=trodVars_none hV;obtain⟨b,h⟩:=open_rt (c 0 23 v0 rfl rfl) h0;clear g a;simp only [List.append_nil] at d f;refine (dS v0 b W h).mono fun e W' ⟨he,hw⟩=>?_;subst he;have hb:=hw.below;exact⟨_,rfl,Kf (pa:=p) (pv:=[]) d hb (fun _ _ _=>trodAll_mk1 (shut_bool u4 true))
  (fun sp i=>trodAll_mk1 (Jq r23 t23 h0 hb (fun x hx=>f x (by simp [hx])) (fun x hx=>i x (by simp [hx]))))
  (fun _ _=>rfl) (by simp) (ok_one (by kernel_rfl) Z (okWide_bool_mk u4 true))⟩
theorem fnMeans_holds:Rows.FnMeansSaid:=
 OpenClaim.holds_of_wide 8 Tryz.f8 Z Z Z Z Z Z Z ⟨rfl,rfl,rfl,rfl,rfl⟩ Z Z Z Z Z (by kernel_rfl) Tryz.func8 (by kernel_rfl)
  (of_decide_eq_true (by kernel_rfl)) (by unfold Func.isWrapper;first|(rw [if_pos (by decide +kernel)];kernel_rfl)|(rw [if_neg (by decide +kernel)];exact⟨rfl,rfl⟩))
  (fun os started H enc _=>Vx os started H enc)
end Go.Proofs.YtaccphdkapmdhaaGreat
