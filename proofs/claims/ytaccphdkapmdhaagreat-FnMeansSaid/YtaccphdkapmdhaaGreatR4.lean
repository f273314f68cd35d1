/- Two documents in full (plain). No condition. -/
import Derived.Test.YtaccphdkapmdhaaGreatR2
namespace Go.Proofs.YtaccphdkapmdhaaGreat
set_option maxRecDepth 100000
set_option maxHeartbeats 64000000
set_option linter.all false
section
theorem Lp.digit {x:UInt8} (hx:x=49∨x=50) {r:Bs} (h:Ic r):Lp (x::r) 1 1:=by
 have d:(x=49∨x=50)->Dj x=true/\x≠48/\x≠43/\x≠45/\Fb x<10:=by rintro (rfl|rfl)<;>decide
 obtain⟨x1,x2,x3,x4,x5⟩:=d hx;have a:Di (x::r)=0:=by unfold Di;rw [if_neg];exact fun h=>h.elim x3 x4
 have hc:Dj (pk (x::r) 1)=false/\pk (x::r) 1≠46/\pk (x::r) 1≠101/\pk (x::r) 1≠69/\pk (x::r) 1≠95/\Fc 10 r=0/\r.head?≠some 95:=by
  rcases h.weak with rfl|⟨c,t,rfl,h0⟩
  ·have e0:pk [x] 1=0:=rfl;rw [e0];exact⟨by decide,by decide,by decide,by decide,by decide,rfl,by decide⟩
  ·have e:pk (x::c::t) 1=c:=rfl;rw [e];have ne:∀k:UInt8,c=k->c.toNat=k.toNat:=fun k h=>(by rw [h]);have hd:Fc 10 (c::t)=0:=by
    rw [Fc,if_neg];unfold Fb;rw [if_neg (by omega),if_neg (by omega),if_neg (by omega)];omega
   refine⟨?_,?_,?_,?_,?_,hd,?_⟩
   ·simp only [Dj,decide_eq_false_iff_not];omega
   ·rintro rfl;revert h0;decide
   ·rintro rfl;revert h0;decide
   ·rintro rfl;revert h0;decide
   ·rintro rfl;revert h0;decide
   ·intro h2;simp only [List.head?_cons,Yb] at h2;subst h2;revert h0;decide
 obtain⟨h1,h2,h3,h4,h5,h6,h7⟩:=hc;have hn:=Lp.dec (b:=x::r) (k:=1) (f:=0) (e:=0) (kind:=1) (fun hd=>by
   have:=hd.1 1 (by omega);rw [Yi,h1] at this;cases this) (fun hd=>by
   have:=hd.1 1 (by omega);rw [Yi,h1] at this;cases this) (fun hd=>absurd hd.1 x2)
  (by rw [a,List.drop_zero];exact Sd.one (by rw [Fc,h6,if_pos x5]) (by omega) h7) (fun _=>rfl) (.inl ⟨by rw [a];exact h2,rfl⟩) (.inl ⟨by rw [a];exact h3,by rw [a];exact h4,rfl⟩) rfl
 rw [a] at hn;exact hn
theorem VV.digit {x:UInt8} (hx:x=49∨x=50) {d:Nat} {r:Bs} (hd:d<=60) (h:Ic r):VV d (x::r) (.sc 1 [x]) r:=.num hd (Lp.digit hx h) h
def Vq (x:UInt8):Ex:=.kv [[97]] (.sc 1 [x])
theorem EX.lineA {x:UInt8} (hx:x=49∨x=50) {r:Bs} (h:Ic r):EX (97::61::x::r) (Vq x) r:=by
 have hk:Mp [[97]] [97]:=Mp.one (Js.bare (fun c hc=>by simp only [List.mem_singleton] at hc;subst hc;decide) (by simp));have h1:=hk.2 [] 61 (x::r) BL.nil (.inl rfl);refine EX.kv h1 ?_;rw [Dl (by rcases hx with rfl|rfl<;>decide)];exact VV.digit hx (by omega) h
theorem iJ:Ic []:=.inl rfl
theorem doc_one:Lr [97,61,49] [Vq 49]:=
 .expr (Dl (by decide)) (EX.lineA (.inl rfl) iJ) (.nl .eof) (.done rfl)
theorem doc_two:Lr [97,61,49,10,97,61,50] [Vq 49,Vq 50]:=
 .expr (Dl (by decide)) (EX.lineA (.inl rfl) (Ic.of_cons (.inl rfl))) (.nl (.lf _)) (.expr (Dl (by decide)) (EX.lineA (.inr rfl) iJ) (.nl .eof) (.done rfl))
theorem jU:Et [Vq 49]=none:=by decide +kernel
theorem jT:Et [Vq 49,Vq 50]=some 1:=by decide +kernel
end
end Go.Proofs.YtaccphdkapmdhaaGreat
