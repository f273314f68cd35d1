/- The walk of FnHowever: it answers true. No condition. -/
import Derived.Test.YtaccphdkapmdhaaGreatR52
namespace Go.Proofs.YtaccphdkapmdhaaGreat
set_option maxRecDepth 100000
set_option maxHeartbeats 64000000
set_option linter.all false
section
attribute [local irreducible] binOp IntKind.wrap Sem.run
theorem Xq (v0 v1 v2:Value) (l:List Nat) (c1 c2:Bs) (w:World) (h0:US w v0 l) (h1:RF w.heap.size w v1 c1) (h2:RF w.heap.size w v2 c2) (hl:∀n∈l,n<UU):
  Calls PP 6 #[v0,v1,v2] w fun e w'=>e=.returned (.bool true)/\Up w.heap.size w w':=by
 have g0:=h0;have g1:=h1;have g2:=h2;obtain⟨ad0,cap0,rfl⟩:=h0.sl;obtain⟨ad1,cap1,rfl,_⟩:=h1;obtain⟨ad2,cap2,rfl,_⟩:=h2;refine Bf (L:=[(0,.slice ad0 l.length cap0),(1,.slice ad1 c1.length cap1),(2,.slice ad2 c2.length cap2)]) Tryz.func6 Z Z Z ⟨Z,Z,Z,V⟩ ?_;by_cases a1:2147483647<l.length
 ·(repeat first|refine Aa Z ?_|apply Ab|apply Ac|refine Bn Z (by first|with_reducible rfl|exact Bool.not_false) ?_|refine Au Z ?_|apply Ad|apply Bl|apply Ai|refine Bc Z Z (by first|omega|decide) ?_);exact Ak Z Z ⟨rfl,Up.refl _ _⟩
 by_cases a2:2147483647<c1.length
 ·(repeat first|refine Aa Z ?_|apply Ab|apply Ac|refine Bn Z (by first|with_reducible rfl|exact Bool.not_false) ?_|refine Au Z ?_|apply Ad|apply Bl|apply Ai|refine Bc Z Z (by first|omega|decide) ?_|refine Az Z Z (by first|omega|decide) ?_);exact Ak Z Z ⟨rfl,Up.refl _ _⟩
 by_cases a3:2147483647<c2.length
 ·(repeat first|refine Aa Z ?_|apply Ab|apply Ac|refine Ao Z (by first|omega|decide) ?_|refine Au Z ?_|apply Ad|apply Bl|apply Ai|refine Az Z Z (by first|omega|decide) ?_);exact Ak Z Z ⟨rfl,Up.refl _ _⟩
 by_cases b1:100<l.length
 ·(repeat first|refine Aa Z ?_|apply Ab|apply Ac|refine Bn Z (by first|with_reducible rfl|exact Bool.not_false) ?_|refine Aj Z (by first|omega|decide) ?_|refine Au Z ?_|apply Ad|apply An|apply Bl|apply Af|apply Ai|refine Bc Z Z (by first|omega|decide) ?_|refine Az Z Z (by first|omega|decide) ?_);exact Ak Z Z ⟨rfl,Up.refl _ _⟩
 by_cases b2:1000<c1.length
 ·(repeat first|refine Aa Z ?_|apply Ab|apply Ac|refine Bn Z (by first|with_reducible rfl|exact Bool.not_false) ?_|refine Aj Z (by first|omega|decide) ?_|refine Au Z ?_|apply Ad|apply An|apply Bl|apply Af|apply Ai|refine Bc Z Z (by first|omega|decide) ?_|refine Az Z Z (by first|omega|decide) ?_);exact Ak Z Z ⟨rfl,Up.refl _ _⟩
 by_cases b3:1000<c2.length
 ·(repeat first|refine Aa Z ?_|apply Ab|apply Ac|refine Ao Z (by first|omega|decide) ?_|refine Aj Z (by first|omega|decide) ?_|refine Au Z ?_|apply Ad|apply An|apply Bl|apply Af|apply Ai|refine Az Z Z (by first|omega|decide) ?_);exact Ak Z Z ⟨rfl,Up.refl _ _⟩
 have j:∀x∈Gb l,OkX x:=fun x hx=>((OkL.lines l).ok x hx).1;have k:=Yr (OkL.lines l);repeat first|refine Aa Z ?_|apply Ab|apply Ac|refine Aj Z (by first|omega|decide) ?_|refine Au Z ?_|apply Ad|apply An|apply Af|refine Az Z Z (by first|omega|decide) ?_
 refine Ae Z Z Z (Lw _ l w g0 hl) ?_;rintro e w1 ⟨lv,xs,rfl,av,aa,ab⟩;refine T2 Z Z ?_;repeat (refine Aa Z ?_)
 refine Ae Z Z Z (Qs _ _ _ _ c1 w1 (Rx.own av aa) (g1.upS ab) j k (by omega)) ?_;rintro e w2 ⟨v2,rfl,aw,ac⟩;refine T2 Z Z ?_;have b:=ab.after aw Y;repeat (refine Aa Z ?_)
 refine Ae Z Z Z (Lw _ l w2 (g0.up b) hl) ?_;rintro e w3 ⟨lv3,xs3,rfl,ax,ad,ae⟩;refine T2 Z Z ?_;have c:=b.after ae Y;repeat (refine Aa Z ?_)
 refine Ae Z Z Z (Qs _ _ _ _ c2 w3 (Rx.own ax ad) (g2.upS c) j k (by omega)) ?_;rintro e w4 ⟨v4,rfl,af,ay⟩;refine T2 Z Z ?_;have ag:=c.after af Y;have ah:=(ac.up ae).up af;generalize Gb l=es at *;clear ac aa ad j k;have bf:=Vw (Et es);have m:=Tr (Et es);have a:((Et es).isNone==(Et es).isNone)=true:=by cases (Et es).isNone<;>rfl
 repeat first|refine Aa Z ?_|apply Ab|apply Ac
 refine Ae Z Z Z ah.look ?_;rintro e w5 ⟨rfl,o⟩;refine T2 Z Z ?_;have az:=ah.up o;have ai:=ay.up o;have aj:=ag.after o Y;repeat first|refine Aa Z ?_|refine Au Z ?_
 refine Ae Z Z Z ai.look ?_;rintro e w6 ⟨rfl,p⟩;refine T2 Z Z ?_;have ak:=az.up p;have ba:=ai.up p;have al:=aj.after p Y;repeat first|refine Aa Z ?_|refine Au Z ?_
 refine Ae Z Z Z ak.means ?_;rintro e w7 ⟨rfl,q⟩;refine T2 Z Z ?_;have bb:=ak.up q;have am:=ba.up q;have an:=al.after q Y;repeat (refine Au Z ?_)
 refine Ae Z Z Z am.means ?_;rintro e w8 ⟨rfl,r⟩;refine T2 Z Z ?_;have ao:=bb.up r;have bc:=am.up r;have ap:=an.after r Y;repeat first|refine Aa Z ?_|refine Au Z ?_|refine Bc Z Z (by first|omega|decide) ?_
 refine Ae Z Z Z ao.check ?_;rintro e w9 ⟨rfl,s⟩;refine T2 Z Z ?_;have bd:=ao.up s;have be:=bc.up s;have aq:=ap.after s Y;repeat (refine Au Z ?_)
 refine Ae Z Z Z be.check ?_;rintro e bg ⟨rfl,d⟩;refine T2 Z Z ?_;have f:=bd.up d;have t:=aq.after d Y;skip;refine eS Z Z a Z ?_;repeat first|refine Aa Z ?_|refine Au Z ?_
 refine Ae Z Z Z f.means ?_;rintro e bh ⟨rfl,g⟩;refine T2 Z Z ?_;have h:=f.up g;have u:=t.after g Y;repeat first|refine Aa Z ?_|refine Au Z ?_|refine Bc Z Z (by first|omega|decide) ?_
 refine Ae Z Z Z h.check ?_;rintro e bi ⟨rfl,i⟩;refine T2 Z Z ?_;have ar:=h.up i;have v:=u.after i Y;repeat (refine Au Z ?_)
 refine Ae Z Z Z ar.means ?_;rintro e bj ⟨rfl,au⟩;refine T2 Z Z ?_;have y:=v.after au Y;repeat (refine Au Z ?_)
 have z:((Et es).isNone==dc (Fo (Et es)=-1))=true:=by
  rw [<-m];exact a
 refine eS Z Z z Z ?_;repeat first|refine Aa Z ?_|apply Ab|refine Au Z ?_|apply Ai
 exact Ak Z Z ⟨rfl,y⟩
end
end Go.Proofs.YtaccphdkapmdhaaGreat
