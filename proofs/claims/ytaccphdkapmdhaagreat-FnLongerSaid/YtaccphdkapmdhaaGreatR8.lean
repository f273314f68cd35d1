/- The parser's scanner does as the grammar says. No condition. -/
import Derived.Test.YtaccphdkapmdhaaGreatR7
namespace Go.Proofs.YtaccphdkapmdhaaGreat
set_option maxRecDepth 100000
set_option maxHeartbeats 64000000
set_option linter.all false
section
inductive MR:Bs->Nat->Prop
 | stop {l:Bs}:(∀c,l.head?=some c->c.toNat<128)->MR l 0
 | step {l:Bs} {n m:Nat}:Ku l=n->0<n->MR (l.drop n) m->MR l (n+m)
theorem dK {l:Bs} {n:Nat} (h:Ku l=n) (h0:0<n):
  (∃c c1 l',l=c::c1::l'/\n=2/\194<=c.toNat/\c.toNat<224/\128<=c1.toNat/\c1.toNat<192)∨
  (∃c c1 c2 l',l=c::c1::c2::l'/\n=3/\224<=c.toNat/\c.toNat<240/\128<=c1.toNat/\c1.toNat<192/\128<=c2.toNat/\c2.toNat<192/\(c.toNat=224->160<=c1.toNat)/\(c.toNat=237->c1.toNat<160))∨
  (∃c c1 c2 c3 l',l=c::c1::c2::c3::l'/\n=4/\240<=c.toNat/\c.toNat<245/\128<=c1.toNat/\c1.toNat<192/\128<=c2.toNat/\c2.toNat<192/\128<=c3.toNat/\c3.toNat<192/\
   (c.toNat=240->144<=c1.toNat)/\(c.toNat=244->c1.toNat<144)):=by
 unfold Ku at h;split at h
 ·rename_i c c1 l';split at h
  ·rename_i hc;split at h
   ·rename_i a;exact .inl ⟨c,c1,l',rfl,by omega,hc.1,hc.2,a.1,a.2⟩
   ·omega
  ·split at h
   ·rename_i c2 l2;split at h
    ·rename_i hc;split at h
     ·rename_i h1;exact .inr (.inl ⟨c,c1,c2,l2,rfl,by omega,hc.1,hc.2,h1.2.2.1,h1.2.2.2.1,h1.1,h1.2.1,h1.2.2.2.2.1,h1.2.2.2.2.2⟩)
     ·omega
    ·split at h
     ·rename_i c3 l3;split at h
      ·rename_i hc;split at h
       ·rename_i h1;exact .inr (.inr ⟨c,c1,c2,c3,l3,rfl,by omega,hc.1,hc.2,h1.2.2.2.2.1,h1.2.2.2.2.2.1,h1.1,h1.2.1,h1.2.2.1,h1.2.2.2.1,h1.2.2.2.2.2.2.1,h1.2.2.2.2.2.2.2⟩)
       ·omega
      ·omega
     ·omega
   ·omega
 ·omega
theorem mQ {l:Bs} {n:Nat} (h:Ku l=n) (h0:0<n):n<=l.length:=by
 rcases dK h h0 with ⟨c,c1,l',rfl,rfl,_⟩|⟨c,c1,c2,l',rfl,rfl,_⟩|⟨c,c1,c2,c3,l',rfl,rfl,_⟩<;>simp
theorem MR.le {l:Bs} {m:Nat} (h:MR l m):m<=l.length:=by
 induction h with
 | stop=>omega
 | step h1 h2 _ ih=>
  have:=mQ h1 h2;simp only [Yh] at ih;omega
section
variable {bd C E:Nat} {dc:Array Value} {fz:Nat×Nat}
theorem Es.at {v l} (h:Es bd C E dc v l) {w:World} (hD:w.heap[bd]?=some (.cells dc 5 fz)) {i:Nat} {c:UInt8} (hi:l[i]?=some c):
  w.cell? ⟨bd,E-l.length+i*1,none⟩=some (u8 c):=by
 rw [Nat.mul_one];exact Ar hD (h.cells i c hi)
theorem Es.val {v l} (h:Es bd C E dc v l) (h0:0<l.length):v=.slice (some ⟨bd,E-l.length,none⟩) l.length (C-(E-l.length)):=by
 obtain⟨⟨ad,rfl,hs⟩,a,b,_⟩:=h;rw [hs.addr (by omega)]
theorem Kh {l l':Bs} {j:Nat} (h:l.drop j=l') (n:Nat):l[j+n]?=l'[n]?:=by rw [<-h,List.getElem?_drop]
theorem Hm (v:Value) (l:Bs) (i m:Nat) (w:World) (hv:Es bd C E dc v l) (hi:i<=l.length) (hm:MR (l.drop i) m) (hD:w.heap[bd]?=some (.cells dc 5 fz)):
  Calls PP 76 #[v,.int .i64 (i:Int)] w fun e w'=>e=.returned (.tuple #[.int .i64 ((i+m:Nat):Int),.bool true])/\w'=w:=by
 have hC:=hv.C62;have ab:=hv.le;have ac:=hv.EC;refine Bf (L:=[(0,v),(1,.int .i64 (i:Int))]) Tryz.func76 Z Z Z ⟨Z,Z,V⟩ ?_;repeat first|refine Aa Z ?_|apply Ab|apply Ac|apply Ad|apply Ag
 refine Bg (σ:=Nat) (I:=fun j w'=>w'=w/\i<=j/\j<=l.length/\∃k,MR (l.drop j) k/\j+k=i+m) (m:=fun j=>l.length-j) (Lf:=fun j=>[(0,v),(1,.int .i64 (j:Int))]) i ⟨rfl,Nat.le_refl _,hi,m,hm,rfl⟩ ⟨Z,Z,V⟩ ?_;rintro j w1 ⟨rfl,ae,af,k,hk,ag⟩;by_cases y:j<l.length
 ·have q:=hv.val (by omega);subst q;have a:=fun {i:Nat} {c:UInt8} (h:l[i]?=some c)=>hv.at hD h;cases hk with
  | stop hs=>
   have hc:l[j]?=some l[j]:=Yd y;have r:l[j].toNat<128:=hs _ (by rw [List.head?_drop];exact hc);generalize l[j]=c at hc r;(repeat first|refine Aa Z ?_|apply Ab|apply Ac|refine Ao Z (by first|omega|decide) ?_|refine Ax (i:=j) Z Z Z (by omega) Z ?_|refine Aw Z Z (a hc) Z ?_|apply Ad|apply Ag|apply An|apply Bl|apply Bv|apply Af|apply Ai);refine Ak Z Z ⟨?_,rfl⟩;have:j=i+m:=(by omega);rw [this];rfl
  | step h1 h2 h3=>
   rename_i n k;have z:=mQ h1 h2;simp only [Yh] at z;rw [List.drop_drop] at h3;rcases dK h1 h2 with ⟨c,c1,l',he,rfl,s,t,g,o⟩|⟨c,c1,c2,l',he,rfl,s,t,g,o,b,d,f,p⟩|⟨c,c1,c2,c3,l',he,rfl,s,t,g,o,b,d,f,p,aa,u⟩
   ·have g0:l[j]?=some c:=Kh he 0;have g1:l[j+1]?=some c1:=Kh he 1;(repeat first|refine Aa Z ?_|apply Ab|apply Ac|refine Ao Z (by first|omega|decide) ?_|refine Aj Z (by first|omega|decide) ?_|refine Ax (i:=j) Z Z Z (by omega) Z ?_|refine Ax (i:=j+1) Z Z (by omega) (by omega) Z ?_|refine Aw Z Z (a g0) Z ?_|refine Aw Z Z (a g1) Z ?_|refine Bo Z Z (Gx g o _ _) Z ?_|refine Au Z ?_|apply Ad|apply Am|apply Ag|apply Aq|apply An|apply Bj|apply Af|refine Ay Z Z (by omega) Z ?_|refine Az Z Z (by first|omega|decide) ?_);refine Ap (j+2) ⟨rfl,by omega,by omega,k,h3,by omega⟩ (by omega) ⟨Z,Z,V⟩
   ·have g0:l[j]?=some c:=Kh he 0;have g1:l[j+1]?=some c1:=Kh he 1;have g2:l[j+2]?=some c2:=Kh he 2;have q1:=fun h=>f h;by_cases e1:c.toNat=224
    ·have:=f e1;(repeat first|refine Aa Z ?_|apply Ab|apply Ac|refine Ao Z (by first|omega|decide) ?_|refine Aj Z (by first|omega|decide) ?_|refine Ax (i:=j) Z Z Z (by omega) Z ?_|refine Ax (i:=j+1) Z Z (by omega) (by omega) Z ?_|refine Ax (i:=j+2) Z Z (by omega) (by omega) Z ?_|refine Aw Z Z (a g0) Z ?_|refine Aw Z Z (a g1) Z ?_|refine Aw Z Z (a g2) Z ?_|refine Bo Z Z (Gx b d _ _) Z ?_|refine Au Z ?_|apply Ad|apply Am|apply Ag|apply Aq|apply An|apply Bj|apply Af|refine Ay Z Z (by omega) Z ?_|refine Az Z Z (by first|omega|decide) ?_);refine Ap (j+3) ⟨rfl,by omega,by omega,k,h3,by omega⟩ (by omega) ⟨Z,Z,V⟩
    ·by_cases e2:c.toNat=237
     ·have:=p e2;(repeat first|refine Aa Z ?_|apply Ab|apply Ac|refine Ao Z (by first|omega|decide) ?_|refine Aj Z (by first|omega|decide) ?_|refine Ax (i:=j) Z Z Z (by omega) Z ?_|refine Ax (i:=j+1) Z Z (by omega) (by omega) Z ?_|refine Ax (i:=j+2) Z Z (by omega) (by omega) Z ?_|refine Aw Z Z (a g0) Z ?_|refine Aw Z Z (a g1) Z ?_|refine Aw Z Z (a g2) Z ?_|refine Bo Z Z (Gx b d _ _) Z ?_|refine Au Z ?_|apply Ad|apply Am|apply Ag|apply Aq|apply An|apply Bj|apply Af|refine Ay Z Z (by omega) Z ?_|refine Az Z Z (by first|omega|decide) ?_);refine Ap (j+3) ⟨rfl,by omega,by omega,k,h3,by omega⟩ (by omega) ⟨Z,Z,V⟩
     ·(repeat first|refine Aa Z ?_|apply Ab|apply Ac|refine Ao Z (by first|omega|decide) ?_|refine Aj Z (by first|omega|decide) ?_|refine Ax (i:=j) Z Z Z (by omega) Z ?_|refine Ax (i:=j+1) Z Z (by omega) (by omega) Z ?_|refine Ax (i:=j+2) Z Z (by omega) (by omega) Z ?_|refine Aw Z Z (a g0) Z ?_|refine Aw Z Z (a g1) Z ?_|refine Aw Z Z (a g2) Z ?_|refine Bo Z Z (Gx b d _ _) Z ?_|refine Bo Z Z (Gx g o _ _) Z ?_|refine Au Z ?_|apply Ad|apply Am|apply Ag|apply Aq|apply An|apply Bj|apply Af|refine Ay Z Z (by omega) Z ?_|refine Az Z Z (by first|omega|decide) ?_);refine Ap (j+3) ⟨rfl,by omega,by omega,k,h3,by omega⟩ (by omega) ⟨Z,Z,V⟩
   ·have g0:l[j]?=some c:=Kh he 0;have g1:l[j+1]?=some c1:=Kh he 1;have g2:l[j+2]?=some c2:=Kh he 2;have g3:l[j+3]?=some c3:=Kh he 3;by_cases e1:c.toNat=240
    ·have:=aa e1;(repeat first|refine Aa Z ?_|apply Ab|apply Ac|refine Ao Z (by first|omega|decide) ?_|refine Aj Z (by first|omega|decide) ?_|refine Ax (i:=j) Z Z Z (by omega) Z ?_|refine Ax (i:=j+1) Z Z (by omega) (by omega) Z ?_|refine Ax (i:=j+2) Z Z (by omega) (by omega) Z ?_|refine Ax (i:=j+3) Z Z (by omega) (by omega) Z ?_|refine Aw Z Z (a g0) Z ?_|refine Aw Z Z (a g1) Z ?_|refine Aw Z Z (a g2) Z ?_|refine Aw Z Z (a g3) Z ?_|refine Bo Z Z (Gx b d _ _) Z ?_|refine Bo Z Z (Gx f p _ _) Z ?_|refine Au Z ?_|apply Ad|apply Am|apply Ag|apply Aq|apply An|apply Bj|apply Af|refine Ay Z Z (by omega) Z ?_|refine Az Z Z (by first|omega|decide) ?_);refine Ap (j+4) ⟨rfl,by omega,by omega,k,h3,by omega⟩ (by omega) ⟨Z,Z,V⟩
    ·by_cases e2:c.toNat=244
     ·have:=u e2;(repeat first|refine Aa Z ?_|apply Ab|apply Ac|refine Ao Z (by first|omega|decide) ?_|refine Aj Z (by first|omega|decide) ?_|refine Ax (i:=j) Z Z Z (by omega) Z ?_|refine Ax (i:=j+1) Z Z (by omega) (by omega) Z ?_|refine Ax (i:=j+2) Z Z (by omega) (by omega) Z ?_|refine Ax (i:=j+3) Z Z (by omega) (by omega) Z ?_|refine Aw Z Z (a g0) Z ?_|refine Aw Z Z (a g1) Z ?_|refine Aw Z Z (a g2) Z ?_|refine Aw Z Z (a g3) Z ?_|refine Bo Z Z (Gx b d _ _) Z ?_|refine Bo Z Z (Gx f p _ _) Z ?_|refine Au Z ?_|apply Ad|apply Am|apply Ag|apply Aq|apply An|apply Bj|apply Af|refine Ay Z Z (by omega) Z ?_|refine Az Z Z (by first|omega|decide) ?_);refine Ap (j+4) ⟨rfl,by omega,by omega,k,h3,by omega⟩ (by omega) ⟨Z,Z,V⟩
     ·(repeat first|refine Aa Z ?_|apply Ab|apply Ac|refine Ao Z (by first|omega|decide) ?_|refine Aj Z (by first|omega|decide) ?_|refine Ax (i:=j) Z Z Z (by omega) Z ?_|refine Ax (i:=j+1) Z Z (by omega) (by omega) Z ?_|refine Ax (i:=j+2) Z Z (by omega) (by omega) Z ?_|refine Ax (i:=j+3) Z Z (by omega) (by omega) Z ?_|refine Aw Z Z (a g0) Z ?_|refine Aw Z Z (a g1) Z ?_|refine Aw Z Z (a g2) Z ?_|refine Aw Z Z (a g3) Z ?_|refine Bo Z Z (Gx b d _ _) Z ?_|refine Bo Z Z (Gx f p _ _) Z ?_|refine Bo Z Z (Gx g o _ _) Z ?_|refine Au Z ?_|apply Ad|apply Am|apply Ag|apply Aq|apply An|apply Bj|apply Af|refine Ay Z Z (by omega) Z ?_|refine Az Z Z (by first|omega|decide) ?_);refine Ap (j+4) ⟨rfl,by omega,by omega,k,h3,by omega⟩ (by omega) ⟨Z,Z,V⟩
 ·have:j=l.length:=(by omega);subst this;have x:l.drop l.length=[]:=(by simp);rw [x] at hk;have ah:k=0:=by
   cases hk with
   | stop=>rfl
   | step h1 h2 _=>simp [Ku] at h1;omega
  obtain⟨ad,rfl,hs⟩:=hv.ex;(repeat first|refine Aa Z ?_|apply Ab|apply Ac|refine Aj Z (by first|omega|decide) ?_|apply Ad|apply An|apply Cn|apply Ci|apply Ba|apply Ai);refine Ak Z Z ⟨?_,rfl⟩;have:l.length=i+m:=(by omega);rw [this];rfl
end
end
end Go.Proofs.YtaccphdkapmdhaaGreat
