/- The reference's reader takes nothing that the grammar does not. No condition. -/
import Derived.Test.YtaccphdkapmdhaaGreatR39
namespace Go.Proofs.YtaccphdkapmdhaaGreat
set_option maxRecDepth 100000
set_option maxHeartbeats 64000000
set_option linter.all false
section
attribute [local irreducible] binOp IntKind.wrap Sem.run
theorem bH (base:Nat):∀(l:Bs),Fc base l<=l.length
 | []=>Nat.le_refl _
 | c::l=>by
  rw [Fc];split
  ·have:=bH base l;simp only [Ya];omega
  ·exact Nat.zero_le _
theorem Qy {b:Bs} {p:Nat} {c:UInt8} (h:(b.drop p).head?=some c):pk b p=c:=by
 cases hd:b.drop p with
 | nil=>rw [hd] at h;cases h
 | cons x t=>
  rw [hd] at h;simp only [List.head?_cons,Yb] at h;have h5:b[p]?=some x:=by
   have:=congrArg (fun l=>l[0]?) hd;simpa using this
  simp [pk,List.getD,h5,h]
theorem Jl (pp:Nat) (b:Bs) (a st n base:Nat) (w:World) (hS:PB w pp b a st) (ha:a<=100000100) (hn:n<=100000000) (hb:b.length<=100000000) (j:base<=16) (d:0<base):
  Calls PP 114 #[pt pp,.int .i64 (n:Int),.int .i64 (base:Int)] w fun e w'=>∃g:Nat,e=.returned (.int .i64 (g:Int))/\Sm w w'/\(g≠0->Sd base (b.drop (a+n)) g/\a+n+g<=b.length):=by
 refine Bf (L:=[(0,pt pp),(1,.int .i64 (n:Int)),(2,.int .i64 (base:Int))]) Tryz.func114 Z Z Z ⟨Z,Z,Z,V⟩ ?_;repeat first|refine Aa Z ?_|apply Ab|apply Ac|apply Ag
 refine Bg (σ:=Nat) (I:=fun n1 w'=>Sm w w'/\n<=n1/\(n1=n∨a+n1<=b.length)/\(∀g,Sd base (b.drop (a+n1)) g->Sd base (b.drop (a+n)) (n1-n+g))) (m:=fun n1=>b.length+1-(a+n1)) (Lf:=fun n1=>[(0,pt pp),(1,.int .i64 (n1:Int)),(2,.int .i64 (base:Int)),(7,.int .i64 (n:Int))])
  n ⟨Sm.refl _,Nat.le_refl _,.inl rfl,fun g h=>by rw [Nat.sub_self,Yi];exact h⟩ ⟨Z,Z,Z,Z,V⟩ ?_
 rintro n1 w1 ⟨l,h1,h2,h3⟩;have o:=hS.sm l;repeat first|refine Aa Z ?_|apply Ac|apply Ag
 refine Ae Z Z Z (Ok pp b a st n1 base w1 o (by omega) (by omega) hb j d) ?_;rintro e w2 ⟨he,p⟩;obtain⟨k,hk⟩:∃k,Fc base (b.drop (a+n1))=k:=⟨_,rfl⟩;rw [hk] at he;subst he;refine T2 Z Z ?_;have f:=l.trans p;have q:=o.sm p;by_cases k0:k=0
 ·(repeat first|refine Aa Z ?_|apply Ab|apply Ac|refine Ao Z (by first|omega|decide) ?_|apply Ad|apply Bl|apply Bv|apply Ai);exact Ak Z Z ⟨0,rfl,f,fun h=>absurd rfl h⟩
 ·have u:a+n1+k<=b.length:=by
   have:=bH base (b.drop (a+n1));rw [Yh,hk] at this;omega
  (repeat first|refine Aa Z ?_|apply Ab|apply Ac|refine Aj Z (by first|omega|decide) ?_|apply Ad|apply An|apply Af|refine Ay Z Z (by omega) Z ?_);refine Ae Z Z Z (Cj pp b a st (n1+k) w2 q (by omega) (by omega) (by omega)) ?_;rintro e w3 ⟨he,r⟩;rw [show a+(n1+k)=a+n1+k by omega] at he;subst he;refine T2 Z Z ?_;have i:=f.trans r;by_cases c:pk b (a+n1+k)=95
  ·rw [c];have s:=Fd (b:=b) (a:=a+n1+k) (by rw [c];decide);(repeat first|refine Aa Z ?_|apply Ab|refine Aj Z (by first|omega|decide) ?_|apply Am|apply Aq|apply An|apply Bj|apply Af|refine Ay Z Z (by omega) Z ?_);refine Ap (n1+k+1) ⟨i,by omega,.inr (by omega),fun g hg=>?_⟩ (by omega) ⟨Z,Z,Z,Z,V⟩;have h4:=h3 (k+1+g) (Sd.more (b':=b.drop (a+(n1+k+1))) hk (by omega) (by rw [List.drop_drop,s.2,c,show a+(n1+k+1)=a+n1+k+1 by omega]) hg);rw [show n1+k+1-n+g=n1-n+(k+1+g) by omega];exact h4
  ·have t:¬(pk b (a+n1+k)).toNat=95:=fun h=>c (by
    have:UInt8.ofNat (pk b (a+n1+k)).toNat=UInt8.ofNat 95:=(by rw [h]);simpa using this)
   have h4:=h3 k (Sd.one hk (by omega) (by rw [List.drop_drop];exact fun h=>c (Qy h)));(repeat first|refine Aa Z ?_|apply Ab|apply Ac|refine Ao Z (by first|omega|decide) ?_|apply Bl|apply Bv|apply Ai|refine Fs Z Z (by omega) Z ?_);refine Ak Z Z ⟨n1-n+k,?_,i,fun _=>⟨h4,by omega⟩⟩;refine congrArg Ending.returned (congrArg (Value.int .i64) ?_);omega
theorem Hn (pp:Nat) (b:Bs) (a st n m:Nat) (w:World) (hS:PB w pp b a st) (ha:a<=200000000) (hn:n<=200000000) (hb:b.length<=100000000) (hm:m<=4):
  Calls PP 111 #[pt pp,.int .i64 (n:Int),.int .i64 (m:Int)] w fun e w'=>∃v:Int,e=.returned (.int .i64 v)/\Sm w w'/\v<=9999/\((v=-1/\¬Da b (a+n) m)∨(0<=v/\Da b (a+n) m)):=by
 refine Bf (L:=[(0,pt pp),(1,.int .i64 (n:Int)),(2,.int .i64 (m:Int))]) Tryz.func111 Z Z Z ⟨Z,Z,Z,V⟩ ?_;repeat first|refine Aa Z ?_|apply Ab|apply Ac|apply Ad|apply Ag
 refine Bg (σ:=Nat×Nat) (I:=fun s w'=>Sm w w'/\s.1<=m/\s.2<10^s.1/\Da b (a+n) s.1) (m:=fun s=>m-s.1) (Lf:=fun s=>[(0,pt pp),(1,.int .i64 (n:Int)),(7,.int .i64 (s.2:Int)),(10,.int .i64 (m:Int)),(11,.int .i64 (s.1:Int))])
  (0,0) ⟨Sm.refl _,Nat.zero_le _,by simp,fun i hi=>by omega⟩ ⟨Z,Z,Z,Z,Z,V⟩ ?_
 rintro⟨k,v⟩ w1 ⟨f,hk,hv,hd⟩;dsimp only at hk hv hd ⊢;have l:=hS.sm f;have r:10^k<=10^4:=Nat.pow_le_pow_right (by omega) (by omega);have t:v<10000:=by omega
 by_cases o:k<m
 ·(repeat first|refine Aa Z ?_|apply Ab|apply Ac|refine Ao Z (by first|omega|decide) ?_|apply Ad|apply Ag|apply An|apply Af|refine Ay Z Z (by omega) Z ?_);refine Ae Z Z Z (Cj pp b a st (n+k) w1 l (by omega) (by omega) (by omega)) ?_;rintro e w2 ⟨he,p⟩;rw [show a+(n+k)=a+n+k by omega] at he;subst he;refine T2 Z Z ?_;have d:=f.trans p;obtain⟨c,hc⟩:∃c,c=pk b (a+n+k):=⟨_,rfl⟩;rw [<-hc];by_cases r1:48<=c.toNat/\c.toNat<=57
  ·obtain⟨r1a,r1b⟩:=r1;(repeat first|refine Aa Z ?_|apply Ab|apply Ac|refine Aj Z (by first|omega|decide) ?_|refine iX Z Z (by omega) Z ?_|refine Oo Z Z (by omega) Z ?_|refine Au Z ?_|apply Ad|apply Am|apply Aq|apply An|apply Bj|apply Af|refine Ay Z Z (by omega) Z ?_|refine Az Z Z (by first|omega|decide) ?_|refine Ff Z Z (Ei (by omega)) Z ?_);rw [show (10:Int)*(v:Int)+((c.toNat:Int)-48)=((10*v+(c.toNat-48):Nat):Int) by omega];have u:10^(k+1)=10^k*10:=Nat.pow_succ _ _;refine Ap (k+1,10*v+(c.toNat-48)) ⟨d,by dsimp only;omega,by dsimp only;omega,fun i hi=>?_⟩ (by dsimp only;omega) ⟨Z,Z,Z,Z,Z,V⟩;dsimp only at hi;by_cases q:i<k
   ·exact hd i q
   ·have:i=k:=(by omega);subst this;rw [<-hc];simp only [Dj,decide_eq_true_eq];exact⟨r1a,r1b⟩
  ·have g:¬Da b (a+n) m:=fun h=>by
    have h1:=h k o;rw [<-hc] at h1;simp only [Dj,decide_eq_true_eq] at h1;exact r1 h1
   rcases (by omega:c.toNat<48∨57<c.toNat) with h|h
   ·(repeat first|refine Aa Z ?_|apply Ab|apply Ac|refine Bn Z (by first|with_reducible rfl|exact Bool.not_false) ?_|refine Au Z ?_|apply Ad|apply Bl|apply Bv|apply Ai|refine Bc Z Z (by first|omega|decide) ?_);exact Ak Z Z ⟨-1,rfl,d,by omega,.inl ⟨rfl,g⟩⟩
   ·(repeat first|refine Aa Z ?_|apply Ab|apply Ac|refine Ao Z (by first|omega|decide) ?_|refine Au Z ?_|apply Ad|apply Bl|apply Bv|apply Ai|refine Az Z Z (by first|omega|decide) ?_);exact Ak Z Z ⟨-1,rfl,d,by omega,.inl ⟨rfl,g⟩⟩
 ·have j:k=m:=(by omega);subst j;(repeat first|refine Aa Z ?_|apply Ab|apply Ac|refine Aj Z (by first|omega|decide) ?_|apply Ad|apply An|apply Cn|apply Ci|apply Ba|apply Ai);exact Ak Z Z ⟨v,rfl,f,by omega,.inr ⟨by omega,hd⟩⟩
theorem gV {c:UInt8} {k:Nat} (hk:k<256):c.toNat=k↔c=UInt8.ofNat k:=by
 constructor
 ·rintro rfl;simp
 ·rintro rfl;rw [UInt8.toNat_ofNat'];omega
theorem Wq (pp:Nat) (b:Bs) (a st n:Nat) (w:World) (hS:PB w pp b a st) (ha:a<=100000100) (hn:n<=100000100) (hb:b.length<=100000000):
  Calls PP 113 #[pt pp,.int .i64 (n:Int)] w fun e w'=>∃(g:Nat) (ok:Bool),e=.returned (.tuple #[.int .i64 (g:Int),.bool ok])/\Sm w w'/\g<=b.length+10/\(g≠0->cI b (a+n) g):=by
 refine Bf (L:=[(0,pt pp),(1,.int .i64 (n:Int))]) Tryz.func113 Z Z Z ⟨Z,Z,V⟩ ?_;repeat first|refine Aa Z ?_|apply Ab|apply Ac
 refine Ae Z Z Z (Hn pp b a st n 2 w hS (by omega) (by omega) hb (by omega)) ?_;rintro e w1 ⟨h,rfl,o,ak,hh⟩;refine T2 Z Z ?_;have p:=hS.sm o;repeat first|refine Aa Z ?_|refine Ay Z Z (by omega) Z ?_
 refine Ae Z Z Z (Hn pp b a st (n+3) 2 w1 p (by omega) (by omega) hb (by omega)) ?_;rintro e w2 ⟨m,rfl,r,al,hm⟩;refine T2 Z Z ?_;have t:=p.sm r;repeat first|refine Aa Z ?_|refine Ay Z Z (by omega) Z ?_
 refine Ae Z Z Z (Hn pp b a st (n+6) 2 w2 t (by omega) (by omega) hb (by omega)) ?_;rintro e w3 ⟨s,rfl,u,am,ae⟩;refine T2 Z Z ?_;have v:=t.sm u;have i:=(o.trans r).trans u;by_cases h0:h<0
 ·(repeat first|refine Aa Z ?_|apply Ab|apply Ac|refine Bn Z (by first|with_reducible rfl|exact Bool.not_false) ?_|refine Au Z ?_|apply Ad|apply Bl|apply Ai|refine Bc Z Z (by first|omega|decide) ?_);exact Ak Z Z ⟨0,false,rfl,i,by omega,fun h=>absurd rfl h⟩
 ·(have x:Da b (a+n) 2:=by rcases hh with ⟨q,_⟩|⟨_,q⟩<;>first|omega|exact q);(repeat first|refine Aa Z ?_|apply Ab|apply Ac|refine Au Z ?_|apply Ad|refine Ay Z Z (by omega) Z ?_|refine Az Z Z (by first|omega|decide) ?_);refine Ae Z Z Z (Cj pp b a st (n+2) w3 v (by omega) (by omega) (by omega)) ?_;rintro e w4 ⟨rfl,y⟩;refine T2 Z Z ?_;have c:=i.trans y;have z:=v.sm y;by_cases c1:(pk b (a+(n+2))).toNat=58
  ·by_cases m0:m<0
   ·(repeat first|refine Aa Z ?_|apply Ab|apply Ac|refine Bn Z (by first|with_reducible rfl|exact Bool.not_false) ?_|refine Au Z ?_|apply Bl|apply Ai|refine Bc Z Z (by first|omega|decide) ?_|refine Az Z Z (by first|omega|decide) ?_);exact Ak Z Z ⟨0,false,rfl,c,by omega,fun h=>absurd rfl h⟩
   ·(have af:Da b (a+(n+3)) 2:=by rcases hm with ⟨q,_⟩|⟨_,q⟩<;>first|omega|exact q);(repeat first|refine Aa Z ?_|refine Au Z ?_|refine Ay Z Z (by omega) Z ?_|refine Az Z Z (by first|omega|decide) ?_);refine Ae Z Z Z (Cj pp b a st (n+5) w4 z (by omega) (by omega) (by omega)) ?_;rintro e w5 ⟨rfl,aa⟩;refine T2 Z Z ?_;have d:=c.trans aa;have ab:=z.sm aa;by_cases c2:(pk b (a+(n+5))).toNat=58
    ·by_cases s0:s<0
     ·(repeat first|refine Aa Z ?_|apply Ab|apply Ac|refine Ao Z (by first|omega|decide) ?_|refine Au Z ?_|apply Bl|apply Ai|refine Az Z Z (by first|omega|decide) ?_);exact Ak Z Z ⟨0,false,rfl,d,by omega,fun h=>absurd rfl h⟩
     ·(have ag:Da b (a+(n+6)) 2:=by rcases ae with ⟨q,_⟩|⟨_,q⟩<;>first|omega|exact q);have e1:=(gV (by omega)).1 c1;have e2:=(gV (by omega)).1 c2;(repeat first|refine Aa Z ?_|apply Ab|apply Ac|refine Aj Z (by first|omega|decide) ?_|refine Au Z ?_|apply Ad|apply An|apply Af|refine Ay Z Z (by omega) Z ?_|refine Az Z Z (by first|omega|decide) ?_);refine Ae Z Z Z (Cj pp b a st (n+8) w5 ab (by omega) (by omega) (by omega)) ?_;rintro e w6 ⟨rfl,ac⟩;refine T2 Z Z ?_;have j:=d.trans ac;have ah:=ab.sm ac;have d1:pk b (a+n+2)=58:=e1;have d2:pk b (a+n+5)=58:=e2;have d3:Da b (a+n+3) 2:=af;have d4:Da b (a+n+6) 2:=ag;by_cases ad:(pk b (a+(n+8))).toNat=46
      ·have d5:pk b (a+n+8)=46:=(gV (k:=46) (by omega)).1 ad;(repeat first|refine Aa Z ?_|apply Ab|apply Ac|refine Ao Z (by first|omega|decide) ?_|refine Ay Z Z (by omega) Z ?_);refine Ae Z Z Z (Ok pp b a st (n+9) 10 w6 ah (by omega) (by omega) hb (by omega) (by omega)) ?_;rintro e w7 ⟨he,ai⟩;obtain⟨f,hf⟩:∃f,Fc 10 (b.drop (a+(n+9)))=f:=⟨_,rfl⟩;have aj:=bH 10 (b.drop (a+(n+9)));rw [Yh,hf] at aj;rw [hf] at he;subst he;refine T2 Z Z ?_;have l:=j.trans ai;by_cases f0:f=0
       ·(repeat first|refine Aa Z ?_|apply Ab|apply Ac|refine Ao Z (by first|omega|decide) ?_|apply Ad|apply Bl|apply Ai);exact Ak Z Z ⟨0,false,rfl,l,by omega,fun h=>absurd rfl h⟩
       ·have hc:cI b (a+n) (9+f):=cI.frac f x d1 d3 d2 d4 d5 hf (by omega);by_cases q1:h<24<;>by_cases q2:m<60<;>by_cases q3:s<60;(all_goals repeat first|refine Aa Z ?_|apply Ab|apply Ac|refine Aj Z (by first|omega|decide) ?_|refine Au Z ?_|apply Ad|apply Am|apply An|apply Af|apply Ai|refine Ay Z Z (by omega) Z ?_|refine Bc Z Z (by first|omega|decide) ?_|refine Az Z Z (by first|omega|decide) ?_);all_goals exact Ak Z Z ⟨9+f,_,rfl,l,by omega,fun _=>hc⟩
      ·have hc:cI b (a+n) 8:=cI.plain x d1 d3 d2 d4 (fun h=>ad (by rw [show pk b (a+(n+8))=46 from h];rfl));by_cases q1:h<24<;>by_cases q2:m<60<;>by_cases q3:s<60;(all_goals repeat first|refine Aa Z ?_|apply Ab|apply Ac|refine Aj Z (by first|omega|decide) ?_|refine Au Z ?_|apply An|apply Af|apply Ai|refine Bc Z Z (by first|omega|decide) ?_|refine Az Z Z (by first|omega|decide) ?_);all_goals exact Ak Z Z ⟨8,_,rfl,j,by omega,fun _=>hc⟩
    ·(repeat first|refine Aa Z ?_|apply Ab|apply Ac|refine Bn Z (by first|with_reducible rfl|exact Bool.not_false) ?_|refine Au Z ?_|apply Bl|apply Ai|refine Bc Z Z (by first|omega|decide) ?_);exact Ak Z Z ⟨0,false,rfl,d,by omega,fun h=>absurd rfl h⟩
  ·(repeat first|refine Aa Z ?_|apply Ab|apply Ac|refine Bn Z (by first|with_reducible rfl|exact Bool.not_false) ?_|refine Au Z ?_|apply Bl|apply Ai|refine Bc Z Z (by first|omega|decide) ?_);exact Ak Z Z ⟨0,false,rfl,c,by omega,fun h=>absurd rfl h⟩
theorem fK (y m:Nat) (w:World):Calls PP 127 #[.int .i64 (y:Int),.int .i64 (m:Int)] w fun e w'=>∃v:Nat,e=.returned (.int .i64 (v:Int))/\v<=31/\w'=w:=by
 refine Bf (L:=[(0,.int .i64 (y:Int)),(1,.int .i64 (m:Int))]) Tryz.func127 Z Z Z ⟨Z,Z,V⟩ ?_;by_cases h2:m=2
 ·subst h2;by_cases h4:y%4=0
  ·by_cases b:y%100=0
   ·by_cases c:y%400=0
    ·(repeat first|refine Aa Z ?_|apply Ab|apply Ac|refine Ao Z (by first|omega|decide) ?_|refine Bo Z Z (Ip .i64 y 4 (by omega) _ _) Z ?_|refine Bo Z Z (Ip .i64 y 100 (by omega) _ _) Z ?_|refine Bo Z Z (Ip .i64 y 400 (by omega) _ _) Z ?_|refine Au Z ?_|apply Ad|apply Ag|apply Bl|apply Bv|apply Ai|refine Bc Z Z (by first|omega|decide) ?_|refine Az Z Z (by first|omega|decide) ?_);exact Ak Z Z ⟨29,rfl,by omega,rfl⟩
    ·(repeat first|refine Aa Z ?_|apply Ab|apply Ac|refine Ao Z (by first|omega|decide) ?_|refine Aj Z (by first|omega|decide) ?_|refine Bo Z Z (Ip .i64 y 4 (by omega) _ _) Z ?_|refine Bo Z Z (Ip .i64 y 100 (by omega) _ _) Z ?_|refine Bo Z Z (Ip .i64 y 400 (by omega) _ _) Z ?_|refine Au Z ?_|apply Ad|apply Ag|apply Bl|apply Bv|apply Ai|refine Bc Z Z (by first|omega|decide) ?_|refine Az Z Z (by first|omega|decide) ?_);exact Ak Z Z ⟨28,rfl,by omega,rfl⟩
   ·(repeat first|refine Aa Z ?_|apply Ab|apply Ac|refine Bn Z (by first|with_reducible rfl|exact Bool.not_false) ?_|refine Bo Z Z (Ip .i64 y 4 (by omega) _ _) Z ?_|refine Bo Z Z (Ip .i64 y 100 (by omega) _ _) Z ?_|refine Au Z ?_|apply Ad|apply Ag|apply Bl|apply Bv|apply Ai|refine Bc Z Z (by first|omega|decide) ?_);exact Ak Z Z ⟨29,rfl,by omega,rfl⟩
  ·(repeat first|refine Aa Z ?_|apply Ab|apply Ac|refine Bb Z (by first|with_reducible rfl|exact Bool.not_true) ?_|refine Ao Z (by first|omega|decide) ?_|refine Bo Z Z (Ip .i64 y 4 (by omega) _ _) Z ?_|refine Au Z ?_|apply Ad|apply Ag|apply Bl|apply Bv|apply Ai|refine Bc Z Z (by first|omega|decide) ?_|refine Az Z Z (by first|omega|decide) ?_);exact Ak Z Z ⟨28,rfl,by omega,rfl⟩
 ·by_cases a:m=4∨m=6∨m=9∨m=11
  ·rcases a with rfl|rfl|rfl|rfl;(all_goals repeat first|refine Aa Z ?_|apply Ab|apply Ac|refine Bn Z (by first|with_reducible rfl|exact Bool.not_false) ?_|refine Bb Z (by first|with_reducible rfl|exact Bool.not_true) ?_|refine Ao Z (by first|omega|decide) ?_|refine Aj Z (by first|omega|decide) ?_|refine Au Z ?_|apply Ad|apply Ag|apply Bl|apply Bv|apply Ai|refine Bc Z Z (by first|omega|decide) ?_|refine Az Z Z (by first|omega|decide) ?_);all_goals exact Ak Z Z ⟨30,rfl,by omega,rfl⟩
  ·(repeat first|refine Aa Z ?_|apply Ab|apply Ac|refine Bb Z (by first|with_reducible rfl|exact Bool.not_true) ?_|refine Aj Z (by first|omega|decide) ?_|refine Au Z ?_|apply Ad|apply Ag|apply An|apply Bj|apply Af|apply Ai|refine Az Z Z (by first|omega|decide) ?_);exact Ak Z Z ⟨31,rfl,by omega,rfl⟩
end
end Go.Proofs.YtaccphdkapmdhaaGreat
