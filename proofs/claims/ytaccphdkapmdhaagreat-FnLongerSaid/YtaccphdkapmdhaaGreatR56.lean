/- The walk of FnLonger: it answers true. No condition. -/
import Derived.Test.YtaccphdkapmdhaaGreatR32
import Derived.Test.YtaccphdkapmdhaaGreatR52
namespace Go.Proofs.YtaccphdkapmdhaaGreat
set_option maxRecDepth 100000
set_option maxHeartbeats 64000000
set_option linter.all false
section
attribute [local irreducible] binOp IntKind.wrap Sem.run
theorem fN {s:Bs} (hs:s.length<=20):∀ks:List Bs,Me (Nq s ks)<=23*Me ks
 | []=>Nat.zero_le _
 | k::ks=>by
  have h:=fN hs ks;have e:Nq s (k::ks)=(k++s)::Nq s ks:=rfl;rw [e];simp only [Me,kK,Ye] at h ⊢;omega
mutual
theorem mY {s:Bs} (hs:s.length<=20):∀v:Bz,kV (Ow s v)<=23*kV v
 | .sc _ _=>by simp only [Ow,kV];omega
 | .arr vs=>by
  have:=kVs_lg hs vs;simp only [Ow,kV];omega
 | .tbl es=>by
  have:=kVE_lg hs es;simp only [Ow,kV];omega
theorem kVs_lg {s:Bs} (hs:s.length<=20):∀vs:List Bz,Sc (Pj s vs)<=23*Sc vs
 | []=>by simp only [Pj,Sc];omega
 | v::vs=>by
  have h1:=mY hs v;have h2:=kVs_lg hs vs;simp only [Pj,Sc];omega
theorem kVE_lg {s:Bs} (hs:s.length<=20):∀es:List (List Bs×Bz),Oc (Pk s es)<=23*Oc es
 | []=>by simp only [Pk,Oc];omega
 | (ks,v)::es=>by
  have h0:=fN hs ks;have h1:=mY hs v;have h2:=kVE_lg hs es;simp only [Pk,Oc];omega
end
mutual
theorem gC (s:Bs):∀v:Bz,Ux (Ow s v)=Ux v
 | .sc _ _=>by simp only [Ow]
 | .arr vs=>by simp only [Ow,Ux,deps_lg s vs]
 | .tbl es=>by simp only [Ow,Ux,depE_lg s es]
theorem deps_lg (s:Bs):∀vs:List Bz,Pl (Pj s vs)=Pl vs
 | []=>by simp only [Pj]
 | v::vs=>by simp only [Pj,Pl,gC s v,deps_lg s vs]
theorem depE_lg (s:Bs):∀es:List (List Bs×Bz),Pm (Pk s es)=Pm es
 | []=>by simp only [Pk]
 | (ks,v)::es=>by simp only [Pk,Pm,gC s v,depE_lg s es]
end
theorem mT {s:Bs} (hs:Vb s) {ks:List Bs} (h:∀k∈ks,Vb k):∀k∈Nq s ks,Vb k:=fun k hk=>by
 obtain⟨k0,h0,rfl⟩:=List.mem_map.1 hk;intro c hc;rcases List.mem_append.1 hc with hc|hc
 ·exact h k0 h0 c hc
 ·exact hs c hc
theorem ne_lg (s:Bs) {ks:List Bs} (h:ks≠[]):Nq s ks≠[]:=by
 cases ks with
 | nil=>exact absurd rfl h
 | cons k ks=>simp [Nq]
mutual
theorem gP {s:Bs} (hs:Vb s):∀v:Bz,Zs v->Zs (Ow s v)
 | .sc _ _,h=>by simpa only [Ow] using h
 | .arr vs,h=>by
  simp only [Ow,Zs] at h ⊢;exact Ok7s_lg hs vs h
 | .tbl es,h=>by
  simp only [Ow,Zs] at h ⊢;exact Ok7E_lg hs es h
theorem Ok7s_lg {s:Bs} (hs:Vb s):∀vs:List Bz,Ui vs->Ui (Pj s vs)
 | [],_=>by simp only [Pj,Ui]
 | v::vs,h=>by
  simp only [Pj,Ui] at h ⊢;exact⟨gP hs v h.1,Ok7s_lg hs vs h.2⟩
theorem Ok7E_lg {s:Bs} (hs:Vb s):∀es:List (List Bs×Bz),Uj es->Uj (Pk s es)
 | [],_=>by simp only [Pk,Uj]
 | (ks,v)::es,h=>by
  simp only [Pk,Uj] at h ⊢;exact⟨⟨ne_lg s h.1.1,mT hs h.1.2⟩,gP hs v h.2.1,Ok7E_lg hs es h.2.2⟩
end
theorem OkX_lg {s:Bs} (hs:Vb s) {x:Ex} (h:OkX x):OkX (Xo s x):=by
 obtain⟨h1,h2,h3,h4⟩:=h;refine⟨by rw [Oz];exact ne_lg s h1,by rw [Oz];exact mT hs h2,by rw [bB,gC];exact h3,fun h=>?_⟩;rw [bC] at h;rw [bB];exact gP hs _ (h4 h)
theorem kX_lg {s:Bs} (hs:s.length<=20) (x:Ex):kX (Xo s x)<=23*kX x:=by
 have h0:=fN hs (Cz x);have h1:=mY hs (Nr x);simp only [kX,Oz,bB];omega
theorem aV (v0:Value) (l:List Nat) (n:Nat) (w:World) (h0:US w v0 l) (hl:∀n∈l,n<UU) (hn:n<256):
  Calls PP 7 #[v0,.int .u8 (n:Int)] w fun e w'=>e=.returned (.bool true)/\Up w.heap.size w w':=by
 have g0:=h0;obtain⟨ad0,cap0,rfl⟩:=h0.sl;refine Bf (L:=[(0,.slice ad0 l.length cap0),(1,.int .u8 (n:Int))]) Tryz.func7 Z Z Z ⟨Z,Z,V⟩ ?_;by_cases a1:2147483647<l.length
 ·(repeat first|refine Aa Z ?_|apply Ab|apply Ac|refine Ao Z (by first|omega|decide) ?_|apply Ad|apply Bl|apply Ai);exact Ak Z Z ⟨rfl,Up.refl _ _⟩
 by_cases b1:100<l.length
 ·(repeat first|refine Aa Z ?_|apply Ab|apply Ac|refine Ao Z (by first|omega|decide) ?_|refine Aj Z (by first|omega|decide) ?_|apply Ad|apply An|apply Bl|apply Af|apply Ai);exact Ak Z Z ⟨rfl,Up.refl _ _⟩
 have hr:n%21<21:=Nat.mod_lt _ (by omega);repeat first|refine Aa Z ?_|apply Ab|apply Ac|refine Aj Z (by first|omega|decide) ?_|apply Ad|apply An|apply Af
 refine Ae Z Z Z (Lw _ l w g0 hl) ?_;rintro e w1 ⟨lv,xs,rfl,ah,ai,bj⟩;refine T2 Z Z ?_;have aj:=Rx.own ah ai;have a:=(Mz l).1;have ak:=(Mz l).2;clear ah ai;generalize Gb l=es at *;repeat first|refine Aa Z ?_|apply Ab|apply Ac|apply Ad
 refine Bo Z Z (Ip .u8 n 21 (by omega) _ _) Z ?_;repeat first|refine Va (x:=.block 0 _) (σ:=Unit) (fun _ w'=>w'=w1) (fun _=>[(5,lv),(6,Bm (List.replicate (n%21) 120))]) ?_ ?_|refine Aa Z ?_|apply Ab|apply Ag
 ·skip;refine Bg (σ:=Nat) (I:=fun j w'=>w'=w1/\j<=n%21) (m:=fun j=>n%21-j) (Lf:=fun j=>[(5,lv),(6,Bm (List.replicate j 120)),(18,.int .u8 ((n%21:Nat):Int)),(19,.int .u8 (j:Int))])
   0 ⟨rfl,Nat.zero_le _⟩ ⟨Z,Z,Z,Z,V⟩ ?_
  rintro j w2 ⟨rfl,hj⟩;by_cases bv:j<n%21
  ·(repeat first|refine Aa Z ?_|apply Ab|apply Ac|refine Ao Z (by first|omega|decide) ?_|apply Ad|apply Am|apply Ag|apply An|apply Af);refine Bo Z Z (Bt (List.replicate j 120) [120] (by simp only [List.length_replicate,List.length_singleton];omega) _ _) Z ?_;(repeat first|refine Aa Z ?_|refine iY Z Z (Ls (by simp only [Te];omega)) Z ?_|apply Am|apply Aq|apply An|apply Bj);refine Ap (j+1) ⟨rfl,by omega⟩ (by omega) ⟨rfl,by rw [<-List.replicate_succ'];rfl,rfl,rfl,trivial⟩
  ·have bk:j=n%21:=(by omega);subst bk;(repeat first|refine Aa Z ?_|apply Ab|apply Ac|refine Aj Z (by first|omega|decide) ?_|apply Ad|apply Cn|apply Ci|apply Ba);exact Bh () Z ⟨Z,Z,V⟩
 rintro _ w2 rfl;have q:(List.replicate (n%21) (120:UInt8)).length<=20:=by rw [List.length_replicate];omega
 have r:Vb (List.replicate (n%21) (120:UInt8)):=fun c hc=>by
  rw [(List.mem_replicate.1 hc).2];decide
 generalize List.replicate (n%21) (120:UInt8)=s at *;have i:∀w':World,RF w'.heap.size w' (.slice none 0 0) []:=fun w'=>⟨none,0,rfl,fun h=>absurd rfl h⟩;have bl:Ss es<=1000000:=by
  have h1:=aM 2000 es (fun x hx=>(a x hx).2);have h2:es.length*2000<=16*2000:=Nat.mul_le_mul_right _ ak;omega
 have bm:Ss (es.map (Xo s))<=1000000:=by
  have h1:=aM 46000 (es.map (Xo s)) (fun x hx=>by
   obtain⟨y,hy,rfl⟩:=List.mem_map.1 hx;have:=kX_lg q y;have:=(a y hy).2;omega)
  rw [List.length_map] at h1;have h2:es.length*46000<=16*46000:=Nat.mul_le_mul_right _ ak;omega
 repeat first|refine Aa Z ?_|apply Ac
 refine Ae Z Z Z (Qs _ _ _ _ [] w2 aj (i w2) (fun x hx=>(a x hx).1) bl (by simp)) ?_;rintro e w3 ⟨v3,rfl,al,bn⟩;refine T2 Z Z ?_;have am:=bj.after al Y;repeat (refine Aa Z ?_)
 refine Ae Z Z Z (dC s (by omega) _ lv es w3 (aj.up al) (fun x hx=>by have:=(a x hx).2;omega) (by omega)) ?_;rintro e w4 ⟨lv4,rfl,bo,an⟩;refine T2 Z Z ?_;have ao:=am.after an Y;skip;refine Ae Z Z Z (Qs _ _ _ _ [] w4 bo (i w4) (fun x hx=>by
  obtain⟨y,hy,rfl⟩:=List.mem_map.1 hx;exact OkX_lg r (a y hy).1) bm (by simp)) ?_
 rintro e w5 ⟨v5,rfl,ap,bp⟩;refine T2 Z Z ?_;have aq:=ao.after ap Y;have ar:=(bn.up an).up ap;have bu:=Vw (Et es);have t:=Tr (Et es);have b:((Et es).isNone==(Et es).isNone)=true:=by cases (Et es).isNone<;>rfl
 have u:((Et es).isNone==dc (Fo (Et es)=-1))=true:=by
  rw [<-t];exact b
 have au:=mN s es;repeat first|refine Aa Z ?_|apply Ab|apply Ac
 refine Ae Z Z Z ar.look ?_;rintro e w6 ⟨rfl,v⟩;refine T2 Z Z ?_;have bq:=ar.up v;have av:=bp.up v;have aw:=aq.after v Y;repeat first|refine Aa Z ?_|refine Au Z ?_
 refine Ae Z Z Z av.look ?_;rintro e w7 ⟨rfl,z⟩;refine T2 Z Z ?_;have ax:=bq.up z;have br:=av.up z;have ay:=aw.after z Y;repeat first|refine Aa Z ?_|refine Au Z ?_
 refine Ae Z Z Z ax.means ?_;rintro e w8 ⟨rfl,aa⟩;refine T2 Z Z ?_;have bs:=ax.up aa;have az:=br.up aa;have ba:=ay.after aa Y;repeat (refine Au Z ?_)
 refine Ae Z Z Z az.means ?_;rintro e w9 ⟨rfl,ab⟩;refine T2 Z Z ?_;rw [au];have bb:=bs.up ab;have bt:=az.up ab;have bc:=ba.after ab Y;repeat first|refine Aa Z ?_|refine Au Z ?_|refine Bc Z Z (by first|omega|decide) ?_
 refine Ae Z Z Z bb.means ?_;rintro e bw ⟨rfl,d⟩;refine T2 Z Z ?_;have k:=bb.up d;have bd:=bt.up d;have ac:=bc.after d Y;repeat first|refine Aa Z ?_|refine Au Z ?_|refine Bc Z Z (by first|omega|decide) ?_
 refine Ae Z Z Z k.check ?_;rintro e bx ⟨rfl,f⟩;refine T2 Z Z ?_;have o:=k.up f;have be:=bd.up f;have ad:=ac.after f Y;repeat (refine Au Z ?_)
 refine Ae Z Z Z o.means ?_;rintro e bz ⟨rfl,g⟩;refine T2 Z Z ?_;have bf:=o.up g;have bg:=be.up g;have ae:=ad.after g Y;repeat (refine Au Z ?_)
 refine eS Z Z u Z ?_;repeat first|refine Aa Z ?_|refine Au Z ?_
 refine Ae Z Z Z bg.check ?_;rintro e ca ⟨rfl,p⟩;refine T2 Z Z ?_;rw [au];have bh:=bf.up p;have af:=ae.after p Y;repeat (refine Au Z ?_)
 refine Ae Z Z Z bh.check ?_;rintro e cb ⟨rfl,bi⟩;refine T2 Z Z ?_;have ag:=af.after bi Y;skip;refine eS Z Z b Z ?_;repeat first|refine Aa Z ?_|apply Ab|refine Au Z ?_|apply Ai
 exact Ak Z Z ⟨rfl,ag⟩
end
end Go.Proofs.YtaccphdkapmdhaaGreat
