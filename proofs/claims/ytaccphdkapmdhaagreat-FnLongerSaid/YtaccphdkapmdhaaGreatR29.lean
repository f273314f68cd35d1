/- The writer writes texts that read as what it was told. No condition. -/
import Derived.Test.YtaccphdkapmdhaaGreatR28
namespace Go.Proofs.YtaccphdkapmdhaaGreat
set_option maxRecDepth 100000
set_option maxHeartbeats 64000000
set_option linter.all false
section
section
attribute [local semireducible] WL WC X WD WX
variable {all:List Oper} {Q:Exit->Act->World->Prop} {N:Nat} {L L':Env} {o:Oper} {w:World} {S:World->Prop} {fuel:Nat} {listed:Array Bool}
theorem Gq {bop:BinOp} {t:Nat} {x y v:Value} (i:Nat) (hi:all[i]?=some o) (hs:Kp all listed i=true) (hQ:Jt Q) (hS:S w) (hg:Ez all L o=some true) (h:boA L o.op=some (bop,t,x,y)) (hr:∀w,(binOp bop t x y).run PP w=.ok v w)
  (hd:Cu N o v L=some L') (k:WD all Q N S fuel (listed.setIfInBounds i true) L' w):WD all Q N S (fuel+1) listed L w:=
 Kw i hi hs hQ hS hg (fun w' _ a hf=>La hf h (hr w')) hd k
theorem eT {n b ofs:Nat} {cs:List Value} (i:Nat) (hi:all[i]?=some o) (hs:Kp all listed i=true) (hQ:Jt Q) (hS:S w) (hg:Ez all L o=some true) (h:lgA L o.op=some (n,⟨b,ofs,none⟩)) (hn:cs.length=n)
  (hc:∀w',S w'->∀j v,cs[j]?=some v->w'.cell? ⟨b,ofs+j,none⟩=some v) (hd:Cu N o (.agg cs.toArray) L=some L') (k:WD all Q N S fuel (listed.setIfInBounds i true) L' w):WD all Q N S (fuel+1) listed L w:=
 Kw i hi hs hQ hS hg (fun w' a _ hf=>Un hf h hn (hc w' a)) hd k
end
attribute [local irreducible] binOp IntKind.wrap Sem.run
def WrV (v:Bz):Prop:=∀(sp:Nat) (code:Bs) (i:Nat) (P:Nat->Prop) (a b c d:Value) (w:World),SB w sp code i->Nd w P v a b c->Bp d=true->Zs v->Gg code i+kV v<=900000000->
 Calls PP 29 #[.pointer (F sp),.agg ⟨[a,b,c,d]⟩] w (Wro sp code i (kV v) (VS v) w)
theorem wrSc (kind:Nat) (text:Bs):WrV (.sc kind text):=by
 intro sp code i P a b c d w hS hn hd e hi;simp only [Nd] at hn;obtain⟨rfl,rfl,ad,cap,rfl⟩:=hn;simp only [Zs] at e;obtain⟨rfl,rfl⟩:=e;have f:=hS.lt;refine Bf (L:=[(0,.pointer (F sp)),(1,.agg ⟨[.int .i64 1,Bm [55],.slice ad 0 cap,d]⟩)]) Tryz.func29 Z Z Z ⟨Z,Z,V⟩ ?_;repeat (apply Ac)
 refine Gl Z Z Z (fun w1 hA=>?_);have h1:w1.heap[w.heap.size]?=some (.cells ⟨[.int .i64 1,Bm [55],.slice ad 0 cap,d]⟩ 37 (0,0)):=hA.at_;repeat first|refine Aa Z ?_|apply Ab|apply Ac|refine Aj Z (by first|omega|decide) ?_|refine Av (b:=w.heap.size) (i:=0) Z Z h1 Z Z ?_|apply Ad|apply Ag|apply An|apply Bj|apply Af
 refine Av (b:=w.heap.size) (i:=1) Z Z h1 Z Z ?_;repeat first|refine Aa Z ?_|apply Ab|apply Ai
 exact Ak Z Z ⟨[55],i,rfl,VS.seven,hS.fm (hA.fm (B:=0) (T:=[]) O) (by simp) (by simp),hA.fm (by omega),by simp [kV];omega⟩
theorem wrArr (vs:List Bz) (bb:∀v∈vs,WrV v):WrV (.arr vs):=by
 intro sp code i P a b c d w hS hn hd ak hi;simp only [Nd] at hn;obtain⟨rfl,rfl,ad,cap,rfl,al⟩:=hn;simp only [Zs] at ak;simp only [kV] at hi;have bv:=iB vs;have bw:=hS.lt;refine Bf (L:=[(0,.pointer (F sp)),(1,.agg ⟨[.int .i64 8,Bm [],.slice ad vs.length cap,d]⟩)]) Tryz.func29 Z Z Z ⟨Z,Z,V⟩ ?_;repeat (apply Ac)
 refine Gl Z Z Z (fun w1 hA=>?_);have am:Fm sp [68] w w1:=hA.fm (by omega);have h1:w1.heap[w.heap.size]?=some (.cells ⟨[.int .i64 8,Bm [],.slice ad vs.length cap,d]⟩ 37 (0,0)):=hA.at_;have an:=hS.fm (hA.fm (B:=0) (T:=[]) O) (by simp) (by simp);generalize bc:w.heap.size=nb at *;have ao:w1.heap.size=nb+1:=by rw [hA.size,bc]
 clear hA;repeat first|refine Aa Z ?_|apply Ab|apply Ac|refine Ao Z (by first|omega|decide) ?_|refine Aj Z (by first|omega|decide) ?_|refine Av (b:=nb) (i:=0) Z Z h1 Z Z ?_|apply Ad|apply Ag
 refine Av (b:=nb) (i:=2) Z Z h1 Z Z ?_;repeat first|refine Aa Z ?_|apply Ab|apply Ag
 refine Bg (σ:=Nat×Bs×Nat) (I:=fun s w'=>Sb (vs.take s.1) s.2.1/\SB w' sp code s.2.2/\Fm sp [68] w w'/\w'.heap[nb]?=some (.cells ⟨[.int .i64 8,Bm [],.slice ad vs.length cap,d]⟩ 37 (0,0))/\s.1<=vs.length/\s.2.1.length+Gg code s.2.2<=Gg code i+Sc (vs.take s.1)/\(s.1=0->s.2.1=[]))
  (m:=fun s=>vs.length-s.1) (Lf:=fun s=>[(0,.pointer (F sp)),(3,.pointer (F nb)),(5,Bm (91::s.2.1)),(22,.slice ad vs.length cap),(23,.int .i64 (vs.length:Int)),(24,.int .i64 (s.1:Int))])
  (0,[],i) ⟨Sb.nil,an,am,h1,Nat.zero_le _,by simp [Sc],fun _=>rfl⟩ ⟨Z,Z,Z,Z,Z,Z,V⟩ ?_
 clear an am h1 ao hS;rintro⟨m,out,j⟩ w2 ⟨hD,hS,hF,p,hm,hp,hz⟩;dsimp only at hD hS hm hp hz ⊢;have bx:=Gg.ge code j;have bs:=hF.size;have bz:Sc (vs.take m)<=Sc vs:=by
  have:=Uq (vs.take m) (vs.drop m);rw [List.take_append_drop] at this;omega
 by_cases af:m<vs.length
 ·obtain⟨v,hv⟩:∃v,vs[m]?=some v:=⟨_,Yd af⟩;have ap:=List.mem_of_getElem? hv;have f:vs.take (m+1)=vs.take m++[v]:=(by rw [List.take_add_one,hv];rfl);have bd:Sc (vs.take (m+1))=Sc (vs.take m)+(43+kV v):=(by rw [f,Uq];simp [Sc]);have bt:Sc (vs.take (m+1))<=Sc vs:=by
   have:=Uq (vs.take (m+1)) (vs.drop (m+1));rw [List.take_append_drop] at this;omega
  have ag:vs≠[]:=(by rintro rfl;simp at af);obtain⟨g,cur,hP,aq,hg,be⟩:=al ag;obtain⟨a',b',c',d',y,ar,hR⟩:=be.get hv;obtain⟨o1,o2,o3,_⟩:=ar.one;have o4:=hR.one;have z:=hF.keep _ _ hg (by simp [Ce]);have au:∀(j:Nat) (x:Value),[a',b',c',d'][j]?=some x->w2.cell? ⟨g,m*4+j,none⟩=some x:=fun j x hx=>Ar z (by rw [List.getElem?_toArray];exact y j x hx);rw [aq];(repeat first|refine Aa Z ?_|apply Ab|apply Ac|refine Ao Z (by first|omega|decide) ?_|refine Ax (i:=m) Z Z Z af (by rw [Yi];rfl) ?_|refine Jv (cs:=[a',b',c',d']) Z Z Z au Z ?_|apply Ad|apply Ag|apply An|apply Af);refine Dk Z Z Z (fun w3 aa=>?_);(repeat (refine Aa Z ?_));refine Bx Z Z Z (by simp [o1,o2,o3,o4]) aa.at_ (by simp) Z (fun w4 n=>?_);have ab:Fm sp [68] w w4:=(hF.trans (aa.fm (by omega))).stN n (by omega) (by omega);have q:Fm 0 [] w2 w4:=(aa.fm (B:=0) (T:=[]) O).stN n Y O;have bf:w4.heap[w2.heap.size]?=some (.cells ⟨[a',b',c',d']⟩ 37 (0,0)):=(by simpa using n.at_);have av:=hS.fm q (by simp) (by simp);have ac:=q.keep _ _ p (by simp);have aw:=Nd.keep (Ef.fm (P:=P) ab (by simp) (by simp)) _ _ _ _ ar;generalize bu:w2.heap.size=nb2 at *;clear aa n q hS au z;repeat first|refine Aa Z ?_|apply Ab|apply Ac|refine Cr (x:=.seq _ (.cond _ _ _)) (σ:=Bs) (fun o w'=>w'=w4/\(∀g1 s g2,Xh g1->VS v s->Xh g2->Sb (vs.take (m+1)) (o++(g1++s++g2)))/\o.length<=out.length+1) (fun o=>[(0,.pointer (F sp)),(3,.pointer (F nb)),(5,Bm (91::o)),(7,.pointer (F nb2)),(22,.slice (F g) vs.length cap),(23,.int .i64 (vs.length:Int)),(24,.int .i64 (m:Int))]) ?_ ?_
  ·by_cases bg:m=0
   ·subst bg;have e0:vs.take 1=[v]:=(by rw [f];rfl);have ax:=hz rfl;subst ax;(repeat first|refine Aj Z (by first|omega|decide) ?_|apply Af);refine Bh [] ⟨rfl,fun g1 s g2 h1 h2 h3=>?_,by simp⟩ ⟨Z,Z,Z,Z,Z,Z,Z,V⟩;rw [e0];exact Sb.first h1 h2 h3
   ·have ay:vs.take m≠[]:=by
     intro h;have:=congrArg List.length h;rw [List.length_take,List.length_nil] at this;omega
    (repeat first|refine Aa Z ?_|refine Ao Z (by first|omega|decide) ?_|refine Bo Z Z (Bt (91::out) [44] (by simp;omega) _ _) Z ?_|apply Am|apply Aq);refine Bh (out++[44]) ⟨rfl,fun g1 s g2 h1 h2 h3=>?_,by simp⟩ ⟨Z,Z,Z,Z,Z,Z,Z,V⟩;rw [f];exact hD.more ay h1 h2 h3
  ·rintro o w5 ⟨rfl,az,ca⟩;skip;refine Hi (fun w'=>w'.heap[nb2]?=some (.cells ⟨[a',b',c',d']⟩ 37 (0,0))) ?_;have k:w5.drew.heap[nb2]?=some (.cells ⟨[a',b',c',d']⟩ 37 (0,0)):=bf;refine Bw 0 Z (by kernel_rfl) De.ok k Z ?_;refine Bw 1 Z (by kernel_rfl) De.ok k Z ?_;refine Bw 3 Z (by kernel_rfl) De.ok k Z ?_;refine Bw 7 Z (by kernel_rfl) De.ok k Z ?_;refine eT (cs:=[a',b',c',d']) 4 Z (by kernel_rfl) De.ok k Z Z Z (fun w' bh=>Gf bh rfl) Z ?_;have bi:=av.fm (Fm.refl 0 [] w5).drew (by simp) (by simp);have bj:Fm sp [68] w w5.drew:=ab.drew;refine Gy 2 (by kernel_rfl) Z Z Z Z (aU sp code j w5.drew bi (by omega)) ?_;rintro e w6 ⟨g1,j1,rfl,bk,bl,r,cb⟩;refine⟨_,_,rfl,rfl,r.keep _ _ k (by simp [Ce]),?_⟩;have ba:=r.keep _ _ k (by simp [Ce]);refine Gy 5 (by kernel_rfl) Z Z Z Z (bb v ap sp code j1 P a' b' c' d' w6 bl (Nd.keep (Ef.fm (P:=P) r (by simp) (by simp)) _ _ _ _ (Nd.keep (Ef.fm (P:=P) (Fm.refl 0 [] w5).drew (by simp) (by simp)) _ _ _ _ aw)) o4 (ak.mem v ap) (by omega)) ?_;rintro e w7 ⟨s,j2,rfl,hs,bm,ah,cc⟩;have t:=ah.keep _ _ ba (by simp [Ce]);refine⟨_,_,rfl,rfl,t,?_⟩;have cd:=Gg.ge code j2;refine Gq 6 Z (by kernel_rfl) De.ok t Z Z (fun w=>Bt g1 s (by omega) _ w) Z ?_;refine Gy 8 (by kernel_rfl) Z Z Z Z (aU sp code j2 w7 bm (by omega)) ?_;rintro e w8 ⟨g2,j3,rfl,z,bn,ai,ce⟩;have l:=ai.keep _ _ t (by simp [Ce]);refine⟨_,_,rfl,rfl,l,?_⟩;refine Gq 9 Z (by kernel_rfl) De.ok l Z Z (fun w=>Bt (g1++s) g2 (by simp;omega) _ w) Z ?_;refine Gq 10 Z (by kernel_rfl) De.ok l Z Z (fun w=>Bt (91::o) (g1++s++g2) (by simp;omega) _ w) Z ?_;refine Bw 11 Z (by kernel_rfl) De.ok l Z ?_;refine Eg (by kernel_rfl) ?_;have bo:=((bj.trans r).trans ah).trans ai;(repeat first|refine Aa Z ?_|apply Am|apply Aq|apply An|apply Bj|refine Ay Z Z (by omega) Z ?_);refine Ap (m+1,o++(g1++s++g2),j3) ⟨az g1 s g2 bk hs z,bn,bo,((r.trans ah).trans ai).keep _ _ (show w5.drew.heap[nb]?=some (.cells ⟨[.int .i64 8,Bm [],.slice (some ⟨g,0,none⟩) vs.length cap,d]⟩ 37 (0,0)) from by rw [<-aq];exact ac) (by simp [Ce]),by dsimp only;omega,by dsimp only;rw [bd];simp only [Ye];omega,fun h=>by simp at h⟩ (by dsimp only;omega) ⟨Z,Z,Z,Z,Z,Z,V⟩
 ·have bp:m=vs.length:=(by omega);subst bp;rw [List.take_length] at hD hp;repeat first|refine Aa Z ?_|apply Ab|apply Ac|refine Aj Z (by first|omega|decide) ?_|refine Cr (x:=.seq _ (.cond _ _ _)) (σ:=Bs×Nat) (fun s w'=>(s.1=[]∨(s.1=[44]/\vs≠[]))/\SB w' sp code s.2/\Fm sp [68] w w'/\s.1.length+Gg code s.2<=Gg code j+2) (fun s=>[(0,.pointer (F sp)),(5,Bm (91::(out++s.1)))]) ?_ ?_|apply Ad|apply An|apply Cn|apply Ci|apply Ba
  ·(repeat first|refine Aa Z ?_|refine Av (b:=nb) (i:=2) Z Z p Z Z ?_);by_cases bq:0<vs.length
   ·have ag:vs≠[]:=(by rintro rfl;simp at bq);(repeat first|refine Au Z ?_|refine Bc Z Z (by first|omega|decide) ?_);refine Ae Z Z Z (En sp code j 4 w2 hS (by omega) (by omega)) ?_;rintro e w3 ⟨rfl,u,ae⟩;refine T2 Z Z ?_;have p1:=Gg.to code (show j+1=j+1 from rfl);by_cases h0:Mq code j%4=0
    ·(repeat first|refine Aa Z ?_|apply Ab|refine Ao Z (by first|omega|decide) ?_|refine Bo Z Z (Bt (91::out) [44] (by simp;omega) _ _) Z ?_|refine Au Z ?_|apply Am|apply Aq);exact Bh ([44],j+1) ⟨.inr ⟨rfl,ag⟩,u,hF.trans ae,by simp only [List.length_singleton];omega⟩ ⟨Z,Z,V⟩
    ·(repeat first|apply Ab|refine Aj Z (by first|omega|decide) ?_|refine Au Z ?_|apply Af);exact Bh ([],j+1) ⟨.inl rfl,u,hF.trans ae,by simp;omega⟩ ⟨rfl,by simp;rfl,trivial⟩
   ·(repeat first|apply Ab|refine Bb Z (by first|with_reducible rfl|exact Bool.not_true) ?_|refine Au Z ?_|apply Af|refine Az Z Z (by first|omega|decide) ?_);exact Bh ([],j) ⟨.inl rfl,hS,hF,by simp⟩ ⟨rfl,by simp;rfl,trivial⟩
  ·rintro⟨cm,j1⟩ w3 ⟨aj,u,ae,br⟩;dsimp only at aj u br;have cf:=Gg.ge code j1;(repeat first|refine Aa Z ?_|apply Ac);refine Ae Z Z Z (aU sp code j1 w3 u (by omega)) ?_;rintro e w4 ⟨g,j2,rfl,hg,n,ab,cg⟩;refine T2 Z Z ?_;have ch:cm.length<=1:=(by rcases aj with rfl|⟨rfl,_⟩<;>simp);(repeat (refine Bo Z Z (Bt (91::(out++cm)) g (by simp;omega) _ _) Z ?_));refine Bo Z Z (Bt _ [93] (by simp;omega) _ _) Z ?_;(repeat first|refine Aa Z ?_|apply Ab|apply Bl|apply Bv|apply Ai);refine Ak Z Z ⟨_,j2,rfl,?_,n,ae.trans ab,?_⟩
   ·have:=Sb.close hD aj hg;simpa using this
   ·simp only [kV,Ye,Ya,List.length_nil];omega
theorem wrTbl (es:List (List Bs×Bz)) (bm:∀ks v,(ks,v)∈es->WrV v):WrV (.tbl es):=by
 intro sp code i P a b c d w hS hn hd ap hi;simp only [Nd] at hn;obtain⟨rfl,rfl,ad,cap,rfl,aq⟩:=hn;simp only [Zs] at ap;simp only [kV] at hi;have cn:=aN es;have co:=hS.lt;refine Bf (L:=[(0,.pointer (F sp)),(1,.agg ⟨[.int .i64 9,Bm [],.slice ad es.length cap,d]⟩)]) Tryz.func29 Z Z Z ⟨Z,Z,V⟩ ?_;repeat (apply Ac)
 refine Gl Z Z Z (fun w1 hA=>?_);have ar:Fm sp [68] w w1:=hA.fm (by omega);have h1:w1.heap[w.heap.size]?=some (.cells ⟨[.int .i64 9,Bm [],.slice ad es.length cap,d]⟩ 37 (0,0)):=hA.at_;have au:=hS.fm (hA.fm (B:=0) (T:=[]) O) (by simp) (by simp);generalize cp:w.heap.size=nb at *;clear hA;repeat first|refine Aa Z ?_|apply Ab|apply Ac|refine Ao Z (by first|omega|decide) ?_|refine Aj Z (by first|omega|decide) ?_|refine Av (b:=nb) (i:=0) Z Z h1 Z Z ?_|apply Ad|apply Ag
 refine Ae Z Z Z (Ds sp code i w1 au (by have:=Gg.ge code i;omega)) ?_;rintro e cq ⟨b0,rfl,av,cg,ac,r⟩;refine T2 Z Z ?_;have h1:=r.keep _ _ h1 (by simp [Ce]);have p0:=Gg.to code (show i+1=i+1 from rfl);repeat first|refine Aa Z ?_|apply Ab|apply Ac|refine Bo Z Z (Bt [123] b0 (by simp;omega) _ _) Z ?_|apply Ad
 refine Av (b:=nb) (i:=2) Z Z h1 Z Z ?_;repeat first|refine Aa Z ?_|apply Ab|apply Ag
 refine Bg (σ:=Nat×Bs×Nat) (I:=fun s w'=>Rz (es.take s.1) s.2.1/\SB w' sp code s.2.2/\Fm sp [68] w w'/\s.1<=es.length/\s.2.1.length+Gg code s.2.2<=Gg code i+3+Oc (es.take s.1)/\(s.1=0->s.2.1=b0))
  (m:=fun s=>es.length-s.1) (Lf:=fun s=>[(0,.pointer (F sp)),(8,Bm (123::s.2.1)),(67,.slice ad es.length cap),(68,.int .i64 (es.length:Int)),(69,.int .i64 (s.1:Int))])
  (0,b0,i+1) ⟨Rz.nil av,ac,ar.trans r,Nat.zero_le _,by simp [Oc];omega,fun _=>rfl⟩ ⟨Z,Z,Z,Z,Z,V⟩ ?_
 clear au ar h1 hS ac r;rintro⟨m,out,j⟩ w2 ⟨hD,hS,hF,hm,hp,hz⟩;dsimp only at hD hS hm hp hz ⊢;have cr:=Gg.ge code j;have ch:=hF.size;have ct:Oc (es.take m)<=Oc es:=by
  have:=Ur (es.take m) (es.drop m);rw [List.take_append_drop] at this;omega
 by_cases am:m<es.length
 ·obtain⟨⟨ks,v⟩,hv⟩:∃e,es[m]?=some e:=⟨_,Yd am⟩;have aw:=List.mem_of_getElem? hv;obtain⟨⟨ax,ay⟩,az⟩:=ap.mem ks v aw;have n:es.take (m+1)=es.take m++[(ks,v)]:=(by rw [List.take_add_one,hv];rfl);have bn:Oc (es.take (m+1))=Oc (es.take m)+(14+Me ks+kV v):=(by rw [n,Ur];simp [Oc]);have ci:Oc (es.take (m+1))<=Oc es:=by
   have:=Ur (es.take (m+1)) (es.drop (m+1));rw [List.take_append_drop] at this;omega
  have bo:es≠[]:=(by rintro rfl;simp at am);obtain⟨g,cur,hP,bp,hg,bq⟩:=aq bo;obtain⟨a',b',c',d',y,ba,hR⟩:=bq.get hv;obtain⟨o1,o2,o3,_⟩:=ba.one;have o4:=hR.one;have bc:=hF.keep _ _ hg (by simp [Ce]);have bd:∀(j:Nat) (x:Value),[a',b',c',d'][j]?=some x->w2.cell? ⟨g,m*4+j,none⟩=some x:=fun j x hx=>Ar bc (by rw [List.getElem?_toArray];exact y j x hx);rw [bp];(repeat first|refine Aa Z ?_|apply Ab|apply Ac|refine Ao Z (by first|omega|decide) ?_|refine Ax (i:=m) Z Z Z am (by rw [Yi];rfl) ?_|refine Jv (cs:=[a',b',c',d']) Z Z Z bd Z ?_|apply Ad|apply Ag|apply An|apply Af);refine Dk Z Z Z (fun w3 z=>?_);(repeat (refine Aa Z ?_));refine Bx Z Z Z (by simp [o1,o2,o3,o4]) z.at_ (by simp) Z (fun w4 aa=>?_);have an:Fm sp [68] w w4:=(hF.trans (z.fm (by omega))).stN aa (by omega) (by omega);have ae:Fm 0 [] w2 w4:=(z.fm (B:=0) (T:=[]) O).stN aa Y O;have br:w4.heap[w2.heap.size]?=some (.cells ⟨[a',b',c',d']⟩ 37 (0,0)):=(by simpa using aa.at_);have af:=hS.fm ae (by simp) (by simp);have be:=Nd.keep (Ef.fm (P:=P) an (by simp) (by simp)) _ _ _ _ ba;have bs:=hR.keep (Ef.fm (P:=P) an (by simp) (by simp));generalize cj:w2.heap.size=nb2 at *;clear z aa ae hS bd bc;repeat first|refine Aa Z ?_|apply Ab|apply Ac|refine Cr (x:=.seq _ (.cond _ _ _)) (σ:=Bs×Nat) (fun s w'=>SB w' sp code s.2/\Fm sp [68] w4 w'/\(∀k b1 b2 s' b3,Mp ks k->BL b1->BL b2->VS v s'->BL b3->Rz (es.take (m+1)) (s.1++(k++b1++[61]++b2++s'++b3)))/\s.1.length+Gg code s.2<=out.length+Gg code j+4) (fun s=>[(0,.pointer (F sp)),(8,Bm (123::s.1)),(10,.pointer (F nb2)),(67,.slice (F g) es.length cap),(68,.int .i64 (es.length:Int)),(69,.int .i64 (m:Int))]) ?_ ?_
  ·by_cases bt:m=0
   ·subst bt;have e0:es.take 1=[(ks,v)]:=(by rw [n];rfl);have bf:=hz rfl;subst bf;(repeat first|refine Aj Z (by first|omega|decide) ?_|apply Af);refine Bh (out,j) ⟨af,Fm.refl _ _ _,fun k b1 b2 s' b3 q1 q2 q3 q4 q5=>?_,by dsimp only;omega⟩ ⟨Z,Z,Z,Z,Z,Z,V⟩;rw [e0];exact Rz.first av q1 q2 q3 q4 q5
   ·have bg:es.take m≠[]:=by
     intro h;have:=congrArg List.length h;rw [List.length_take,List.length_nil] at this;omega
    (repeat first|refine Aa Z ?_|refine Ao Z (by first|omega|decide) ?_|apply Am);refine Ae Z Z Z (Ds sp code j w4 af (by omega)) ?_;rintro e w5 ⟨bb,rfl,bu,cu,ab,bv⟩;refine T2 Z Z ?_;have p1:=Gg.to code (show j+1=j+1 from rfl);(repeat (refine Bo Z Z (Bt [44] bb (by simp;omega) _ _) Z ?_));refine Bo Z Z (Bt (123::out) _ (by simp;omega) _ _) Z ?_;(repeat first|refine Aa Z ?_|apply Aq);refine Bh (out++([44]++bb),j+1) ⟨ab,bv,fun k b1 b2 s' b3 q1 q2 q3 q4 q5=>?_,by dsimp only;simp only [Ye,List.length_singleton];omega⟩ ⟨Z,Z,Z,Z,Z,Z,V⟩;rw [n];exact hD.more bg bu q1 q2 q3 q4 q5
  ·rintro⟨o,j0⟩ w5 ⟨ab,ag,ah,bw⟩;dsimp only at ab ah bw;have cv:=Gg.ge code j0;skip;refine Hi (fun w'=>w'.heap[nb2]?=some (.cells ⟨[a',b',c',d']⟩ 37 (0,0))) ?_;have f:w5.drew.heap[nb2]?=some (.cells ⟨[a',b',c',d']⟩ 37 (0,0)):=ag.keep _ _ br (by simp [Ce]);have ai:=ab.fm (Fm.refl 0 [] w5).drew (by simp) (by simp);have p:Fm sp [68] w4 w5.drew:=ag.drew;generalize w5.drew=w5 at f ai p;refine Bw 0 Z (by kernel_rfl) De.ok f Z ?_;refine Bw 1 Z (by kernel_rfl) De.ok f Z ?_;refine Bw 2 Z (by kernel_rfl) De.ok f Z ?_;refine Bw 5 Z (by kernel_rfl) De.ok f Z ?_;refine Bw 9 Z (by kernel_rfl) De.ok f Z ?_;refine Bw 12 Z (by kernel_rfl) De.ok f Z ?_;refine Bw 16 Z (by kernel_rfl) De.ok f Z ?_;refine Xg 3 Z (by kernel_rfl) De.ok f Z Z (fun w' ao=>Ar (b:=nb2) (i:=3) ao rfl) Z ?_;refine eT (cs:=[a',b',c',d']) 13 Z (by kernel_rfl) De.ok f Z Z Z (fun w' ao=>Gf ao rfl) Z ?_;refine Gy 4 (by kernel_rfl) Z Z Z Z (Rc sp code j0 P d' ks w5 ai (bs.keep (Ef.fm (P:=P) p (by simp) (by simp))) ay ax (by omega)) ?_;rintro e w6 ⟨k,j1,rfl,hk,bx,bh,cw⟩;have aj:=bh.keep _ _ f (by simp [Ce]);refine⟨_,_,rfl,rfl,aj,?_⟩;have cx:=Gg.ge code j1;refine Gy 6 (by kernel_rfl) Z Z Z Z (Ds sp code j1 w6 bx (by omega)) ?_;rintro e w7 ⟨b1,rfl,bz,ck,ca,bi⟩;have q:=bi.keep _ _ aj (by simp [Ce]);refine⟨_,_,rfl,rfl,q,?_⟩;have p7:=Gg.to code (show j1+1=j1+1 from rfl);refine Gq 7 Z (by kernel_rfl) De.ok q Z Z (fun w=>Bt k b1 (by omega) _ w) Z ?_;refine Gq 8 Z (by kernel_rfl) De.ok q Z Z (fun w=>Bt (k++b1) [61] (by simp;omega) _ w) Z ?_;refine Gy 10 (by kernel_rfl) Z Z Z Z (Ds sp code (j1+1) w7 ca (by omega)) ?_;rintro e w8 ⟨b2,rfl,cb,cl,cc,bj⟩;have t:=bj.keep _ _ q (by simp [Ce]);refine⟨_,_,rfl,rfl,t,?_⟩;have p8:=Gg.to code (show j1+1+1=j1+2 by omega);refine Gq 11 Z (by kernel_rfl) De.ok t Z Z (fun w=>Bt (k++b1++[61]) b2 (by simp;omega) _ w) Z ?_;have ak:=(bh.trans bi).trans bj;refine Gy 14 (by kernel_rfl) Z Z Z Z (bm ks v aw sp code (j1+1+1) P a' b' c' d' w8 cc (Nd.keep (Ef.fm (P:=P) (p.trans ak) (by simp) (by simp)) _ _ _ _ be) o4 az (by omega)) ?_;rintro e w9 ⟨s,j2,rfl,hs,cd,bk,cy⟩;have u:=bk.keep _ _ t (by simp [Ce]);refine⟨_,_,rfl,rfl,u,?_⟩;have cz:=Gg.ge code j2;refine Gq 15 Z (by kernel_rfl) De.ok u Z Z (fun w=>Bt (k++b1++[61]++b2) s (by simp;omega) _ w) Z ?_;refine Gy 17 (by kernel_rfl) Z Z Z Z (Ds sp code j2 w9 cd (by omega)) ?_;rintro e da ⟨b3,rfl,ce,cm,bl,al⟩;have l:=al.keep _ _ u (by simp [Ce]);refine⟨_,_,rfl,rfl,l,?_⟩;have p10:=Gg.to code (show j2+1=j2+1 from rfl);refine Gq 18 Z (by kernel_rfl) De.ok l Z Z (fun w=>Bt (k++b1++[61]++b2++s) b3 (by simp;omega) _ w) Z ?_;refine Gq 19 Z (by kernel_rfl) De.ok l Z Z (fun w=>Bt (123::o) (k++b1++[61]++b2++s++b3) (by simp;omega) _ w) Z ?_;refine Bw 20 Z (by kernel_rfl) De.ok l Z ?_;refine Eg (by kernel_rfl) ?_;(repeat first|refine Aa Z ?_|apply Am|apply Aq|apply An|apply Bj|refine Ay Z Z (by omega) Z ?_);refine Ap (m+1,o++(k++b1++[61]++b2++s++b3),j2+1) ⟨ah k b1 b2 s b3 hk bz cb hs ce,bl,((an.trans p).trans ak).trans (bk.trans al),by dsimp only;omega,by dsimp only;rw [bn];simp only [Ye,List.length_singleton];omega,fun h=>by simp at h⟩ (by dsimp only;omega) ⟨Z,Z,Z,Z,Z,V⟩
 ·have cf:m=es.length:=(by omega);subst cf;rw [List.take_length] at hD hp;(repeat first|refine Aa Z ?_|apply Ab|apply Ac|refine Aj Z (by first|omega|decide) ?_|refine Bo Z Z (Bt (123::out) [125] (by simp;omega) _ _) Z ?_|apply Ad|apply An|apply Cn|apply Bl|apply Bv|apply Ci|apply Ba|apply Ai);refine Ak Z Z ⟨_,j,rfl,?_,hS,hF,?_⟩
  ·have:=Rz.close hD;simpa using this
  ·simp only [kV,Ye,Ya,List.length_nil];omega
mutual
theorem Zu:∀(v:Bz),WrV v
 | .sc k t=>wrSc k t
 | .arr vs=>wrArr vs (wrV_allI vs)
 | .tbl es=>wrTbl es (wrV_allE es)
theorem wrV_allI:∀(vs:List Bz),∀v∈vs,WrV v
 | [],v,hv=>by simp at hv
 | u::us,v,hv=>by
  rcases List.mem_cons.1 hv with e|hv
  ·rw [e];exact Zu u
  ·exact wrV_allI us v hv
theorem wrV_allE:∀(es:List (List Bs×Bz)),∀ks v,(ks,v)∈es->WrV v
 | [],ks,v,hv=>by simp at hv
 | (ks',u)::us,ks,v,hv=>by
  rcases List.mem_cons.1 hv with e|hv
  ·simp only [Prod.mk.injEq] at e;rw [e.2];exact Zu u
  ·exact wrV_allE us ks v hv
end
end
section
attribute [local irreducible] binOp IntKind.wrap Sem.run
def Hh:Ex->Nat
 | .kv _ _=>0
 | .tab _=>1
 | .atab _=>2
def Cz:Ex->List Bs
 | .kv ks _=>ks
 | .tab ks=>ks
 | .atab ks=>ks
def Nr:Ex->Bz
 | .kv _ v=>v
 | .tab _=>.sc 0 []
 | .atab _=>.sc 0 []
def Xj (w:World) (P:Nat->Prop) (x:Ex) (a b c:Value):Prop:=∃v,((Hh x=0->v=Nr x)/\(Hh x≠0->∃k t,v=.sc k t))/\Nd w P v a b c
theorem Xj.of {w:World} {P:Nat->Prop} {x:Ex} {a b c:Value} (h:Nd w P (Nr x) a b c):Xj w P x a b c:=⟨_,⟨fun _=>rfl,fun h=>by cases x<;>first|exact absurd rfl h|exact⟨_,_,rfl⟩⟩,h⟩
theorem Xj.keep {w w':World} {P:Nat->Prop} (hk:Ef P w w') {x:Ex} {a b c:Value} (h:Xj w P x a b c):Xj w' P x a b c:=by
 obtain⟨v,h1,h2⟩:=h;exact⟨v,h1,Nd.keep hk _ _ _ _ h2⟩
theorem Xj.one {w:World} {P:Nat->Prop} {x:Ex} {a b c:Value} (h:Xj w P x a b c):Bp a=true/\Bp b=true/\Bp c=true/\jY c:=by
 obtain⟨v,h1,h2⟩:=h;exact h2.one
def Dp (w:World) (P:Nat->Prop):List Ex->List Value->Prop
 | [],_=>True
 | x::es,l=>∃kv a b c d r,l=.int .i64 (Hh x:Int)::kv::a::b::c::d::r/\RS w P kv (Cz x)/\Xj w P x a b c/\RS w P d []/\Dp w P es r
theorem Dp.keep {w w':World} {P:Nat->Prop} (hk:Ef P w w'):∀(es:List Ex) (l:List Value),Dp w P es l->Dp w' P es l
 | [],_,_=>trivial
 | x::es,l,h=>by
  obtain⟨kv,a,b,c,d,r,h1,h2,h3,h4,h5⟩:=h;exact⟨kv,a,b,c,d,r,h1,h2.keep hk,h3.keep hk,h4.keep hk,Dp.keep hk es r h5⟩
theorem Dp.get {w:World} {P:Nat->Prop}:∀{es:List Ex} {l:List Value} {m:Nat} {x:Ex},Dp w P es l->es[m]?=some x->
  ∃kv a b c d,(∀(j:Nat) (y:Value),[.int .i64 (Hh x:Int),kv,a,b,c,d][j]?=some y->l[m*6+j]?=some y)/\RS w P kv (Cz x)/\Xj w P x a b c/\RS w P d []
 | [],_,_,_,_,h=>by simp at h
 | u::vs,l,0,v,hn,h=>by
  obtain⟨kv,a,b,c,d,r,rfl,h2,h3,h4,h5⟩:=hn;simp only [List.getElem?_cons_zero,Yb] at h;subst h;refine⟨kv,a,b,c,d,fun j x hx=>?_,h2,h3,h4⟩;have hj:=(Yc.1 hx).1;simp only [Ya,List.length_nil] at hj;rw [show 0*6+j=j by omega,show Value.int .i64 (Hh u:Int)::kv::a::b::c::d::r=[.int .i64 (Hh u:Int),kv,a,b,c,d]++r from rfl,Yf (by simp;omega)];exact hx
 | u::vs,l,m+1,v,hn,h=>by
  obtain⟨kv,a,b,c,d,r,rfl,h2,h3,h4,h5⟩:=hn;rw [List.getElem?_cons_succ] at h;obtain⟨kv',a',b',c',d',q1,q2,q3,q4⟩:=Dp.get h5 h;refine⟨kv',a',b',c',d',fun j x hx=>?_,q2,q3,q4⟩;rw [show (m+1)*6+j=(m*6+j)+1+1+1+1+1+1 by omega];simp only [List.getElem?_cons_succ];exact q1 j x hx
theorem Dp.snoc {w:World} {P:Nat->Prop}:∀{es:List Ex} {l:List Value} {x:Ex} {kv a b c d:Value},Dp w P es l->l.length=es.length*6->RS w P kv (Cz x)->Xj w P x a b c->RS w P d []->Dp w P (es++[x]) (l++[.int .i64 (Hh x:Int),kv,a,b,c,d])
 | [],l,x,kv,a,b,c,d,_,hl,h0,h1,h2=>by
  have:l=[]:=List.eq_nil_of_length_eq_zero (by simpa using hl);subst this;exact⟨kv,a,b,c,d,[],rfl,h0,h1,h2,trivial⟩
 | u::vs,l,x,kv,a,b,c,d,hn,hl,h0,h1,h2=>by
  obtain⟨kv',a',b',c',d',r,rfl,q1,q2,q3,q4⟩:=hn;exact⟨kv',a',b',c',d',r++[.int .i64 (Hh x:Int),kv,a,b,c,d],rfl,q1,q2,q3,Dp.snoc q4 (by simp at hl;omega) h0 h1 h2⟩
theorem Dp.one {w:World} {P:Nat->Prop}:∀{es:List Ex} {l:List Value},Dp w P es l->l.length=es.length*6->∀u∈l,Bp u=true
 | [],l,_,hl,u,hu=>by
  have:l=[]:=List.eq_nil_of_length_eq_zero (by simpa using hl);subst this;simp at hu
 | x::es,l,h,hl,u,hu=>by
  obtain⟨kv,a,b,c,d,r,rfl,h2,h3,h4,h5⟩:=h;obtain⟨o1,o2,o3,_⟩:=h3.one;simp only [List.mem_cons] at hu;rcases hu with rfl|rfl|rfl|rfl|rfl|rfl|hu
  ·rfl
  ·exact h2.one
  ·exact o1
  ·exact o2
  ·exact o3
  ·exact h4.one
  ·exact Dp.one h5 (by simp at hl;omega) u hu
def Rx (w:World) (P:Nat->Prop) (v:Value) (es:List Ex):Prop:=∃ad cap,v=.slice ad es.length cap/\(es≠[]->∃g cur,ad=some ⟨g,0,none⟩/\w.heap[g]?=some (.cells ⟨cur⟩ 40 (0,0))/\Dp w P es cur)
theorem Rx.fm {w w':World} {P:Nat->Prop} {v:Value} {es:List Ex} {B:Nat} {T:List Nat} (h:Rx w P v es) (hf:Fm B T w w') (h9:9∉T) (a:37∉T) (b:40∉T):Rx w' P v es:=by
 obtain⟨ad,cap,h1,h2⟩:=h;refine⟨ad,cap,h1,fun c=>?_⟩;obtain⟨g,cur,h3,h4,h5⟩:=h2 c;exact⟨g,cur,h3,hf.keep _ _ h4 b,Dp.keep (Ef.fm hf h9 a) es cur h5⟩
theorem Rx.up {w w':World} {P:Nat->Prop} {v:Value} {es:List Ex} (h:Rx w P v es) (hu:Up w.heap.size w w'):Rx w' P v es:=h.fm (B:=0) (T:=[]) (hu.fm Y O) (by simp) (by simp) (by simp)
def OkX (x:Ex):Prop:=Cz x≠[]/\(∀k∈Cz x,Vb k)/\Ux (Nr x)<=60/\(Hh x=0->Zs (Nr x))
def kX (x:Ex):Nat:=60+Me (Cz x)+kV (Nr x)
def Ss:List Ex->Nat
 | []=>0
 | x::es=>kX x+Ss es
theorem Uo:∀(a b:List Ex),Ss (a++b)=Ss a+Ss b
 | [],b=>by simp [Ss]
 | x::a,b=>by simp only [List.cons_append,Ss,Uo a b];omega
theorem iA:∀(a:List Ex),a.length<=Ss a
 | []=>Nat.le_refl _
 | x::a=>by have:=iA a;simp only [Ya,Ss,kX];omega
theorem bdStyle (ad:Option Addr) (n c:Nat) (w:World):(Instr.build 68 ⟨[(0,.slice ad n c)]⟩).run PP w=.ok (.agg ⟨[.slice ad n c,.int .i64 0]⟩) w:=by kernel_rfl
def Ta (code:Bs) (j:Nat):Nat:=if j<code.length then code.length-j+2 else if j%5=0 then 1 else 0
def Ri (code:Bs) (j:Nat):Nat:=if j<code.length then 18 else if j%5=0 then 18 else 0
theorem nE {code:Bs} {j:Nat} (h:Mq code j%5=0):Ta code (j+4)<Ta code j/\Gg code (j+4)+14+Ri code (j+4)<=Gg code j+Ri code j:=by
 by_cases hj:j<code.length
 ·have e1:Ta code j=code.length-j+2:=(by simp [Ta,hj]);have e2:Ri code j=18:=(by simp [Ri,hj]);have e3:Ri code (j+4)<=18:=(by unfold Ri;split<;>(try split)<;>omega);have e4:Ta code (j+4)<=code.length-(j+4)+2:=(by unfold Ta;split<;>(try split)<;>omega);have e5:Ta code (j+4)<code.length-j+2:=(by unfold Ta;split<;>(try split)<;>omega);refine⟨by omega,?_⟩;unfold Gg;omega
 ·have hp:Mq code j=j*7:=(by simp [Mq,List.getElem?_eq_none (show code.length<=j by omega)]);rw [hp] at h;have h5:j%5=0:=(by omega);have a:¬(j+4)%5=0:=(by omega);have b:¬(j+4)<code.length:=(by omega);have e1:Ta code j=1:=(by simp [Ta,hj,h5]);have e2:Ta code (j+4)=0:=(by simp [Ta,b,a]);have e3:Ri code j=18:=(by simp [Ri,hj,h5]);have e4:Ri code (j+4)=0:=(by simp [Ri,b,a]);refine⟨by omega,?_⟩;unfold Gg;omega
theorem endA_le (code:Bs) (j:Nat):Ri code j<=18:=by unfold Ri;split<;>(try split)<;>omega
theorem jH (P:Nat->Prop) (lv cv:Value) (es:List Ex) (code:Bs) (w:World) (hL:Rx w P lv es) (hc:RF w.heap.size w cv code) (bz:∀x∈es,OkX x) (hm:24*code.length+Ss es<=90000000):
  Calls PP 11 #[lv,cv] w fun e w'=>∃v l,e=.returned v/\RC w' v l/\Lr l es/\l.length<=24*code.length+Ss es/\Up w.heap.size w w':=by
 have ca:=hc;have ct:=iA es;obtain⟨cad,ccap,rfl,_⟩:=hc;obtain⟨ad,cap,rfl,au⟩:=hL;refine Bf (L:=[(0,.slice ad es.length cap),(1,.slice cad code.length ccap)]) Tryz.func11 Z Z Z ⟨Z,Z,V⟩ ?_;repeat first|refine Aa Z ?_|apply Ab|apply Ac
 refine Cx Z Z (bdStyle _ _ _) Z ?_;refine Gl Z Z Z (fun w1 hA=>?_);have bm:Up w.heap.size w w1:=hA.up Y;have bb:SB w1 w.heap.size code 0:=⟨_,hA.at_,ca.fm (hA.fm (B:=0) (T:=[]) O) (by simp)⟩;have t:Fm 0 [] w w1:=hA.fm O;generalize db:w.heap.size=sp at *;have bc:es≠[]->∃g cur,ad=some ⟨g,0,none⟩/\w1.heap[g]?=some (.cells ⟨cur⟩ 40 (0,0))/\Dp w1 P es cur:=fun bd=>by
  obtain⟨g,cur,h1,h2,h3⟩:=au bd;exact⟨g,cur,h1,t.keep _ _ h2 (by simp),Dp.keep (Ef.fm t (by simp) (by simp)) es cur h3⟩
 clear hA au t;repeat first|refine Aa Z ?_|apply Ab|apply Ac|apply Ad|apply Ag
 refine Bg (σ:=Nat×Bs×Nat) (I:=fun s w'=>Sa (es.take s.1) s.2.1/\SB w' sp code s.2.2/\Fm sp [68] w1 w'/\s.1<=es.length/\s.2.1.length+Gg code s.2.2<=24*code.length+Ss (es.take s.1))
  (m:=fun s=>es.length-s.1) (Lf:=fun s=>[(5,.pointer (F sp)),(6,Bm s.2.1),(12,.slice ad es.length cap),(13,.int .i64 (es.length:Int)),(14,.int .i64 (s.1:Int))])
  (0,[],0) ⟨Sa.nil,bb,Fm.refl _ _ _,Nat.zero_le _,by simp [Ss,Gg]⟩ ⟨Z,Z,Z,Z,Z,V⟩ ?_
 have cu:=bb.lt;clear bb;rintro⟨m,out,j⟩ w2 ⟨hD,hS,hF,cb,hp⟩;dsimp only at hD hS cb hp ⊢;have dc:=Gg.ge code j;have dd:Ss (es.take m)<=Ss es:=by
  have:=Uo (es.take m) (es.drop m);rw [List.take_append_drop] at this;omega
 by_cases be:m<es.length
 ·obtain⟨x,hx⟩:∃x,es[m]?=some x:=⟨_,Yd be⟩;have cc:=List.mem_of_getElem? hx;obtain⟨bf,ac,bn,bo⟩:=bz x cc;have ah:es.take (m+1)=es.take m++[x]:=(by rw [List.take_add_one,hx];rfl);have cd:Ss (es.take (m+1))=Ss (es.take m)+(60+Me (Cz x)+kV (Nr x)):=(by rw [ah,Uo];simp [Ss,kX]);have cw:Ss (es.take (m+1))<=Ss es:=by
   have:=Uo (es.take (m+1)) (es.drop (m+1));rw [List.take_append_drop] at this;omega
  have bd:es≠[]:=(by rintro rfl;simp at be);obtain⟨g,cur,ce,hg,cf⟩:=bc bd;obtain⟨kv',a',b',c',d',am,an,ao,cg⟩:=cf.get hx;obtain⟨o1,o2,o3,_⟩:=ao.one;have o4:=an.one;have o5:=cg.one;have bp:=hF.keep _ _ hg (by simp [Ce]);have bq:∀(j:Nat) (y:Value),[.int .i64 (Hh x:Int),kv',a',b',c',d'][j]?=some y->w2.cell? ⟨g,m*6+j,none⟩=some y:=fun j y hy=>Ar bp (by rw [List.getElem?_toArray];exact am j y hy);rw [ce];(repeat first|refine Aa Z ?_|apply Ab|apply Ac|refine Ao Z (by first|omega|decide) ?_|refine Ax (i:=m) Z Z Z be (by rw [Yi];rfl) ?_|refine Jv (cs:=[.int .i64 (Hh x:Int),kv',a',b',c',d']) Z Z Z bq Z ?_|apply Ad|apply Ag|apply An|apply Af);refine Dk Z Z Z (fun w3 ap=>?_);have bg:∀u∈[Value.int .i64 (Hh x:Int),kv',a',b',c',d'],Bp u=true:=fun u hu=>by
   simp only [List.mem_cons,List.not_mem_nil,or_false] at hu;rcases hu with rfl|rfl|rfl|rfl|rfl|rfl
   ·rfl
   ·exact o4
   ·exact o1
   ·exact o2
   ·exact o3
   ·exact o5
  refine Bx Z Z Z bg ap.at_ (by simp) Z (fun w4 aq=>?_);have ch:=hF.size;have ai:Fm sp [68] w1 w4:=(hF.trans (ap.fm (by omega))).stN aq (by omega) (by omega);have av:Fm 0 [] w2 w4:=(ap.fm (B:=0) (T:=[]) O).stN aq Y O;have ci:w4.heap[w2.heap.size]?=some (.cells ⟨[.int .i64 (Hh x:Int),kv',a',b',c',d']⟩ 40 (0,0)):=(by simpa using aq.at_);have aw:=hS.fm av (by simp) (by simp);generalize cx:w2.heap.size=nb2 at *;clear ap aq av hS bq bp;have cy:=endA_le code j;(repeat first|apply Ab|apply Ad|apply Ag);refine Bg (σ:=Bs×Nat) (I:=fun s w'=>Sa (es.take m) s.1/\SB w' sp code s.2/\Fm sp [68] w4 w'/\s.1.length+Gg code s.2+Ri code s.2<=out.length+Gg code j+Ri code j)
   (m:=fun s=>Ta code s.2) (Lf:=fun s=>[(5,.pointer (F sp)),(6,Bm s.1),(8,.pointer (F nb2)),(12,.slice (F g) es.length cap),(13,.int .i64 (es.length:Int)),(14,.int .i64 (m:Int))])
   (out,j) ⟨hD,aw,Fm.refl _ _ _,Nat.le_refl _⟩ ⟨Z,Z,Z,Z,Z,Z,V⟩ ?_
  clear aw;rintro⟨o,j1⟩ w5 ⟨bh,br,bs,cj⟩;dsimp only at bh br cj ⊢;have de:=Gg.ge code j1;(repeat first|refine Aa Z ?_|apply Ac|apply Ad);refine Ae Z Z Z (En sp code j1 5 w5 br (by omega) (by omega)) ?_;rintro e w6 ⟨rfl,bt,bu⟩;refine T2 Z Z ?_;have p6:=Gg.to code (show j1+1=j1+1 from rfl);by_cases ck:Mq code j1%5=0
  ·obtain⟨q1,q2⟩:=nE ck;(repeat first|refine Aa Z ?_|apply Ab|refine Ao Z (by first|omega|decide) ?_|apply Am|apply Ag|apply An|apply Af);refine Ae Z Z Z (bG sp code (j1+1) w6 bt (by omega)) ?_;rintro e w7 ⟨s,rfl,hs,cl,aj,bi⟩;refine T2 Z Z ?_;(repeat first|refine Aa Z ?_|refine Bo Z Z (Bt o s (by omega) _ _) Z ?_|apply Aq|apply Bj);exact Ap (o++s,j1+4) ⟨bh.blank hs,by rw [show j1+4=j1+1+3 by omega];exact aj,(bs.trans bu).trans bi,by dsimp only;simp only [Ye];omega⟩ q1 ⟨Z,Z,Z,Z,Z,Z,V⟩
  ·(repeat first|refine Aa Z ?_|apply Ab|apply Ac|refine Aj Z (by first|omega|decide) ?_|apply An|apply Cn|apply Ci|apply Ba);refine Ae Z Z Z (Ds sp code (j1+1) w6 bt (by omega)) ?_;rintro e w7 ⟨b0,rfl,cm,cz,aj,bi⟩;refine T2 Z Z ?_;have p7:=Gg.to code (show j1+1+1=j1+2 by omega);have ag:=(bs.trans bu).trans bi;have ar:=ag.keep _ _ ci (by simp [Ce]);repeat first|refine Aa Z ?_|apply Ab|apply Ac|refine Bo Z Z (Bt o b0 (by omega) _ _) Z ?_|refine Av (b:=nb2) (i:=0) Z Z ar Z Z ?_|refine Cr (x:=.seq _ (.block _ _)) (σ:=Bs×Nat) (fun s w'=>XS x s.1/\SB w' sp code s.2/\Fm sp [68] w4 w'/\s.1.length+Gg code s.2<=Gg code (j1+1+1)+10+Me (Cz x)+kV (Nr x)) (fun s=>[(5,.pointer (F sp)),(6,Bm (o++b0++s.1)),(12,.slice (F g) es.length cap),(13,.int .i64 (es.length:Int)),(14,.int .i64 (m:Int))]) ?_ ?_|apply Ag
   ·cases x with
    | kv ks v=>
     obtain⟨v0,⟨bv,_⟩,ao⟩:=ao;obtain rfl:v=v0:=(bv rfl).symm;clear bv;simp only [Cz,Nr,Hh] at *;(repeat first|refine Aa Z ?_|apply Ab|apply Ac|refine Aj Z (by first|omega|decide) ?_);refine Hi (fun w'=>w'.heap[nb2]?=some (.cells ⟨[.int .i64 0,kv',a',b',c',d']⟩ 40 (0,0))) ?_;have c:w7.drew.heap[nb2]?=some (.cells ⟨[.int .i64 0,kv',a',b',c',d']⟩ 40 (0,0)):=ar;have n:=aj.fm (Fm.refl 0 [] w7).drew (by simp) (by simp);have d:Fm sp [68] w4 w7.drew:=ag.drew;generalize w7.drew=w7 at c n d;refine Bw 0 Z (by kernel_rfl) De.ok c Z ?_;refine Bw 1 Z (by kernel_rfl) De.ok c Z ?_;refine Bw 2 Z (by kernel_rfl) De.ok c Z ?_;refine Bw 5 Z (by kernel_rfl) De.ok c Z ?_;refine Bw 9 Z (by kernel_rfl) De.ok c Z ?_;refine Bw 12 Z (by kernel_rfl) De.ok c Z ?_;refine Bw 13 Z (by kernel_rfl) De.ok c Z ?_;refine Xg 3 Z (by kernel_rfl) De.ok c Z Z (fun w' ae=>Ar (b:=nb2) (i:=1) ae rfl) Z ?_;refine eT (cs:=[a',b',c',d']) 14 Z (by kernel_rfl) De.ok c Z Z Z (fun w' ae=>Gf ae rfl) Z ?_;refine Gy 4 (by kernel_rfl) Z Z Z Z (Rc sp code (j1+1+1) P kv' ks w7 n (an.keep (Ef.fm (P:=P) (ai.trans d) (by simp) (by simp))) ac bf (by omega)) ?_;rintro e w8 ⟨k,j2,rfl,hk,aa,q,bw⟩;have h:=q.keep _ _ c (by simp [Ce]);refine⟨_,_,rfl,rfl,h,?_⟩;have bj:=Gg.ge code j2;refine Gy 6 (by kernel_rfl) Z Z Z Z (Ds sp code j2 w8 aa (by omega)) ?_;rintro e w9 ⟨b1,rfl,ak,ax,af,r⟩;have f:=r.keep _ _ h (by simp [Ce]);refine⟨_,_,rfl,rfl,f,?_⟩;have p9:=Gg.to code (show j2+1=j2+1 from rfl);refine Gq 7 Z (by kernel_rfl) De.ok f Z Z (fun w=>Bt k b1 (by omega) _ w) Z ?_;refine Gq 8 Z (by kernel_rfl) De.ok f Z Z (fun w=>Bt (k++b1) [61] (by simp;omega) _ w) Z ?_;refine Gy 10 (by kernel_rfl) Z Z Z Z (Ds sp code (j2+1) w9 af (by omega)) ?_;rintro e bk ⟨b2,rfl,al,ay,ab,p⟩;have a:=p.keep _ _ f (by simp [Ce]);refine⟨_,_,rfl,rfl,a,?_⟩;have p10:=Gg.to code (show j2+1+1=j2+2 by omega);refine Gq 11 Z (by kernel_rfl) De.ok a Z Z (fun w=>Bt (k++b1++[61]) b2 (by simp;omega) _ w) Z ?_;have az:=(q.trans r).trans p;refine Gy 15 (by kernel_rfl) Z Z Z Z (Zu v sp code (j2+1+1) P a' b' c' d' bk ab (Nd.keep (Ef.fm (P:=P) ((ai.trans d).trans az) (by simp) (by simp)) _ _ _ _ ao) o5 (by simpa using bo) (by omega)) ?_;rintro e df ⟨s,j3,rfl,hs,bx,ba,da⟩;have z:=ba.keep _ _ a (by simp [Ce]);refine⟨_,_,rfl,rfl,z,?_⟩;have dg:=Gg.ge code j3;refine Gq 16 Z (by kernel_rfl) De.ok z Z Z (fun w=>Bt (k++b1++[61]++b2) s (by simp;omega) _ w) Z ?_;refine Gq 17 Z (by kernel_rfl) De.ok z Z Z (fun w=>Bt (o++b0) (k++b1++[61]++b2++s) (by simp;omega) _ w) Z ?_;refine Bw 18 Z (by kernel_rfl) De.ok z Z ?_;refine Eg (by kernel_rfl) ?_;(repeat (apply Bj));exact Bh (k++b1++[61]++b2++s,j3) ⟨XS.kv hk ak al hs bn,bx,(d.trans az).trans ba,by dsimp only;simp only [Ye,Ya,List.length_nil];omega⟩ ⟨Z,Z,Z,Z,Z,V⟩
    | tab ks=>
     simp only [Cz,Nr,Hh] at *;(repeat (refine Ao Z (by first|omega|decide) ?_));refine Hi (fun w'=>w'.heap[nb2]?=some (.cells ⟨[.int .i64 1,kv',a',b',c',d']⟩ 40 (0,0))) ?_;have c:w7.drew.heap[nb2]?=some (.cells ⟨[.int .i64 1,kv',a',b',c',d']⟩ 40 (0,0)):=ar;have n:=aj.fm (Fm.refl 0 [] w7).drew (by simp) (by simp);have d:Fm sp [68] w4 w7.drew:=ag.drew;generalize w7.drew=w7 at c n d;refine Bw 0 Z (by kernel_rfl) De.ok c Z ?_;refine Bw 1 Z (by kernel_rfl) De.ok c Z ?_;refine Bw 4 Z (by kernel_rfl) De.ok c Z ?_;refine Bw 5 Z (by kernel_rfl) De.ok c Z ?_;refine Bw 9 Z (by kernel_rfl) De.ok c Z ?_;refine Xg 6 Z (by kernel_rfl) De.ok c Z Z (fun w' ae=>Ar (b:=nb2) (i:=1) ae rfl) Z ?_;refine Gy 2 (by kernel_rfl) Z Z Z Z (Ds sp code (j1+1+1) w7 n (by omega)) ?_;rintro e w8 ⟨b1,rfl,ak,ax,aa,q⟩;have h:=q.keep _ _ c (by simp [Ce]);refine⟨_,_,rfl,rfl,h,?_⟩;have p8:=Gg.to code (show j1+1+1+1=(j1+1+1)+1 from rfl);refine Gq 3 Z (by kernel_rfl) De.ok h Z Z (fun w=>Bt [91] b1 (by simp;omega) _ w) Z ?_;refine Gy 7 (by kernel_rfl) Z Z Z Z (Rc sp code (j1+1+1+1) P kv' ks w8 aa (an.keep (Ef.fm (P:=P) ((ai.trans d).trans q) (by simp) (by simp))) ac bf (by omega)) ?_;rintro e w9 ⟨k,j2,rfl,hk,af,r,cn⟩;have f:=r.keep _ _ h (by simp [Ce]);refine⟨_,_,rfl,rfl,f,?_⟩;have bj:=Gg.ge code j2;refine Gq 8 Z (by kernel_rfl) De.ok f Z Z (fun w=>Bt ([91]++b1) k (by simp;omega) _ w) Z ?_;refine Gy 10 (by kernel_rfl) Z Z Z Z (Ds sp code j2 w9 af (by omega)) ?_;rintro e bk ⟨b2,rfl,al,ay,ab,p⟩;have a:=p.keep _ _ f (by simp [Ce]);refine⟨_,_,rfl,rfl,a,?_⟩;have p10:=Gg.to code (show j2+1=j2+1 from rfl);refine Gq 11 Z (by kernel_rfl) De.ok a Z Z (fun w=>Bt ([91]++b1++k) b2 (by simp;omega) _ w) Z ?_;refine Gq 12 Z (by kernel_rfl) De.ok a Z Z (fun w=>Bt ([91]++b1++k++b2) [93] (by simp;omega) _ w) Z ?_;refine Gq 13 Z (by kernel_rfl) De.ok a Z Z (fun w=>Bt (o++b0) ([91]++b1++k++b2++[93]) (by simp;omega) _ w) Z ?_;refine Bw 14 Z (by kernel_rfl) De.ok a Z ?_;refine Eg (by kernel_rfl) ?_;(repeat (apply Bj));exact Bh ([91]++b1++k++b2++[93],j2+1) ⟨by have:=XS.tab ak hk al;simpa using this,ab,(d.trans q).trans (r.trans p),by dsimp only;simp only [Ye,Ya,List.length_nil];omega⟩ ⟨Z,Z,Z,Z,Z,V⟩
    | atab ks=>
     simp only [Cz,Nr,Hh] at *;(repeat first|refine Aa Z ?_|apply Ab|apply Ac|refine Ao Z (by first|omega|decide) ?_|refine Aj Z (by first|omega|decide) ?_);refine Hi (fun w'=>w'.heap[nb2]?=some (.cells ⟨[.int .i64 2,kv',a',b',c',d']⟩ 40 (0,0))) ?_;have c:w7.drew.heap[nb2]?=some (.cells ⟨[.int .i64 2,kv',a',b',c',d']⟩ 40 (0,0)):=ar;have n:=aj.fm (Fm.refl 0 [] w7).drew (by simp) (by simp);have d:Fm sp [68] w4 w7.drew:=ag.drew;generalize w7.drew=w7 at c n d;refine Bw 0 Z (by kernel_rfl) De.ok c Z ?_;refine Bw 1 Z (by kernel_rfl) De.ok c Z ?_;refine Bw 4 Z (by kernel_rfl) De.ok c Z ?_;refine Bw 5 Z (by kernel_rfl) De.ok c Z ?_;refine Bw 9 Z (by kernel_rfl) De.ok c Z ?_;refine Xg 6 Z (by kernel_rfl) De.ok c Z Z (fun w' ae=>Ar (b:=nb2) (i:=1) ae rfl) Z ?_;refine Gy 2 (by kernel_rfl) Z Z Z Z (Ds sp code (j1+1+1) w7 n (by omega)) ?_;rintro e w8 ⟨b1,rfl,ak,ax,aa,q⟩;have h:=q.keep _ _ c (by simp [Ce]);refine⟨_,_,rfl,rfl,h,?_⟩;have p8:=Gg.to code (show j1+1+1+1=(j1+1+1)+1 from rfl);refine Gq 3 Z (by kernel_rfl) De.ok h Z Z (fun w=>Bt [91,91] b1 (by simp;omega) _ w) Z ?_;refine Gy 7 (by kernel_rfl) Z Z Z Z (Rc sp code (j1+1+1+1) P kv' ks w8 aa (an.keep (Ef.fm (P:=P) ((ai.trans d).trans q) (by simp) (by simp))) ac bf (by omega)) ?_;rintro e w9 ⟨k,j2,rfl,hk,af,r,cn⟩;have f:=r.keep _ _ h (by simp [Ce]);refine⟨_,_,rfl,rfl,f,?_⟩;have bj:=Gg.ge code j2;refine Gq 8 Z (by kernel_rfl) De.ok f Z Z (fun w=>Bt ([91,91]++b1) k (by simp;omega) _ w) Z ?_;refine Gy 10 (by kernel_rfl) Z Z Z Z (Ds sp code j2 w9 af (by omega)) ?_;rintro e bk ⟨b2,rfl,al,ay,ab,p⟩;have a:=p.keep _ _ f (by simp [Ce]);refine⟨_,_,rfl,rfl,a,?_⟩;have p10:=Gg.to code (show j2+1=j2+1 from rfl);refine Gq 11 Z (by kernel_rfl) De.ok a Z Z (fun w=>Bt ([91,91]++b1++k) b2 (by simp;omega) _ w) Z ?_;refine Gq 12 Z (by kernel_rfl) De.ok a Z Z (fun w=>Bt ([91,91]++b1++k++b2) [93,93] (by simp;omega) _ w) Z ?_;refine Gq 13 Z (by kernel_rfl) De.ok a Z Z (fun w=>Bt (o++b0) ([91,91]++b1++k++b2++[93,93]) (by simp;omega) _ w) Z ?_;refine Bw 14 Z (by kernel_rfl) De.ok a Z ?_;refine Eg (by kernel_rfl) ?_;(repeat (apply Bj));exact Bh ([91,91]++b1++k++b2++[93,93],j2+1) ⟨by have:=XS.atab ak hk al;simpa using this,ab,(d.trans q).trans (r.trans p),by dsimp only;simp only [Ye,Ya,List.length_nil];omega⟩ ⟨Z,Z,Z,Z,Z,V⟩
   ·rintro⟨xs,j2⟩ w8 ⟨bl,aa,q,bw⟩;dsimp only at bl aa bw;have bj:=Gg.ge code j2;(repeat first|refine Aa Z ?_|apply Am);refine Ae Z Z Z (bG sp code j2 w8 aa (by omega)) ?_;rintro e w9 ⟨s,rfl,hs,cl,af,r⟩;refine T2 Z Z ?_;have p9:=Gg.to code (show j2+3=j2+3 from rfl);(repeat first|refine Aa Z ?_|refine Bo Z Z (Bt (o++b0++xs) s (by simp;omega) _ _) Z ?_|apply Am|apply Aq|apply An|apply Bj|refine Ay Z Z (by omega) Z ?_);refine Ap (m+1,o++b0++xs++s,j2+3) ⟨?_,af,(ai.trans q).trans r,by dsimp only;omega,by dsimp only;rw [cd];simp only [Ye];omega⟩ (by dsimp only;omega) ⟨Z,Z,Z,Z,Z,V⟩;dsimp only;rw [ah];have:=Sa.expr bh cm bl.1 bl.2 hs;simpa using this
 ·have co:m=es.length:=(by omega);subst co;rw [List.take_length] at hD hp;obtain⟨v,w3,cp,cq,cr⟩:=lD out w2;(repeat first|refine Aa Z ?_|apply Ab|apply Ac|refine Aj Z (by first|omega|decide) ?_|apply Ad|apply An|apply Cn|apply Ci|apply Ba);refine Nh Z Z cp Z ?_;(repeat first|refine Aa Z ?_|apply Ab|apply Ai);exact Ak Z Z ⟨v,out,rfl,cq,hD.done,by have:=hp;omega,(bm.trans (hF.up)).trans (cr.mono (by have:=bm.size;have:=hF.size;omega))⟩
end
end Go.Proofs.YtaccphdkapmdhaaGreat
