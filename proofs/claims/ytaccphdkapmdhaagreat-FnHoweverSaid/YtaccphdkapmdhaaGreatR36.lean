/- The reference's Mean answers as the tracker. No condition. -/
import Derived.Test.YtaccphdkapmdhaaGreatR35
namespace Go.Proofs.YtaccphdkapmdhaaGreat
set_option maxRecDepth 100000
set_option maxHeartbeats 64000000
set_option linter.all false
section
attribute [local irreducible] binOp IntKind.wrap Sem.run
theorem bdVal (w:World):(Instr.build 81 ⟨[(0,.int .i64 2)]⟩).run PP w=.ok (.agg ⟨[.int .i64 ((2:Nat):Int),.int .i64 ((0:Nat):Int),.map none,.slice none 0 0]⟩) w:=by kernel_rfl
theorem nJ (vs:List Bz) {es:List Cs} {id:Nat} (hO:Kc es) (h:id<es.length):Kc (Fg vs es id).1/\es.length<=(Fg vs es id).1.length:=by
 have:=Pb vs es id hO h;exact⟨this.1,this.2.1⟩
theorem lA (vs:List Bz) (v:Bz) (es:List Cs) (id:Nat):
  (Fg (vs++[v]) es id).2=true↔(Fg vs es id).2=true/\(Hy v ((Fg vs es id).1++[⟨id,5,false,[]⟩]) (Fg vs es id).1.length).2=true:=by
 rw [Wr];cases h:(Fg vs es id).2 with
 | false=>simp [h]
 | true=>
  simp only [if_true,true_and];rw [Fg];cases v with
  | sc k t=>simp [Bz.isSc,Fg,Hy]
  | arr us=>
   simp only [Bz.isSc,Bool.false_eq_true,if_false];obtain⟨⟨es',ok⟩,hr⟩:∃r,Hy (.arr us) ((Fg vs es id).1++[⟨id,5,false,[]⟩]) (Fg vs es id).1.length=r:=⟨_,rfl⟩;simp only [hr];cases ok<;>simp [Fg]
  | tbl us=>
   simp only [Bz.isSc,Bool.false_eq_true,if_false];obtain⟨⟨es',ok⟩,hr⟩:∃r,Hy (.tbl us) ((Fg vs es id).1++[⟨id,5,false,[]⟩]) (Fg vs es id).1.length=r:=⟨_,rfl⟩;simp only [hr];cases ok<;>simp [Fg]
theorem madeSc (k:Nat) (t:Bs):Rw (.sc k t):=by
 intro es id f hO g P a b c d w hn hd hP;simp only [Pw] at f;simp only [Nd] at hn;obtain⟨rfl,rfl,ad,cap,rfl⟩:=hn;refine Bf (L:=[(0,.agg ⟨[.int .i64 (k:Int),Bm t,.slice ad 0 cap,d]⟩)]) Tryz.func58 Z Z Z ⟨Z,V⟩ ?_;repeat (apply Ac)
 refine Gl Z Z Z (fun w1 hA=>?_);have h1:=hA.at_;repeat first|refine Aa Z ?_|apply Ab|apply Ac|refine Aj Z (by first|omega|decide) ?_|refine Av Z Z h1 Z Z ?_|apply Ad|apply Ag|apply An|apply Bj|apply Af
 refine Cx Z Z bdVal Z ?_;refine Gl Z Z Z (fun w2 e=>?_);repeat first|refine Aa Z ?_|apply Ab|apply Ai
 have h:w1.heap.size=w.heap.size+1:=hA.size;exact Ak Z Z ⟨0,_,2,0,_,_,rfl,by omega,e.at_,.inl ⟨rfl,rfl⟩,(hA.up Y).trans (e.up (by omega)),by simp [Hy]⟩
theorem madeArr (vs:List Bz) (an:∀v∈vs,Rw v):Rw (.arr vs):=by
 intro es id l hO ba P a b c d w hn hd hP;simp only [Pw] at l;obtain⟨bb,l⟩:=l;simp only [Nd] at hn;obtain⟨rfl,rfl,ad,cap,rfl,ac⟩:=hn;refine Bf (L:=[(0,.agg ⟨[.int .i64 8,Bm [],.slice ad vs.length cap,d]⟩)]) Tryz.func58 Z Z Z ⟨Z,V⟩ ?_;repeat (apply Ac)
 refine Gl Z Z Z (fun w1 hA=>?_);have h1:=hA.at_;repeat first|refine Aa Z ?_|apply Ab|apply Ac|refine Ao Z (by first|omega|decide) ?_|refine Av Z Z h1 Z Z ?_|apply Ad|apply Ag
 refine Bg (σ:=Nat×Nat) (I:=fun s w'=>Up w.heap.size w w'/\s.1<=vs.length/\(s.2=0↔(Fg (vs.take s.1) es id).2=true))
  (m:=fun s=>vs.length-s.1) (Lf:=fun s=>[(4,.int .i64 (s.2:Int)),(18,.slice ad vs.length cap),(19,.int .i64 (vs.length:Int)),(20,.int .i64 (s.1:Int))])
  (0,0) ⟨hA.up Y,Nat.zero_le _,by simp [Fg]⟩ ⟨Z,Z,Z,Z,V⟩ ?_
 clear hA h1;rintro⟨m,st⟩ w2 ⟨hU,hm,h⟩;dsimp only at hU hm h ⊢;have ae:=hU.size;by_cases t:m<vs.length
 ·obtain⟨v,hv⟩:∃v,vs[m]?=some v:=⟨_,Yd t⟩;have af:=List.mem_of_getElem? hv;have u:vs.take (m+1)=vs.take m++[v]:=(by rw [List.take_add_one,hv];rfl);have ao:vs≠[]:=(by rintro rfl;simp at t);obtain⟨g,cur,ap,rfl,hg,aq⟩:=ac ao;obtain⟨a',b',c',d',n,ag,hR⟩:=aq.get hv;obtain⟨o1,o2,o3,_⟩:=ag.one;have o4:=hR.one;have ar:=hU.at (hP g ap) hg;have ah:∀(j:Nat) (x:Value),[a',b',c',d'][j]?=some x->w2.cell? ⟨g,m*4+j,none⟩=some x:=fun j x hx=>Ar ar (by rw [List.getElem?_toArray];exact n j x hx);(repeat first|refine Aa Z ?_|apply Ab|apply Ac|refine Ao Z (by first|omega|decide) ?_|refine Ax (i:=m) Z Z Z t (by rw [Yi];rfl) ?_|refine Jv (cs:=[a',b',c',d']) Z Z Z ah Z ?_|apply Ad|apply Ag|apply An|apply Af);refine Dk Z Z Z (fun w3 f=>?_);skip;refine Bx Z Z Z (by simp [o1,o2,o3,o4]) f.at_ (by simp) Z (fun w4 aa=>?_);have au:w4.heap[w2.heap.size]?=some (.cells ⟨[a',b',c',d']⟩ 37 (0,0)):=(by simpa using aa.at_);have r:Up w2.heap.size w2 w4:=(f.up Y).trans (aa.up Y);have ai:Up w.heap.size w w4:=hU.trans (r.mono ae);have ay:=r.size;have aj:Nd w4 P v a' b' c':=Nd.move (fun g o hg ho _=>⟨ai.at (hP g hg) ho,hg⟩) _ _ _ _ ag;generalize az:w2.heap.size=nb2 at *;clear f aa ah;have ak:∀(j:Nat) (x:Value),[a',b',c',d'][j]?=some x->w4.cell? ⟨nb2,0+j,none⟩=some x:=fun j x hx=>Ar au (by rw [Yi,List.getElem?_toArray];exact hx);obtain⟨av,bc⟩:=nJ (vs.take m) hO (show id<es.length by omega);(repeat first|apply Ab|apply Ac|refine Jv (cs:=[a',b',c',d']) Z Z Z ak Z ?_);refine Ae Z Z Z (an v af ((Fg (vs.take m) es id).1++[⟨id,5,false,[]⟩]) (Fg (vs.take m) es id).1.length (l.mem v af) (av.snoc (p:=id) (k:=5) (x:=false) (nm:=[]) (by omega) (by omega) (by omega)) (by simp) P a' b' c' d' w4 aj o4 (fun g hg=>by have:=hP g hg;omega)) ?_;rintro e w5 ⟨s,x,kd,wy,y,z,rfl,bd,be,bf,aw,hs⟩;refine T2 Z Z ?_;have q:=lA (vs.take m) v es id;rw [<-u] at q;have ab:Up w.heap.size w w5:=ai.trans (aw.mono (by omega));by_cases al:s=0
  ·subst al;(repeat first|refine Aa Z ?_|apply Ab|apply Ac|refine Bb Z (by first|with_reducible rfl|exact Bool.not_true) ?_|refine Au Z ?_|apply Am|apply Aq|apply An|apply Bj|apply Af|refine Ay Z Z (by omega) Z ?_|refine Az Z Z (by first|omega|decide) ?_);refine Ap (m+1,st) ⟨ab,by dsimp only;omega,?_⟩ (by dsimp only;omega) ⟨Z,Z,Z,Z,V⟩;dsimp only;rw [q,<-hs,<-h];simp
  ·by_cases am:st=1
   ·subst am;(repeat first|refine Aa Z ?_|apply Ab|apply Ac|refine Aj Z (by first|omega|decide) ?_|refine Au Z ?_|apply Am|apply Aq|apply An|apply Bj|apply Af|refine Ay Z Z (by omega) Z ?_|refine Bc Z Z (by first|omega|decide) ?_);refine Ap (m+1,1) ⟨ab,by dsimp only;omega,?_⟩ (by dsimp only;omega) ⟨Z,Z,Z,Z,V⟩;dsimp only;rw [q,<-hs,<-h];simp
   ·(repeat first|refine Aa Z ?_|apply Ab|apply Ac|refine Ao Z (by first|omega|decide) ?_|refine Au Z ?_|apply Am|apply Aq|apply An|apply Bj|refine Ay Z Z (by omega) Z ?_|refine Bc Z Z (by first|omega|decide) ?_);refine Ap (m+1,s) ⟨ab,by dsimp only;omega,?_⟩ (by dsimp only;omega) ⟨Z,Z,Z,Z,V⟩;dsimp only;rw [q,<-hs];simp [al]
 ·have ax:vs.take m=vs:=List.take_of_length_le (by omega);rw [ax] at h;(repeat first|refine Aa Z ?_|apply Ab|apply Ac|refine Aj Z (by first|omega|decide) ?_|apply Ad|apply An|apply Cn|apply Bj|apply Ci|apply Ba);refine Cx Z Z bdVal Z ?_;refine Gl Z Z Z (fun w3 f=>?_);(repeat first|refine Aa Z ?_|apply Ab|apply Ai);refine Ak Z Z ⟨st,_,2,0,_,_,rfl,by omega,f.at_,.inl ⟨rfl,rfl⟩,hU.trans (f.up (by omega)),?_⟩;rw [Hy];exact h
theorem madeTbl (ts:List (List Bs×Bz)) (ay:∀ks v,(ks,v)∈ts->Rw v):Rw (.tbl ts):=by
 intro es id p hO az P a b c d w hn hd hP;simp only [Pw] at p;obtain⟨br,p⟩:=p;simp only [Nd] at hn;obtain⟨rfl,rfl,ad,cap,rfl,ah⟩:=hn;refine Bf (L:=[(0,.agg ⟨[.int .i64 9,Bm [],.slice ad ts.length cap,d]⟩)]) Tryz.func58 Z Z Z ⟨Z,V⟩ ?_;repeat (apply Ac)
 refine Gl Z Z Z (fun w1 hA=>?_);have h1:=hA.at_;have bn:w1.heap.size=w.heap.size+1:=hA.size;repeat first|refine Aa Z ?_|apply Ab|apply Ac|refine Ao Z (by first|omega|decide) ?_|refine Aj Z (by first|omega|decide) ?_|refine Av Z Z h1 Z Z ?_|apply Ad|apply Ag
 refine Ae Z Z Z (Ll 2 w1) ?_;rintro e bs ⟨b2,m2,rfl,ba,bb,ai,aj,u⟩;refine T2 Z Z ?_;have ak:=u.at (Ah h1) h1;repeat first|refine Aa Z ?_|apply Ab|apply Ac|refine Av Z Z ak Z Z ?_|apply Ad|apply Ag
 refine Bg (σ:=Nat×Nat×List Cs×(Nat->Option TI)) (I:=fun s w'=>Up w1.heap.size w1 w'/\s.1<=ts.length/\J w1.heap.size 0 w' id s.2.2.1 s.2.2.2/\(∃l,s.2.2.2 id=some (.tab b2 m2 l))/\((s.2.1=0/\Hu (ts.take s.1) es id=(s.2.2.1,true))∨(s.2.1≠0/\(Hu (ts.take s.1) es id).2=false)))
  (m:=fun s=>ts.length-s.1) (Lf:=fun s=>[(4,.int .i64 (s.2.1:Int)),(9,pt b2),(41,.slice ad ts.length cap),(42,.int .i64 (ts.length:Int)),(43,.int .i64 (s.1:Int))])
  (0,0,es,_) ⟨u,Nat.zero_le _,J.one hO az ai aj ba bb,⟨[],if_pos rfl⟩,.inl ⟨rfl,by simp [Hu]⟩⟩ ⟨Z,Z,Z,Z,Z,V⟩ ?_
 have al:Up w.heap.size w w1:=hA.up Y;clear hA h1 ak aj ai u;rintro⟨m,st,es1,f1⟩ w2 ⟨hU,hm,hJ,⟨l,hl⟩,h⟩;dsimp only at hU hm hJ hl h ⊢;have bo:=hU.size;have k:Up w.heap.size w w2:=al.trans (hU.mono (by omega));by_cases y:m<ts.length
 ·obtain⟨⟨ks,v⟩,hv⟩:∃v,ts[m]?=some v:=⟨_,Yd y⟩;have am:=List.mem_of_getElem? hv;obtain⟨⟨bc,bd⟩,z⟩:=p.mem ks v am;have aa:ts.take (m+1)=ts.take m++[(ks,v)]:=(by rw [List.take_add_one,hv];rfl);have be:ts≠[]:=(by rintro rfl;simp at y);obtain⟨g,cur,bf,rfl,hg,bg⟩:=ah be;obtain⟨a',b',c',d',q,an,hR⟩:=bg.get hv;obtain⟨o1,o2,o3,_⟩:=an.one;have o4:=hR.one;have bh:=k.at (hP g bf) hg;have ao:∀(j:Nat) (x:Value),[a',b',c',d'][j]?=some x->w2.cell? ⟨g,m*4+j,none⟩=some x:=fun j x hx=>Ar bh (by rw [List.getElem?_toArray];exact q j x hx);(repeat first|refine Aa Z ?_|apply Ab|apply Ac|refine Ao Z (by first|omega|decide) ?_|refine Ax (i:=m) Z Z Z y (by rw [Yi];rfl) ?_|refine Jv (cs:=[a',b',c',d']) Z Z Z ao Z ?_|apply Ad|apply Ag|apply An|apply Af);refine Dk Z Z Z (fun w3 ab=>?_);skip;refine Bx Z Z Z (by simp [o1,o2,o3,o4]) ab.at_ (by simp) Z (fun w4 ac=>?_);have ap:w4.heap[w2.heap.size]?=some (.cells ⟨[a',b',c',d']⟩ 37 (0,0)):=(by simpa using ac.at_);have f:Up w2.heap.size w2 w4:=(ab.up Y).trans (ac.up Y);have aq:Up w.heap.size w w4:=k.trans (f.mono (by omega));have bp:=f.size;have bi:J w1.heap.size 0 w4 id es1 f1:=hJ.keep (fun x o _ ho=>f.at (Ah ho) ho);have ar:Nd w4 P v a' b' c':=Nd.move (fun g o hg ho _=>⟨aq.at (hP g hg) ho,hg⟩) _ _ _ _ an;have bj:RS w4 P d' ks:=RS.move (fun g o hg ho _=>⟨aq.at (hP g hg) ho,hg⟩) hR;generalize bq:w2.heap.size=nb2 at *;clear ab ac ao;have au:∀(j:Nat) (x:Value),[a',b',c',d'][j]?=some x->w4.cell? ⟨nb2,0+j,none⟩=some x:=fun j x hx=>Ar ap (by rw [Yi,List.getElem?_toArray];exact hx);(repeat first|refine Aa Z ?_|apply Ab|apply Ac|refine Jv (cs:=[a',b',c',d']) Z Z Z au Z ?_|refine Av Z Z ap Z Z ?_);refine Ae Z Z Z (gZ v (ay ks v am) z w1.heap.size 0 id id b2 es1 f1 _ P d' ks a' b' c' d' w4 bi hl (by simp [TI.mp]) rfl bj ar o4 (fun g hg=>by have:=hP g hg;omega) bc (by omega) bd) ?_;rintro e w5 ⟨s,es2,f2,rfl,ae,bk,bl,hs⟩;refine T2 Z Z ?_;obtain⟨l2,bm⟩:=bk id _ hl;have n:f2 id=some (.tab b2 m2 l2):=bm;have af:Up w1.heap.size w1 w5:=(hU.trans (f.mono (by omega))).trans bl;have t:=eK (ts.take m) [(ks,v)] es id;rw [<-aa] at t;by_cases ag:s=0
  ·subst ag;(repeat first|refine Aa Z ?_|apply Ab|apply Ac|refine Bb Z (by first|with_reducible rfl|exact Bool.not_true) ?_|refine Au Z ?_|apply Am|apply Aq|apply An|apply Bj|apply Af|refine Ay Z Z (by omega) Z ?_|refine Az Z Z (by first|omega|decide) ?_);refine Ap (m+1,st,es2,f2) ⟨af,by dsimp only;omega,ae,⟨l2,n⟩,?_⟩ (by dsimp only;omega) ⟨Z,Z,Z,Z,Z,V⟩;dsimp only;rcases h with ⟨h0,h1⟩|⟨h0,h1⟩
   ·rcases hs with ⟨_,h2⟩|⟨h2,_⟩
    ·refine .inl ⟨h0,?_⟩;rw [t,h1];simp only [if_true,Hu,h2]
    ·exact absurd rfl h2
   ·refine .inr ⟨h0,?_⟩;rw [t,h1];exact h1
  ·have hf:(Hu (ts.take (m+1)) es id).2=false:=by
    rw [t];rcases h with ⟨h0,h1⟩|⟨h0,h1⟩
    ·rcases hs with ⟨h2,_⟩|⟨_,h2⟩
     ·exact absurd h2 ag
     ·rw [h1];obtain⟨⟨es',ok⟩,hr⟩:∃r,Ky (Hy v) ks es1 id=r:=⟨_,rfl⟩;rw [hr] at h2;simp only at h2;subst h2;simp only [if_true,Hu,hr]
    ·rw [h1];exact h1
   by_cases av:st=1
   ·subst av;(repeat first|refine Aa Z ?_|apply Ab|apply Ac|refine Aj Z (by first|omega|decide) ?_|refine Au Z ?_|apply Am|apply Aq|apply An|apply Bj|apply Af|refine Ay Z Z (by omega) Z ?_|refine Bc Z Z (by first|omega|decide) ?_);exact Ap (m+1,1,es2,f2) ⟨af,by dsimp only;omega,ae,⟨l2,n⟩,.inr ⟨by dsimp only;omega,hf⟩⟩ (by dsimp only;omega) ⟨Z,Z,Z,Z,Z,V⟩
   ·(repeat first|refine Aa Z ?_|apply Ab|apply Ac|refine Ao Z (by first|omega|decide) ?_|refine Au Z ?_|apply Am|apply Aq|apply An|apply Bj|refine Ay Z Z (by omega) Z ?_|refine Bc Z Z (by first|omega|decide) ?_);exact Ap (m+1,s,es2,f2) ⟨af,by dsimp only;omega,ae,⟨l2,n⟩,.inr ⟨ag,hf⟩⟩ (by dsimp only;omega) ⟨Z,Z,Z,Z,Z,V⟩
 ·have z:ts.take m=ts:=List.take_of_length_le (by omega);rw [z] at h;obtain⟨way,mb,l',bt,aw,hM⟩:=hJ.tb hl (by simp [TI.mp]);simp only [TI.tbl] at aw;(repeat first|refine Aa Z ?_|apply Ab|apply Ac|refine Aj Z (by first|omega|decide) ?_|apply Ad|apply An|apply Cn|apply Ci|apply Ba);refine Bk Z Z Z aw Z Z (fun w3 ax=>?_);(repeat first|refine Aa Z ?_|apply Ab|apply Ac|apply Bl|apply Bv|apply Ai);refine Ak Z Z ⟨st,b2,0,3,_,_,rfl,by omega,ax.at_,.inr ⟨rfl,rfl⟩,k.trans (ax.up (by omega)),?_⟩;rw [Hy];rcases h with ⟨h0,h1⟩|⟨h0,h1⟩
  ·simp [h0,h1]
  ·simp [h0,h1]
mutual
theorem Vo:∀(v:Bz),Rw v
 | .sc k t=>madeSc k t
 | .arr vs=>madeArr vs (made_allI vs)
 | .tbl es=>madeTbl es (made_allE es)
theorem made_allI:∀(vs:List Bz),∀v∈vs,Rw v
 | [],v,hv=>by simp at hv
 | u::us,v,hv=>by
  rcases List.mem_cons.1 hv with e|hv
  ·rw [e];exact Vo u
  ·exact made_allI us v hv
theorem made_allE:∀(es:List (List Bs×Bz)),∀ks v,(ks,v)∈es->Rw v
 | [],ks,v,hv=>by simp at hv
 | (ks',u)::us,ks,v,hv=>by
  rcases List.mem_cons.1 hv with e|hv
  ·simp only [Prod.mk.injEq] at e;rw [e.2];exact Vo u
  ·exact made_allE us ks v hv
end
end
section
theorem TI.at_root {B K w e} {t:TI} {p q:Prop} (h:t.at B K w p e) (a:q↔p):t.at B K w q e:=by
 have:q=p:=propext a;rw [this];exact h
theorem TI.at_ent {B K w root e e'} {t:TI} (h:t.at B K w root e) (h1:e'.kind=e.kind) (h2:e'.expl=e.expl):t.at B K w root e':=by
 cases t<;>simpa only [TI.at,h1,h2] using h
theorem J.expl {B K w w' base es f i b m l e} (h:J B K w base es f) (hi:f i=some (.tab b m l)) (g:i≠base) (he:es[i]?=some e) (hk:e.kind=3) (hS:St w b (.cells (cR 1 m) 81 (0,0)) w'):
  J B K w' base (es.set i { e with expl:=true }) f:=by
 have d:=(Yc.1 he).1;refine⟨h.ord.set he Z Z,fun j t hj=>?_,h.bas,fun j t m' l' hj hp k=>?_,h.low,h.inj⟩
 ·by_cases a:j=i
  ·subst a;rw [hi] at hj;simp only [Yb] at hj;subst hj;obtain⟨e',c,⟨⟨way,h1,_⟩,h2⟩⟩:=h.at_ j _ hi;refine⟨{ e with expl:=true },List.getElem?_set_self d,⟨1,hS.at_,fun _=>.inr ⟨hk,rfl⟩⟩,h2.keep (fun o ho=>hS.keep ho ?_)⟩;rintro rfl;obtain⟨mes,mc,hm,_⟩:=h2;rw [h1] at hm;cases hm
  ·obtain⟨e',c,ht⟩:=h.at_ j t hj;refine⟨e',by rw [List.getElem?_set_ne (fun h=>a h.symm)];exact c,TI.at_keep ht (fun x hx o ho=>hS.keep ho ?_)⟩;rintro rfl;exact a (h.inj j i t _ x hj hi hx (by simp [TI.all]))
 ·rw [kH (e':={ e with expl:=true }) he Z Z Z h.ord];exact h.names j t m' l' hj hp k
structure lI (id:Nat) (es:List Cs) (i:Nat) (c:lJ):Prop where
 ok:Ue id es i c
 each:∀(j:Nat) (e:Cs),j<i->es[j]?=some e->(c.gone[j]?=some true/\(e.parent=(id:Int)∨∃q:Nat,e.parent=(q:Int)/\c.gone[q]?=some true))∨
  (c.gone[j]?=some false/\e.parent≠(id:Int)/\∃(m:Nat) (e':Cs),c.remap[j]?=some m/\c.out[m]?=some e'/\e'.kind=e.kind/\e'.expl=e.expl/\e'.name=e.name/\
   ((e.parent<0/\e'.parent=e.parent)∨∃q q':Nat,e.parent=(q:Int)/\c.gone[q]?=some false/\c.remap[q]?=some q'/\e'.parent=(q':Int)))
 onto:∀(m:Nat),m<c.out.length->∃j:Nat,c.gone[j]?=some false/\c.remap[j]?=some m
 mono:∀(j j' m m':Nat),j<j'->c.gone[j]?=some false->c.gone[j']?=some false->c.remap[j]?=some m->c.remap[j']?=some m'->m<m'
 idn:c.out.length=i->∀(j:Nat),j<i->c.gone[j]?=some false/\c.remap[j]?=some j
theorem Hf {α} {a:List α} {x:α} {j:Nat} {y:α} (h:a[j]?=some y):(a++[x])[j]?=some y:=by
 rw [Yf (Yc.1 h).1];exact h
theorem Rq {α} {a:List α} {x:α} {j:Nat} {y:α} (h:(a++[x])[j]?=some y):a[j]?=some y∨(j=a.length/\x=y):=by
 by_cases hj:j<a.length
 ·rw [Yf hj] at h;exact .inl h
 ·have b:j=a.length:=by
   have:=(Yc.1 h).1;simp at this;omega
  subst b;rw [Yg Y,Nat.sub_self] at h;exact .inr ⟨rfl,by simpa using h⟩
theorem lI.step {id:Nat} {es:List Cs} {i:Nat} {c:lJ} {e:Cs} (h:lI id es i c) (hO:Kc es) (he:es[i]?=some e):lI id es (i+1) (Fq id c e):=by
 have l:=h.ok.step hO he;obtain⟨o1,o2,o3,o4⟩:=hO i e he;have hg:=h.ok.gone;have hr:=h.ok.remap;have ho:=h.ok.out;have w:∀q:Nat,q<i->c.gone[q]?=some false∨c.gone[q]?=some true:=fun q hq=>by
  cases hx:c.gone[q]? with
  | none=>rw [List.getElem?_eq_none_iff] at hx;omega
  | some b=>cases b<;>simp
 have old:∀(j:Nat) (e0:Cs) (x:Cs) (r:Nat) (g:Bool),j<i->es[j]?=some e0->((c.gone++[g])[j]?=some true/\(e0.parent=(id:Int)∨∃q:Nat,e0.parent=(q:Int)/\(c.gone++[g])[q]?=some true))∨
   ((c.gone++[g])[j]?=some false/\e0.parent≠(id:Int)/\∃(m:Nat) (e':Cs),(c.remap++[r])[j]?=some m/\(c.out[m]?=some e'/\(c.out++[x])[m]?=some e')/\e'.kind=e0.kind/\e'.expl=e0.expl/\e'.name=e0.name/\
    ((e0.parent<0/\e'.parent=e0.parent)∨∃q q':Nat,e0.parent=(q:Int)/\(c.gone++[g])[q]?=some false/\(c.remap++[r])[q]?=some q'/\e'.parent=(q':Int))):=by
  intro j e0 x r g hj d;rcases h.each j e0 hj d with ⟨h1,h2⟩|⟨h1,h2,m,e',h3,h4,h5,h6,h7,h8⟩
  ·refine .inl ⟨Hf h1,?_⟩;rcases h2 with h2|⟨q,h2,h3⟩
   ·exact .inl h2
   ·exact .inr ⟨q,h2,Hf h3⟩
  ·refine .inr ⟨Hf h1,h2,m,e',Hf h3,⟨h4,Hf h4⟩,h5,h6,h7,?_⟩;rcases h8 with h8|⟨q,q',h8,h9,z,aa⟩
   ·exact .inl h8
   ·exact .inr ⟨q,q',h8,Hf h9,Hf z,aa⟩
 unfold Fq at l ⊢;split
 ·rename_i hc;rw [if_pos hc] at l;obtain⟨ac,n⟩:=hc;refine⟨l,fun j e0 hj d=>?_,fun m hm=>?_,fun j j' m m' u hj a hm f=>?_,fun hs=>?_⟩
  ·by_cases o:j<i
   ·rcases old j e0 e 0 true o d with h1|⟨h1,h2,m,e',h3,h4,h5⟩
    ·exact .inl h1
    ·exact .inr ⟨h1,h2,m,e',h3,h4.1,h5⟩
   ·have k:j=i:=(by omega);subst k;rw [he] at d;simp only [Yb] at d;subst d;refine .inl ⟨by rw [Yg (by omega),hg,Nat.sub_self];rfl,?_⟩;rcases n with ⟨n,_⟩|n
    ·exact .inl n
    ·refine .inr ⟨e.parent.toNat,by omega,?_⟩;rcases w e.parent.toNat (by omega) with h5|h5
     ·simp [List.getD_eq_getElem?_getD,h5] at n
     ·exact Hf h5
  ·obtain⟨j,h1,h2⟩:=h.onto m hm;exact⟨j,Hf h1,Hf h2⟩
  ·rcases Rq hj with hj|⟨_,hx⟩
   ·rcases Rq a with a|⟨_,hx⟩
    ·have l1:=(Yc.1 hj).1;have l2:=(Yc.1 a).1;rw [Yf (by omega)] at hm f;exact h.mono j j' m m' u hj a hm f
    ·cases hx
   ·cases hx
  ·simp only at hs;omega
 ·rename_i hc;rw [if_neg hc] at l;have s:e.parent≥0->c.gone[e.parent.toNat]?=some false:=fun h0=>by
   rcases w e.parent.toNat (by omega) with h5|h5
   ·exact h5
   ·exact absurd ⟨h0,.inr (by simp [List.getD_eq_getElem?_getD,h5])⟩ hc
  have y:e.parent≠(id:Int):=fun h0=>hc ⟨by omega,.inl ⟨h0,o4⟩⟩;have v:∀g:Bool,(c.gone++[g])[i]?=some g:=fun g=>(by rw [Yg (by omega),hg,Nat.sub_self];rfl);have p:∀r:Nat,(c.remap++[r])[i]?=some r:=fun r=>(by rw [Yg (by omega),hr,Nat.sub_self];rfl);refine⟨l,fun j e0 hj d=>?_,fun m hm=>?_,fun j j' m m' u hj a hm f=>?_,fun hs j hj=>?_⟩
  ·by_cases o:j<i
   ·rcases old j e0 (if c.out.length=c.gone.length then e else { e with parent:=(c.remap.getD e.parent.toNat 0:Nat) }) c.out.length false o d with h1|⟨h1,h2,m,e',h3,h4,h5⟩
    ·exact .inl h1
    ·exact .inr ⟨h1,h2,m,e',h3,h4.2,h5⟩
   ·have k:j=i:=(by omega);subst k;rw [he] at d;simp only [Yb] at d;subst d;refine .inr ⟨v _,y,c.out.length,(if c.out.length=c.gone.length then e else { e with parent:=(c.remap.getD e.parent.toNat 0:Nat) }),p _,by simp,?_⟩;split
    ·rename_i hs;refine⟨rfl,rfl,rfl,?_⟩;by_cases h0:e.parent<0
     ·exact .inl ⟨h0,rfl⟩
     ·obtain⟨q1,q2⟩:=h.idn (by omega) e.parent.toNat (by omega);exact .inr ⟨e.parent.toNat,e.parent.toNat,by omega,Hf q1,Hf q2,by omega⟩
    ·rename_i hs;refine⟨rfl,rfl,rfl,?_⟩;have h0:e.parent≥0:=by
      rcases o2 with o2|o2
      ·omega
      ·exact o2
     obtain⟨m,h1,_⟩:=h.ok.keep _ (s h0);exact .inr ⟨e.parent.toNat,m,by omega,Hf (s h0),Hf h1,by simp [List.getD_eq_getElem?_getD,h1]⟩
  ·simp only [Ye,List.length_singleton] at hm;by_cases ab:m<c.out.length
   ·obtain⟨j,h1,h2⟩:=h.onto m ab;exact⟨j,Hf h1,Hf h2⟩
   ·have:m=c.out.length:=(by omega);subst this;exact⟨i,v _,p _⟩
  ·rcases Rq hj with hj|⟨ad,_⟩
   ·have l1:=(Yc.1 hj).1;rw [Yf (by omega)] at hm;rcases Rq a with a|⟨t,_⟩
    ·have l2:=(Yc.1 a).1;rw [Yf (by omega)] at f;exact h.mono j j' m m' u hj a hm f
    ·subst t;rw [hg,p] at f;simp only [Yb] at f;subst f;obtain⟨m2,q1,q2⟩:=h.ok.keep j hj;rw [hm] at q1;simp only [Yb] at q1;omega
   ·rcases Rq a with a|⟨t,_⟩
    ·have l2:=(Yc.1 a).1;omega
    ·omega
  ·simp only [Ye,List.length_singleton] at hs;by_cases o:j<i
   ·obtain⟨q1,q2⟩:=h.idn (by omega) j o;exact⟨Hf q1,Hf q2⟩
   ·have k:j=i:=(by omega);subst k;refine⟨v _,?_⟩;rw [p];congr 1;omega
theorem eH (id:Nat) (es:List Cs) (hO:Kc es):∀(l:List Cs) (i:Nat) (c:lJ),es.drop i=l->i<=es.length->lI id es i c->lI id es es.length (l.foldl (Fq id) c)
 | [],i,c,hl,hi,h=>by
  have:i=es.length:=by
   have:=List.drop_eq_nil_iff.1 hl;omega
  subst this;exact h
 | e::l,i,c,hl,hi,h=>by
  have he:es[i]?=some e:=by
   have:=congrArg (fun l=>l[0]?) hl;simpa using this
  have a:es.drop (i+1)=l:=by
   have:=congrArg (fun l=>l.drop 1) hl;simpa using this
  exact eH id es hO l (i+1) _ a (by have:=(Yc.1 he).1;omega) (h.step hO he)
theorem gG (id:Nat) (es:List Cs) (hO:Kc es):lI id es es.length (es.foldl (Fq id) ⟨[],[],[]⟩):=
 eH id es hO es 0 _ rfl O ⟨Wo id es,fun j e h=>by omega,fun m h=>by simp at h,fun j j' m m' _ h=>by simp at h,fun _ j h=>by omega⟩
def Fh (id:Nat) (es:List Cs) (j m:Nat):Prop:=(es.foldl (Fq id) ⟨[],[],[]⟩).gone[j]?=some false/\(es.foldl (Fq id) ⟨[],[],[]⟩).remap[j]?=some m
theorem Fh.inj {id es j j' m} (hO:Kc es) (h:Fh id es j m) (h':Fh id es j' m):j=j':=by
 rcases Nat.lt_trichotomy j j' with a|he|b
 ·have:=(gG id es hO).mono j j' m m a h.1 h'.1 h.2 h'.2;omega
 ·exact he
 ·have:=(gG id es hO).mono j' j m m b h'.1 h.1 h'.2 h.2;omega
theorem Fh.fn {id es j m m'} (h:Fh id es j m) (h':Fh id es j m'):m=m':=by
 have:=h.2.symm.trans h'.2;simpa using this
theorem Fh.low {id es j} (hO:Kc es) (hj:j<es.length) (a:j<=id):Fh id es j j:=by
 obtain⟨h1,h2,_⟩:=(gG id es hO).ok.low j hj a;exact⟨h1,h2⟩
theorem Fh.ent {id es j m e} (hO:Kc es) (h:Fh id es j m) (he:es[j]?=some e):∃e',(Lq id es)[m]?=some e'/\e'.kind=e.kind/\e'.expl=e.expl/\e'.name=e.name/\
  ((e.parent<0/\e'.parent=e.parent)∨∃q q':Nat,e.parent=(q:Int)/\Fh id es q q'/\e'.parent=(q':Int)):=by
 have a:=(Yc.1 he).1;rcases (gG id es hO).each j e a he with ⟨h1,_⟩|⟨_,_,m',e',h3,h4,h5,h6,h7,h8⟩
 ·rw [h.1] at h1;cases h1
 ·rw [h.2] at h3;simp only [Yb] at h3;subst h3;refine⟨e',h4,h5,h6,h7,?_⟩;rcases h8 with h8|⟨q,q',h8,h9,b,c⟩
  ·exact .inl h8
  ·exact .inr ⟨q,q',h8,⟨h9,b⟩,c⟩
theorem Fh.onto {id es m} (hO:Kc es) (hm:m<(Lq id es).length):∃j e,es[j]?=some e/\Fh id es j m:=by
 obtain⟨j,h1,h2⟩:=(gG id es hO).onto m hm;have hg:=(gG id es hO).ok.gone;have hj:j<es.length:=by have:=(Yc.1 h1).1;omega
 exact⟨j,es[j],Yd hj,h1,h2⟩
theorem eG {id es p p'} (hO:Kc es) (g:id<es.length) (h:Fh id es p p') (nm:Bs):
  (p=id/\Du (Lq id es) p' nm=none)∨(p≠id/\((Du es p nm=none/\Du (Lq id es) p' nm=none)∨∃j j',Du es p nm=some j/\Fh id es j j'/\Du (Lq id es) p' nm=some j')):=by
 have i:=(bO id es hO g).1;have R:=gG id es hO;have back:∀(m:Nat) (a:Cs),(Lq id es)[m]?=some a->a.is p' nm=true->∃j e,es[j]?=some e/\Fh id es j m/\e.is p nm=true:=by
  intro m a ha b;obtain⟨j,e,he,hj⟩:=Fh.onto hO (Yc.1 ha).1;obtain⟨e',h1,h2,h3,h4,h5⟩:=hj.ent hO he;rw [ha] at h1;simp only [Yb] at h1;subst h1;obtain⟨i1,i2,i3⟩:=Cs.is_parent b;refine⟨j,e,he,hj,?_⟩;rcases h5 with ⟨h5,h6⟩|⟨q,q',h5,h6,h7⟩
  ·omega
  ·have hq:q'=p':=(by omega);subst hq;have k:=Fh.inj hO h6 h;subst k;simp only [Cs.is,decide_eq_true_eq];exact⟨h5,by rw [<-h2];exact i2,by rw [<-h4];exact i3⟩
 by_cases hp:p=id
 ·refine .inl ⟨hp,Wc fun m a ha=>?_⟩;cases hb:a.is p' nm with
  | false=>rfl
  | true=>
   obtain⟨j,e,he,hj,b⟩:=back m a ha hb;have d:=(Yc.1 he).1;rcases R.each j e d he with ⟨h1,_⟩|⟨_,h2,_⟩
   ·rw [hj.1] at h1;cases h1
   ·exact absurd (by rw [(Cs.is_parent b).1,hp]) h2
 ·refine .inr ⟨hp,?_⟩;cases hf:Du es p nm with
  | none=>
   refine .inl ⟨rfl,Wc fun m a ha=>?_⟩;cases hb:a.is p' nm with
   | false=>rfl
   | true=>
    obtain⟨j,e,he,hj,b⟩:=back m a ha hb;rw [Qh hO hf j e he] at b;cases b
  | some j=>
   obtain⟨_,e,he,b⟩:=Jz hf;have d:=(Yc.1 he).1;obtain⟨i1,i2,i3⟩:=Cs.is_parent b;rcases R.each j e d he with ⟨_,h2⟩|⟨h1,_,m,e',h3,h4,h5,h6,h7,h8⟩
   ·exfalso;rcases h2 with h2|⟨q,h2,h3⟩
    ·omega
    ·have:q=p:=(by omega);subst this;rw [h.1] at h3;cases h3
   ·refine .inr ⟨j,m,rfl,⟨h1,h3⟩,?_⟩;have l:e'.is p' nm=true:=by
     rcases h8 with ⟨h8,_⟩|⟨q,q',h8,h9,n,o⟩
     ·omega
     ·have hq:q=p:=(by omega);subst hq;have:=h.fn ⟨h9,n⟩;subst this;simp only [Cs.is,decide_eq_true_eq];exact⟨o,by rw [h5];exact i2,by rw [h7];exact i3⟩
    refine dU h4 l (fun m2 a s ha=>?_) i;cases hb:a.is p' nm with
    | false=>rfl
    | true=>
     obtain⟨j2,e2,r,f,c⟩:=back m2 a ha hb;have:j<=j2:=by
      rcases Nat.lt_or_ge j2 j with h9|h9
      ·rw [Og hO hf j2 e2 h9 r] at c;cases c
      ·exact h9
     rcases Nat.lt_or_ge j j2 with h9|h9
     ·have:=R.mono j j2 m m2 h9 h1 f.1 h3 f.2;omega
     ·have:j=j2:=(by omega);subst this;have:=f.fn ⟨h1,h3⟩;omega
end
section
open Classical in
noncomputable def bN (id:Nat) (es:List Cs) (f:Nat->Option TI) (u:TI) (m:Nat):Option TI:=
 if m=id then some u else if h:∃j,Fh id es j m then f h.choose else none
theorem bM {id es f u j m} (hO:Kc es) (h:Fh id es j m) (hm:m≠id):bN id es f u m=f j:=by
 have he:∃j,Fh id es j m:=⟨j,h⟩;unfold bN;rw [if_neg hm,dif_pos he];exact congrArg f (Fh.inj hO he.choose_spec h)
theorem Mj {id es f u m t} (h:bN id es f u m=some t):(m=id/\t=u)∨(m≠id/\∃j,Fh id es j m/\f j=some t):=by
 unfold bN at h;split at h
 ·rename_i hm;exact .inl ⟨hm,by simpa using h.symm⟩
 ·rename_i hm;split at h
  ·rename_i he;exact .inr ⟨hm,_,he.choose_spec,h⟩
  ·cases h
theorem J.reopen {B K w w' base es f i b s tb m l s' tb' m' e} (h:J B K w base es f) (hi:f i=some (.lst b s tb m l)) (ag:base<i) (he:es[i]?=some e)
  (hu:TI.at B K w' False e (.lst b s' tb' m' [])) (hl:∀x∈(TI.lst b s' tb' m' []).all,B<=x/\(x=b∨x=s∨w.heap.size<=x)) (hk:∀x o,x≠b->x≠s->w.heap[x]?=some o->w'.heap[x]?=some o):
  J B K w' base (Lq i es) (bN i es f (.lst b s' tb' m' [])):=by
 have r:=(Yc.1 he).1;have hO:=h.ord;have g:Fh i es i i:=Fh.low hO r Y;have v:Fh i es base base:=Fh.low hO (by omega) (by omega);have n:∀{j m0:Nat},Fh i es j m0->m0≠i->j≠i:=fun h1 h2 h3=>by subst h3;exact h2 (h1.fn g)
 have dis:∀{j:Nat} {t:TI} {x:Nat},f j=some t->j≠i->x∈t.all->x≠b/\x≠s:=fun hj p hx=>
  ⟨fun e=>p (h.inj _ i _ _ _ hj hi hx (by simp [TI.all,e])),fun e=>p (h.inj _ i _ _ _ hj hi hx (by simp [TI.all,e]))⟩
 refine⟨(bO i es hO r).1,fun q t hq=>?_,?_,fun q t mq lq hq hp k=>?_,fun q t hq x hx=>?_,fun q q' t t' x hq ab hx y=>?_⟩
 ·rcases Mj hq with ⟨rfl,rfl⟩|⟨c,j,hj,a⟩
  ·obtain⟨e',h1,h2,h3,_⟩:=g.ent hO he;exact⟨e',h1,TI.at_root (TI.at_ent hu h2 h3) ⟨fun h=>by omega,fun h=>h.elim⟩⟩
  ·obtain⟨ej,ad,ht⟩:=h.at_ j t a;obtain⟨e',h1,h2,h3,_⟩:=hj.ent hO ad;refine⟨e',h1,TI.at_root (TI.at_ent (TI.at_keep ht (fun x hx o ho=>hk x o (dis a (n hj c) hx).1 (dis a (n hj c) hx).2 ho)) h2 h3) ⟨fun h=>?_,fun h=>?_⟩⟩
   ·subst h;exact Fh.inj hO hj v
   ·subst h;exact hj.fn v
 ·obtain⟨b0,m0,l0,ae⟩:=h.bas;exact⟨b0,m0,l0,by rw [bM hO v (by omega)];exact ae⟩
 ·rcases Mj hq with ⟨rfl,rfl⟩|⟨c,j,hj,a⟩
  ·simp only [TI.mp,Yb,Prod.mk.injEq] at hp;rcases eG hO r g k with ⟨_,h1⟩|⟨h1,_⟩
   ·exact .inl ⟨h1,by rw [<-hp.2];rfl⟩
   ·exact absurd rfl h1
  ·rcases eG hO r hj k with ⟨h1,_⟩|⟨_,⟨h1,h2⟩|⟨j2,j2',h1,h2,h3⟩⟩
   ·exact absurd h1 (n hj c)
   ·rcases h.names j t mq lq a hp k with ⟨_,h3⟩|⟨j2,u,h3,_⟩
    ·exact .inl ⟨h2,h3⟩
    ·rw [h1] at h3;cases h3
   ·rcases h.names j t mq lq a hp k with ⟨h4,_⟩|⟨j3,u,h4,h5,h6,h7⟩
    ·rw [h1] at h4;cases h4
    ·rw [h1] at h4;simp only [Yb] at h4;subst h4;have ac:j2'≠base:=by
      rintro rfl;exact h5 (Fh.inj hO h2 v)
     by_cases p:j2=i
     ·subst p;have:=h2.fn g;subst this;rw [hi] at h6;simp only [Yb] at h6;subst h6;exact .inr ⟨j2',.lst b s' tb' m' [],h3,ac,by unfold bN;rw [if_pos rfl],h7⟩
     ·have af:j2'≠i:=by
       rintro rfl;exact p (Fh.inj hO h2 g)
      exact .inr ⟨j2',u,h3,ac,by rw [bM hO h2 af];exact h6,h7⟩
 ·rcases Mj hq with ⟨rfl,rfl⟩|⟨c,j,hj,a⟩
  ·exact (hl x hx).1
  ·exact h.low j t a x hx
 ·rcases Mj hq with ⟨rfl,rfl⟩|⟨c,j,hj,a⟩
  ·rcases Mj ab with ⟨rfl,rfl⟩|⟨z,j',aa,d⟩
   ·rfl
   ·have h1:=dis d (n aa z) y;have h2:=h.all_lt d x y;rcases (hl x hx).2 with h3|h3|h3
    ·exact absurd h3 h1.1
    ·exact absurd h3 h1.2
    ·omega
  ·rcases Mj ab with ⟨rfl,rfl⟩|⟨z,j',aa,d⟩
   ·have h1:=dis a (n hj c) hx;have h2:=h.all_lt a x hx;rcases (hl x y).2 with h3|h3|h3
    ·exact absurd h3 h1.1
    ·exact absurd h3 h1.2
    ·omega
   ·have:=h.inj j j' t t' x a d hx y;subst this;exact hj.fn aa
theorem Vy (l:List Ex) (n:Nat):Eo ⟨[],0⟩ l n=Eo ⟨[⟨-1,3,false,[]⟩],0⟩ l n:=by
 cases l with
 | nil=>rfl
 | cons x l=>rfl
end
end Go.Proofs.YtaccphdkapmdhaaGreat
