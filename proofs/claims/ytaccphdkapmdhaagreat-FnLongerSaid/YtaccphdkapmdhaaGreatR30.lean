/- The laws' documents are these. No condition. -/
import Derived.Test.YtaccphdkapmdhaaGreatR29
namespace Go.Proofs.YtaccphdkapmdhaaGreat
set_option maxRecDepth 100000
set_option maxHeartbeats 64000000
set_option linter.all false
section
abbrev UU:Nat:=4294967296
theorem wrapU (a:Nat):IntKind.u32.wrap (a:Int)=((a%UU:Nat):Int):=by
 have e:IntKind.u32.wrap (a:Int)=(a:Int)%4294967296:=by
  simp [IntKind.wrap,IntKind.bits,IntKind.signed]
 rw [e,Int.natCast_emod];rfl
theorem mulU (a b:Nat) (t:Nat) (w:World):(binOp .mul t (.int .u32 (a:Int)) (.int .u32 (b:Int))).run PP w=.ok (.int .u32 ((a*b%UU:Nat):Int)) w:=by
 show (Op.intArith .mul .u32 (a:Int) (b:Int)).run PP w=_;simp only [Op.intArith,Sem.run_pure];rw [<-Int.natCast_mul,wrapU]
theorem addU (a b:Nat) (t:Nat) (w:World):(binOp .add t (.int .u32 (a:Int)) (.int .u32 (b:Int))).run PP w=.ok (.int .u32 (((a+b)%UU:Nat):Int)) w:=by
 show (Op.intArith .add .u32 (a:Int) (b:Int)).run PP w=_;simp only [Op.intArith,Sem.run_pure];rw [<-Int.natCast_add,wrapU]
theorem dD (a b:Nat) (h:0<b) (t:Nat) (w:World):(binOp .rem t (.int .u32 (a:Int)) (.int .u32 (b:Int))).run PP w=.ok (.int .u32 ((a%b:Nat):Int)) w:=Ip .u32 a b h t w
theorem Yk (a n:Nat) (hn:n<32) (t:Nat) (w:World) (k2:IntKind):(binOp .shr t (.int .u32 (a:Int)) (.int k2 (n:Int))).run PP w=.ok (.int .u32 ((a/2^n:Nat):Int)) w:=shrU .u32 a n hn (by decide) t w k2
def nm (n:Nat):Bs:=match n%4 with
 | 0=>[97]
 | 1=>[98]
 | 2=>[99]
 | _=>[]
def Pi (n:Nat):List Bs:=(List.range (1+n%3)).map fun k=>nm (n/2^(2+2*k))
def mt:Nat->Nat->Bz
 | 0,_=>.sc 1 [55]
 | d+1,n=>
  if n%4=0 then .tbl ((List.range (n/2^2%4)).map fun k=>(Pi ((n/2^4+k*977%UU)%UU),mt d ((n*2654435761%UU+k)%UU)))
  else if n%4=1 then .arr ((List.range (n/2^2%3)).map fun k=>mt d ((n*40503%UU+k)%UU))
  else .sc 1 [55]
def Hp (n:Nat):Ex:=match n%8 with
 | 0=>.tab (Pi (n/2^3))
 | 1=>.tab (Pi (n/2^3))
 | 2=>.atab (Pi (n/2^3))
 | _=>.kv (Pi (n/2^3)) (mt 2 (n/2^12))
def Gb (l:List Nat):List Ex:=(l.take 16).map Hp
theorem Py {α:Type} (f:Nat->α) (m:Nat):(List.range (m+1)).map f=(List.range m).map f++[f m]:=by
 rw [List.range_succ,List.map_append];rfl
theorem mG (n:Nat):Vb (nm n)/\(nm n).length<=1:=by
 unfold nm;split
 ·exact⟨fun c hc=>by simp only [List.mem_singleton] at hc;subst hc;decide,by simp⟩
 ·exact⟨fun c hc=>by simp only [List.mem_singleton] at hc;subst hc;decide,by simp⟩
 ·exact⟨fun c hc=>by simp only [List.mem_singleton] at hc;subst hc;decide,by simp⟩
 ·exact⟨fun c hc=>by simp at hc,by simp⟩
theorem nA (c:Nat):∀(ks:List Bs),(∀k∈ks,k.length<=c)->Me ks<=ks.length*(11+12*c)
 | [],_=>by simp [Me]
 | k::ks,h=>by
  have h1:=h k (by simp);have h2:=nA c ks (fun k hk=>h k (by simp [hk]));have:12*k.length<=12*c:=Nat.mul_le_mul_left 12 h1;simp only [Me,kK,Ya,Nat.add_mul,Nat.one_mul];omega
theorem aF (n:Nat):Pi n≠[]/\(∀k∈Pi n,Vb k)/\(∀k∈Pi n,k.length<=1)/\(Pi n).length<=3/\Me (Pi n)<=69:=by
 have hl:(Pi n).length=1+n%3:=by simp [Pi]
 have h3:n%3<3:=Nat.mod_lt _ (by omega);have hk:∀k∈Pi n,k.length<=1:=fun k hk=>by
  obtain⟨i,_,rfl⟩:=List.mem_map.1 hk;exact (mG _).2
 refine⟨fun h=>by rw [h,List.length_nil] at hl;omega,fun k hk=>?_,hk,by omega,?_⟩
 ·obtain⟨i,_,rfl⟩:=List.mem_map.1 hk;exact (mG _).1
 ·have:=nA 1 (Pi n) hk;rw [hl] at this;have h4:(1+n%3)*(11+12*1)<=3*23:=Nat.mul_le_mul (by omega) (by omega);omega
theorem mZ (c:Nat):∀(es:List (List Bs×Bz)),(∀ks v,(ks,v)∈es->Me ks<=69/\kV v<=c)->Oc es<=es.length*(83+c)
 | [],_=>by simp [Oc]
 | (ks,v)::es,h=>by
  obtain⟨h1,h2⟩:=h ks v (by simp);have h3:=mZ c es (fun ks v hv=>h ks v (by simp [hv]));simp only [Oc,Ya,Nat.add_mul,Nat.one_mul] at h3 ⊢;omega
theorem mX (c:Nat):∀(vs:List Bz),(∀v∈vs,kV v<=c)->Sc vs<=vs.length*(43+c)
 | [],_=>by simp [Sc]
 | v::vs,h=>by
  have h2:=h v (by simp);have h3:=mX c vs (fun v hv=>h v (by simp [hv]));simp only [Sc,Ya,Nat.add_mul,Nat.one_mul] at h3 ⊢;omega
theorem jD:∀(es:List (List Bs×Bz)),(∀ks v,(ks,v)∈es->(ks≠[]/\∀k∈ks,Vb k)/\Zs v)->Uj es
 | [],_=>trivial
 | (ks,v)::es,h=>by
  simp only [Uj];exact⟨(h ks v (by simp)).1,(h ks v (by simp)).2,jD es (fun ks v hv=>h ks v (by simp [hv]))⟩
theorem jC:∀(vs:List Bz),(∀v∈vs,Zs v)->Ui vs
 | [],_=>trivial
 | v::vs,h=>by
  simp only [Ui];exact⟨h v (by simp),jC vs (fun v hv=>h v (by simp [hv]))⟩
theorem iM (c:Nat):∀(es:List (List Bs×Bz)),(∀ks v,(ks,v)∈es->Ux v<=c)->Pm es<=c
 | [],_=>by simp [Pm]
 | (ks,v)::es,h=>by
  have h1:=h ks v (by simp);have h2:=iM c es (fun ks v hv=>h ks v (by simp [hv]));simp only [Pm];omega
theorem iL (c:Nat):∀(vs:List Bz),(∀v∈vs,Ux v<=c)->Pl vs<=c
 | [],_=>by simp [Pl]
 | v::vs,h=>by
  have h1:=h v (by simp);have h2:=iL c vs (fun v hv=>h v (by simp [hv]));simp only [Pl];omega
def jS:Nat->Nat
 | 0=>1
 | d+1=>30+3*(83+jS d)
theorem mt_ok:∀(d n:Nat),Zs (mt d n)/\Ux (mt d n)<=d/\kV (mt d n)<=jS d
 | 0,n=>by simp [mt,Zs,Ux,kV,jS]
 | d+1,n=>by
  have ih:=mt_ok d;unfold mt;split
  ·have hl:((List.range (n/2^2%4)).map fun k=>(Pi ((n/2^4+k*977%UU)%UU),mt d ((n*2654435761%UU+k)%UU))).length<=3:=by
    rw [List.length_map,List.length_range];have:=Nat.mod_lt (n/2^2) (show 0<4 by omega);omega
   have hm:∀ks v,(ks,v)∈((List.range (n/2^2%4)).map fun k=>(Pi ((n/2^4+k*977%UU)%UU),mt d ((n*2654435761%UU+k)%UU)))->∃a b,ks=Pi a/\v=mt d b:=fun ks v h=>by
    obtain⟨k,_,hk⟩:=List.mem_map.1 h;simp only [Prod.mk.injEq] at hk;exact⟨_,_,hk.1.symm,hk.2.symm⟩
   generalize ((List.range (n/2^2%4)).map fun k=>(Pi ((n/2^4+k*977%UU)%UU),mt d ((n*2654435761%UU+k)%UU)))=es at hl hm;refine⟨?_,?_,?_⟩
   ·simp only [Zs];exact jD es fun ks v h=>by
     obtain⟨a,b,rfl,rfl⟩:=hm ks v h;exact⟨⟨(aF a).1,(aF a).2.1⟩,(ih b).1⟩
   ·simp only [Ux];have:=iM d es (fun ks v h=>by
     obtain⟨a,b,rfl,rfl⟩:=hm ks v h;exact (ih b).2.1)
    omega
   ·simp only [kV,jS];have h1:=mZ (jS d) es (fun ks v h=>by
     obtain⟨a,b,rfl,rfl⟩:=hm ks v h;exact⟨(aF a).2.2.2.2,(ih b).2.2⟩)
    have h2:es.length*(83+jS d)<=3*(83+jS d):=Nat.mul_le_mul_right _ hl;omega
  ·split
   ·have hl:((List.range (n/2^2%3)).map fun k=>mt d ((n*40503%UU+k)%UU)).length<=3:=by
     rw [List.length_map,List.length_range];have:=Nat.mod_lt (n/2^2) (show 0<3 by omega);omega
    have hm:∀v∈((List.range (n/2^2%3)).map fun k=>mt d ((n*40503%UU+k)%UU)),∃b,v=mt d b:=fun v h=>by
     obtain⟨k,_,hk⟩:=List.mem_map.1 h;exact⟨_,hk.symm⟩
    generalize ((List.range (n/2^2%3)).map fun k=>mt d ((n*40503%UU+k)%UU))=vs at hl hm;refine⟨?_,?_,?_⟩
    ·simp only [Zs];exact jC vs fun v h=>by
      obtain⟨b,rfl⟩:=hm v h;exact (ih b).1
    ·simp only [Ux];have:=iL d vs (fun v h=>by
      obtain⟨b,rfl⟩:=hm v h;exact (ih b).2.1)
     omega
    ·simp only [kV,jS];have h1:=mX (jS d) vs (fun v h=>by
      obtain⟨b,rfl⟩:=hm v h;exact (ih b).2.2)
     have h2:vs.length*(43+jS d)<=3*(43+jS d):=Nat.mul_le_mul_right _ hl;omega
   ·refine⟨by simp [Zs],by simp [Ux],?_⟩;simp only [kV,jS,List.length_singleton];omega
theorem jW (n:Nat):OkX (Hp n)/\kX (Hp n)<=2000:=by
 obtain⟨h1,h2,h3,h4,h5⟩:=aF (n/2^3);obtain⟨h6,h7,h8⟩:=mt_ok 2 (n/2^12);have h9:jS 2=1125:=by decide
 unfold Hp;split
 ·exact⟨⟨h1,h2,by simp [Nr,Ux],fun h=>by simp [Hh] at h⟩,by simp only [kX,Cz,Nr,kV,List.length_nil];omega⟩
 ·exact⟨⟨h1,h2,by simp [Nr,Ux],fun h=>by simp [Hh] at h⟩,by simp only [kX,Cz,Nr,kV,List.length_nil];omega⟩
 ·exact⟨⟨h1,h2,by simp [Nr,Ux],fun h=>by simp [Hh] at h⟩,by simp only [kX,Cz,Nr,kV,List.length_nil];omega⟩
 ·exact⟨⟨h1,h2,by simp only [Nr];omega,fun _=>h6⟩,by simp only [kX,Cz,Nr];omega⟩
theorem Mz (l:List Nat):(∀x∈Gb l,OkX x/\kX x<=2000)/\(Gb l).length<=16:=by
 constructor
 ·intro x hx;obtain⟨n,_,rfl⟩:=List.mem_map.1 hx;exact jW n
 ·simp [Gb];omega
theorem aM (c:Nat):∀(es:List Ex),(∀x∈es,kX x<=c)->Ss es<=es.length*c
 | [],_=>by simp [Ss]
 | x::es,h=>by
  have h1:=h x (by simp);have h2:=aM c es (fun x hx=>h x (by simp [hx]));simp only [Ss,Ya,Nat.add_mul,Nat.one_mul];omega
end
section
attribute [local semireducible] WL WC X WD WX
theorem Wy {B t e s n m c:Nat} {v v':Value} {xs:List Value} {ad:Addr} {w w':World} (ty:TypeId) (news:List Value)
  (ht:Fx t=some (e,s)) (d:w.ownsRow B e s v n xs) (hl:news.length=m*s) (a:∀j u,news[j]?=some u->w.cell? (ad.add j)=some u) (h1:∀u∈news,Bp u=true)
  (hm:n+m<=1099511627776) (hr:(Builtin.append_ #[t,t] ty #[v,.slice (some ad) m c]).run PP w=.ok v' w'):
  (∀(k:Nat),k<w.heap.size->v.ownBlock≠some k->w'.heap[k]?=w.heap[k]?)/\(v'.ownBlock=v.ownBlock∨v'.ownBlock=some w.heap.size):=by
 obtain⟨i,z,hu,hi,hz,q,r,ab,h0⟩:=Ga ht;have l:∀u∈news,u.oneCell'=true:=fun u hu=>by
  have:=h1 u hu;cases u<;>first|rfl|(simp [Bp] at this)
 have o:(n+m)*i.bytes<=140737488355328:=by
  have:=Nat.mul_le_mul hm r;omega
 subst q;rcases d.2 with ⟨rfl,rfl⟩|⟨g,cap,cur,rfl,ac,hg,ae,af,x,y⟩
 ·by_cases aa:m=0
  ·subst aa;have hn:news=[]:=List.eq_nil_of_length_eq_zero (by simpa using hl);subst hn;have b:(Builtin.append_ #[t,t] ty #[.slice none 0 0,.slice (some ad) 0 c]).run PP w=.ok (.slice none 0 0) w:=by
    simp [Builtin.append_,run_underlying hu,sizeOf,typeInfo,hi,Builtin.lenOf,Builtin.firstCells,loadCells,loadCellsFrom]
   rw [b] at hr;cases hr;exact⟨fun _ _ _=>rfl,.inl rfl⟩
  ·have b:=run_append_nil (P:=PP) w t ty e i z hu hi hz ad m c news hl a (by omega) (by omega) (by simp only [Yi] at o;omega);rw [b] at hr;cases hr;exact⟨fun k hk _=>heap_alloc_old w.drew _ k hk,.inr rfl⟩
 ·by_cases f:n+m<=cap
  ·have p:n*i.size+news.length<=cur.size:=(by rw [hl,x,<-Nat.add_mul];exact Nat.mul_le_mul_right _ f);have b:=run_append_room (P:=PP) w t ty e i hu hi g n cap cur hg ad m c news hl a l f p;rw [b] at hr;cases hr;exact⟨fun k _ hk=>setRow_other w g k _ (fun e=>hk (by simp [Value.ownBlock,e])),.inl rfl⟩
  ·have h:∀j u,xs[j]?=some u->w.cell? ((⟨g,0,none⟩:Addr).add j)=some u:=d.cells (g:=g) rfl;have b:=run_append_grow (P:=PP) w t ty e i z hu hi hz ⟨g,0,none⟩ n cap xs d.1 h ad m c news hl a (by omega) (by omega) (growslice_fits (by omega) o);rw [b] at hr;cases hr;exact⟨fun k hk _=>heap_alloc_old w.drew _ k hk,.inr rfl⟩
theorem iR {B t e s n m c:Nat} {v:Value} {xs:List Value} {ad:Addr} {w:World} (ty:TypeId) (news:List Value)
  (ht:Fx t=some (e,s)) (b:w.ownsRow B e s v n xs) (hl:news.length=m*s) (a:∀j u,news[j]?=some u->w.cell? (ad.add j)=some u) (h1:∀u∈news,Bp u=true)
  (hm:n+m<=1099511627776) (hB:B<=w.heap.size):
  ∃v' w',(Builtin.append_ #[t,t] ty #[v,.slice (some ad) m c]).run PP w=.ok v' w'/\w'.ownsRow B e s v' (n+m) (xs++news)/\Fm B [e] w w'/\
   (∀(k:Nat),k<w.heap.size->v.ownBlock≠some k->w'.heap[k]?=w.heap[k]?)/\(v'.ownBlock=v.ownBlock∨v'.ownBlock=some w.heap.size):=by
 obtain⟨i,z,hu,hi,hz,f,g,h,h0⟩:=Ga ht;have d:∀u∈news,u.oneCell'=true:=fun u hu=>by
  have:=h1 u hu;cases u<;>first|rfl|(simp [Bp] at this)
 have l:(n+m)*i.bytes<=140737488355328:=by
  have:=Nat.mul_le_mul hm g;omega
 obtain⟨v',w',hr,h2,h3,h4⟩:=run_append_own (P:=PP) w B t ty e i z s i.bytes hu hi hz f rfl h h0 v n xs b ad m c news hl a d (by simp only [maxLen];omega) l hB;obtain⟨h5,h6⟩:=Wy ty news ht b hl a h1 hm hr;exact⟨v',w',hr,h2,Tf ty news ht b hl a h1 hm hB hr,h5,h6⟩
section steps
variable {all:List Oper} {Q:Exit->Act->World->Prop} {N:Nat} {L L':Env} {o:Oper} {rest:List Oper} {w:World} {S:World->Prop}
theorem apRunO {B t e s n m c:Nat} {v:Value} {xs:List Value} {ad:Addr} (news:List Value) (h:nR L o.op=some (t,v,.slice (some ad) m c))
  (ht:Fx t=some (e,s)) (d:w.ownsRow B e s v n xs) (hl:news.length=m*s) (b:∀j u,news[j]?=some u->w.cell? (ad.add j)=some u) (h1:∀u∈news,Bp u=true)
  (hm:n+m<=1099511627776) (hB:B<=w.heap.size):
  ∃v' w',(∀a,Fr N L a->(execOp a.eval o).run PP w=.ok (.value v') w')/\w'.ownsRow B e s v' (n+m) (xs++news)/\Fm B [e] w w'/\
   (∀(k:Nat),k<w.heap.size->v.ownBlock≠some k->w'.heap[k]?=w.heap[k]?)/\(v'.ownBlock=v.ownBlock∨v'.ownBlock=some w.heap.size):=by
 obtain⟨i,z,hu,hi,hz,g,l,p,h0⟩:=Ga ht;have f:∀u∈news,u.oneCell'=true:=fun u hu=>by
  have:=h1 u hu;cases u<;>first|rfl|(simp [Bp] at this)
 have q:(n+m)*i.bytes<=140737488355328:=by
  have:=Nat.mul_le_mul hm l;omega
 obtain⟨v',w',hr,h2,h3,h4⟩:=run_append_own (P:=PP) w B t o.type e i z s i.bytes hu hi hz g rfl p h0 v n xs d ad m c news hl b f (by simp only [maxLen];omega) q hB;obtain⟨h5,h6⟩:=Wy o.type news ht d hl b h1 hm hr;exact⟨v',w',fun a hf=>by rw [Gi hf h];simp [hr],h2,Tf o.type news ht d hl b h1 hm hB hr,h5,h6⟩
theorem Qo {B t e s n m c:Nat} {v:Value} {xs:List Value} {ad:Addr} (news:List Value) (hg:Ez all L o=some true) (h:nR L o.op=some (t,v,.slice (some ad) m c))
  (ht:Fx t=some (e,s)) (b:w.ownsRow B e s v n xs) (hl:news.length=m*s) (a:∀j u,news[j]?=some u->w.cell? (ad.add j)=some u) (h1:∀u∈news,Bp u=true)
  (hm:n+m<=1099511627776) (hB:B<=w.heap.size)
  (k:∀v' w',w'.ownsRow B e s v' (n+m) (xs++news)->Fm B [e] w w'->(∀(k:Nat),k<w.heap.size->v.ownBlock≠some k->w'.heap[k]?=w.heap[k]?)->(v'.ownBlock=v.ownBlock∨v'.ownBlock=some w.heap.size)->∃L',Cu N o v' L=some L'/\WL all Q N L' rest w'):WL all Q N L (o::rest) w:=by
 obtain⟨v',w',hr,h2,h3,h4,h5⟩:=apRunO (N:=N) news h ht b hl a h1 hm hB;obtain⟨L',hd,hk⟩:=k v' w' h2 h3 h4 h5;exact Ca hg hr hd hk
end steps
def Cc (P P':Nat->Prop) (w w':World):Prop:=∀b o,P b->w.heap[b]?=some o->(Ce o=9∨Ce o=37)->w'.heap[b]?=some o/\P' b
theorem RS.move {w w':World} {P P':Nat->Prop} {v:Value} {ks:List Bs} (hk:Cc P P' w w') (h:RS w P v ks):RS w' P' v ks:=by
 obtain⟨ad,cap,h1,h2⟩:=h;refine⟨ad,cap,h1,fun a=>?_⟩;obtain⟨b,dc,fz,hp,h3,h4,h5⟩:=h2 a;obtain⟨q1,q2⟩:=hk b _ hp.1 h4 (.inl rfl);exact⟨b,dc,fz,⟨q2,hp.2⟩,h3,q1,h5⟩
mutual
theorem Nd.move {w w':World} {P P':Nat->Prop} (hk:Cc P P' w w'):∀(v:Bz) (a b c:Value),Nd w P v a b c->Nd w' P' v a b c
 | .sc _ _,a,b,c,h=>by simpa only [Nd] using h
 | .arr vs,a,b,c,h=>by
  simp only [Nd] at h ⊢;obtain⟨h1,h2,ad,cap,h3,h4⟩:=h;refine⟨h1,h2,ad,cap,h3,fun hne=>?_⟩;obtain⟨g,cur,hp,h5,h6,h7⟩:=h4 hne;obtain⟨q1,q2⟩:=hk g _ hp h6 (.inr rfl);exact⟨g,cur,q2,h5,q1,Ee.move hk vs cur h7⟩
 | .tbl es,a,b,c,h=>by
  simp only [Nd] at h ⊢;obtain⟨h1,h2,ad,cap,h3,h4⟩:=h;refine⟨h1,h2,ad,cap,h3,fun hne=>?_⟩;obtain⟨g,cur,hp,h5,h6,h7⟩:=h4 hne;obtain⟨q1,q2⟩:=hk g _ hp h6 (.inr rfl);exact⟨g,cur,q2,h5,q1,Dy.move hk es cur h7⟩
theorem Ee.move {w w':World} {P P':Nat->Prop} (hk:Cc P P' w w'):∀(vs:List Bz) (l:List Value),Ee w P vs l->Ee w' P' vs l
 | [],_,_=>trivial
 | v::vs,l,h=>by
  simp only [Ee] at h ⊢;obtain⟨a,b,c,d,r,h1,h2,h3,h4⟩:=h;exact⟨a,b,c,d,r,h1,Nd.move hk v a b c h2,RS.move hk h3,Ee.move hk vs r h4⟩
theorem Dy.move {w w':World} {P P':Nat->Prop} (hk:Cc P P' w w'):∀(es:List (List Bs×Bz)) (l:List Value),Dy w P es l->Dy w' P' es l
 | [],_,_=>trivial
 | (ks,v)::es,l,h=>by
  simp only [Dy] at h ⊢;obtain⟨a,b,c,d,r,h1,h2,h3,h4⟩:=h;exact⟨a,b,c,d,r,h1,Nd.move hk v a b c h2,RS.move hk h3,Dy.move hk es r h4⟩
end
theorem Xj.move {w w':World} {P P':Nat->Prop} (hk:Cc P P' w w') {x:Ex} {a b c:Value} (h:Xj w P x a b c):Xj w' P' x a b c:=by
 obtain⟨v,h1,h2⟩:=h;exact⟨v,h1,Nd.move hk _ _ _ _ h2⟩
theorem Dp.move {w w':World} {P P':Nat->Prop} (hk:Cc P P' w w'):∀(es:List Ex) (l:List Value),Dp w P es l->Dp w' P' es l
 | [],_,_=>trivial
 | x::es,l,h=>by
  obtain⟨kv,a,b,c,d,r,h1,h2,h3,h4,h5⟩:=h;exact⟨kv,a,b,c,d,r,h1,RS.move hk h2,h3.move hk,RS.move hk h4,Dp.move hk es r h5⟩
theorem Cc.up {P P':Nat->Prop} {w w':World} (hu:Up w.heap.size w w') (hp:∀b,P b->b<w.heap.size->P' b):Cc P P' w w':=fun b o hb ho _=>
 ⟨hu.at (Ah ho) ho,hp b hb (Ah ho)⟩
theorem RS.own {B:Nat} {w:World} {v:Value} {ks:List Bs} (h:w.ownsRow B 9 1 v ks.length (ks.map Bm)):RS w (fun b=>B<=b) v ks:=by
 rcases h.2 with ⟨rfl,hn⟩|⟨g,cap,cur,rfl,hb,hg,hc,hm,hs,ht⟩
 ·have:ks=[]:=List.eq_nil_of_length_eq_zero hn;subst this;exact⟨none,0,rfl,fun h=>absurd rfl h⟩
 ·refine⟨_,cap,rfl,fun _=>⟨g,cur,(0,0),⟨hb,hc⟩,rfl,hg,fun i k hk=>?_⟩⟩;have h1:(cur.toList.take (ks.length*1))[i]?=some (Bm k):=(by rw [ht,List.getElem?_map,hk];rfl);rw [List.getElem?_take] at h1;split at h1
  ·simpa using h1
  ·cases h1
theorem Kx {B e s n:Nat} {w:World} {v:Value} {xs:List Value} (h:w.ownsRow B e s v n xs) (hn:n≠0):∃g cap cur,v=.slice (F g) n cap/\B<=g/\w.heap[g]?=some (.cells ⟨xs++cur⟩ e (0,0)):=by
 rcases h.2 with ⟨_,h0⟩|⟨g,cap,cur,rfl,hb,hg,hc,hm,hs,ht⟩
 ·exact absurd h0 hn
 ·refine⟨g,cap,cur.toList.drop (n*s),rfl,hb,?_⟩;have e1:xs++cur.toList.drop (n*s)=cur.toList:=(by rw [<-ht,List.take_append_drop]);rw [e1];exact hg
theorem Ee.more {w:World} {P:Nat->Prop}:∀{vs:List Bz} {l:List Value} (r:List Value),Ee w P vs l->Ee w P vs (l++r)
 | [],_,_,_=>trivial
 | v::vs,l,r,h=>by
  simp only [Ee] at h ⊢;obtain⟨a,b,c,d,l',rfl,h2,h3,h4⟩:=h;exact⟨a,b,c,d,l'++r,rfl,h2,h3,Ee.more r h4⟩
theorem Dy.more {w:World} {P:Nat->Prop}:∀{es:List (List Bs×Bz)} {l:List Value} (r:List Value),Dy w P es l->Dy w P es (l++r)
 | [],_,_,_=>trivial
 | (ks,v)::es,l,r,h=>by
  simp only [Dy] at h ⊢;obtain⟨a,b,c,d,l',rfl,h2,h3,h4⟩:=h;exact⟨a,b,c,d,l'++r,rfl,h2,h3,Dy.more r h4⟩
theorem Dp.more {w:World} {P:Nat->Prop}:∀{es:List Ex} {l:List Value} (r:List Value),Dp w P es l->Dp w P es (l++r)
 | [],_,_,_=>trivial
 | x::es,l,r,h=>by
  obtain⟨kv,a,b,c,d,l',rfl,h2,h3,h4,h5⟩:=h;exact⟨kv,a,b,c,d,l'++r,rfl,h2,h3,h4,Dp.more r h5⟩
attribute [local irreducible] WL WC X WD WX
attribute [local irreducible] binOp IntKind.wrap Sem.run
theorem fI (n:Nat) (w:World):Calls PP 13 #[.int .u32 (n:Int)] w fun e w'=>e=.returned (Bm (nm n))/\Fm w.heap.size [] w w':=by
 refine Bf (L:=[(0,.int .u32 (n:Int))]) Tryz.func13 Z Z Z ⟨Z,V⟩ ?_;repeat first|refine Aa Z ?_|apply Ab|apply Ac
 refine Ec Z Z (bsS4 [97] [98] [99] []) Z (fun w1 hA=>?_);have hm:n%4<4:=Nat.mod_lt _ (by omega);have hc:w1.cell? ⟨w.heap.size,n%4,none⟩=some (Bm (nm n)):=by
  refine Ar hA.at_ (Nu ?_);unfold nm;rcases (by omega:n%4=0∨n%4=1∨n%4=2∨n%4=3) with h|h|h|h<;>rw [h]<;>rfl
 repeat first|refine Aa Z ?_|apply Ab|refine Bo Z Z (dD n 4 (by omega) _ _) Z ?_|refine Ax (i:=n%4) Z Z Z hm (by rw [Yi,Nat.mul_one];rfl) ?_|refine Aw Z Z hc Z ?_|apply Ai
 exact Ak Z Z ⟨rfl,hA.fm Y⟩
theorem bsS0 (w:World):(Instr.buildSlice 34 0 ⟨[]⟩).run PP w=.ok (.slice (F w.heap.size) 0 0) (w.alloc (.cells #[] 9 (0,0))):=by kernel_rfl
theorem lE (a:Bs) (w:World):(Instr.buildSlice 34 1 ⟨[(0,Bm a)]⟩).run PP w=.ok (.slice (F w.heap.size) 1 1) (w.alloc (.cells (Dq [a]) 9 (0,0))):=by kernel_rfl
theorem To (n:Nat) (w:World):Calls PP 18 #[.int .u32 (n:Int)] w fun e w'=>∃v,e=.returned v/\RS w' (fun b=>w.heap.size<=b) v (Pi n)/\Up w.heap.size w w':=by
 have h3:n%3<3:=Nat.mod_lt _ (by omega);refine Bf (L:=[(0,.int .u32 (n:Int))]) Tryz.func18 Z Z Z ⟨Z,V⟩ ?_;repeat first|refine Aa Z ?_|apply Ab|apply Ac
 refine Ec Z Z bsS0 Z (fun w1 hA=>?_);have hU:Up w.heap.size w w1:=hA.up Y;have hO:w1.ownsRow w.heap.size 9 1 (.slice (F w.heap.size) 0 0) 0 []:=⟨rfl,.inr ⟨w.heap.size,0,#[],rfl,Nat.le_refl _,hA.at_,Nat.le_refl _,by simp only [maxLen];omega,rfl,rfl⟩⟩;repeat first|refine Aa Z ?_|apply Ab|apply Ac|refine Bo Z Z (dD n 3 (by omega) _ _) Z ?_|refine Qp Z Z (by omega) Z ?_|apply Ad|apply Ag
 refine Bg (σ:=Nat×Value) (I:=fun s w'=>w'.ownsRow w.heap.size 9 1 s.2 s.1 (((List.range s.1).map fun k=>nm (n/2^(2+2*k))).map Bm)/\Up w.heap.size w w'/\s.1<=1+n%3)
  (m:=fun s=>1+n%3-s.1) (Lf:=fun s=>[(0,.int .u32 (n:Int)),(3,s.2),(8,.int .u32 (1+((n%3:Nat):Int))),(9,.int .u32 (s.1:Int))])
  (0,.slice (F w.heap.size) 0 0) ⟨hO,hU,Nat.zero_le _⟩ ⟨Z,Z,Z,Z,V⟩ ?_
 clear hA hU hO;rintro⟨k,v⟩ w2 ⟨hO,hU,hk⟩;dsimp only at hO hk ⊢;by_cases r:k<1+n%3
 ·(repeat first|refine Aa Z ?_|apply Ab|apply Ac|refine Ao Z (by first|omega|decide) ?_|refine iY Z Z (Hl (by simp only [Te];omega)) Z ?_|apply Ad|apply Am|apply Ag|apply An|apply Af);have d:=Yk n (2+2*k) (by omega) 29 w2 .u32;refine Bo Z Z (by rw [Int.natCast_add,Int.natCast_mul] at d;exact d) Z ?_;refine Ae Z Z Z (fI (n/2^(2+2*k)) w2) ?_;rintro e w3 ⟨rfl,c⟩;refine T2 Z Z ?_;refine Ec Z Z (lE _) Z (fun w4 a=>?_);have f:w4.ownsRow w.heap.size 9 1 v k (((List.range k).map fun k=>nm (n/2^(2+2*k))).map Bm):=Bi hO (fun b o hb h=>a.keep (c.keep _ _ h (by simp)));have g:=hU.size;have q:=c.size;refine iZ (m:=1) [Bm (nm (n/2^(2+2*k)))] Z Z (rfl:Fx 34=some (9,1)) f Z (fun j u hu=>?_) (fun u hu=>?_) (by omega) (by rw [a.size];omega) (fun v' w5 i l _=>?_)
  ·rw [Dw];exact Ar a.at_ (by simpa using hu)
  ·simp only [List.mem_singleton] at hu;subst hu;rfl
  refine⟨_,rfl,?_⟩;(repeat first|refine Aa Z ?_|refine Qp Z Z (by omega) Z ?_|apply Am|apply Aq|apply An|apply Bj);refine Ap (k+1,v') ⟨?_,((hU.trans (c.up.mono g)).trans (a.up (by omega))).trans l,by dsimp only;omega⟩ (by dsimp only;omega) ⟨Z,Z,Z,Z,V⟩;dsimp only;rw [Py,List.map_append];exact i
 ·have p:k=1+n%3:=(by omega);subst p;(repeat first|refine Aa Z ?_|apply Ab|apply Ac|refine Aj Z (by first|omega|decide) ?_|apply Ad|apply An|apply Cn|apply Ci|apply Ba|apply Ai);refine Ak Z Z ⟨v,rfl,?_,hU⟩;refine RS.own (ks:=Pi n) ?_;have hl:(Pi n).length=1+n%3:=(by simp [Pi]);rw [hl];exact hO
end
section
attribute [local irreducible] binOp IntKind.wrap Sem.run
theorem Cc.trans {P P' P'':Nat->Prop} {a b c:World} (h:Cc P P' a b) (g:Cc P' P'' b c):Cc P P'' a c:=fun k o hp ho ht=>
 let ⟨q1,q2⟩:=h k o hp ho ht
 g k o q2 q1 ht
theorem bd7 (w:World):(Instr.build 37 ⟨[(0,.int .i64 1),(1,Bm [55])]⟩).run PP w=.ok (.agg ⟨[.int .i64 1,Bm [55],.slice none 0 0,.slice none 0 0]⟩) w:=by kernel_rfl
theorem bX (k:Int) (w:World):(Instr.build 37 ⟨[(0,.int .i64 k)]⟩).run PP w=.ok (.agg ⟨[.int .i64 k,Bm [],.slice none 0 0,.slice none 0 0]⟩) w:=by kernel_rfl
theorem Wv (a b c d:Value) (w:World):(Instr.buildSlice 35 1 ⟨[(0,.agg ⟨[a,b,c,d]⟩)]⟩).run PP w=.ok (.slice (F w.heap.size) 1 1) (w.alloc (.cells ⟨[a,b,c,d]⟩ 37 (0,0))):=by kernel_rfl
theorem RS.nil (w:World) (P:Nat->Prop):RS w P (.slice none 0 0) []:=⟨none,0,rfl,fun h=>absurd rfl h⟩
def MtC (d:Nat):Prop:=∀(n:Nat) (w:World),n<UU->Calls PP 14 #[.int .u32 (n:Int),.int .i64 (d:Int)] w fun e w'=>
 ∃a b c d',e=.returned (.agg ⟨[a,b,c,d']⟩)/\Nd w' (fun g=>w.heap.size<=g) (mt d n) a b c/\RS w' (fun g=>w.heap.size<=g) d' []/\Up w.heap.size w w'
theorem nd7 (w:World) (P:Nat->Prop):Nd w P (.sc 1 [55]) (.int .i64 1) (Bm [55]) (.slice none 0 0):=by
 rw [Nd];exact⟨rfl,rfl,none,0,rfl⟩
theorem Cc.ap {P:Nat->Prop} {w w':World} {nb:Nat} {ev ev':Value} (h1:∀(k:Nat),k<w.heap.size->ev.ownBlock≠some k->w'.heap[k]?=w.heap[k]?) (h2:ev'.ownBlock=ev.ownBlock∨ev'.ownBlock=some w.heap.size)
  (hp:∀b,P b->nb<b/\ev.ownBlock≠some b):Cc P (fun b=>nb<b/\ev'.ownBlock≠some b) w w':=fun b o hb ho _=>by
 obtain⟨q1,q2⟩:=hp b hb;have a:=Ah ho;refine⟨by rw [h1 b a q2];exact ho,q1,?_⟩;rcases h2 with e|e
 ·rw [e];exact q2
 ·rw [e];intro h;simp only [Yb] at h;omega
theorem Cc.st {P:Nat->Prop} {w w':World} {nb:Nat} {o:Obj} (hS:St w nb o w') (hp:∀b,P b->nb<b):Cc P P w w':=fun b _ hb ho _=>
 ⟨hS.keep ho (by have:=hp b hb;omega),hb⟩
theorem mL (d:Nat) (hd:d<=5) (ih:MtC d):MtC (d+1):=by
 intro n w hn;refine Bf (L:=[(0,.int .u32 (n:Int)),(1,.int .i64 ((d+1:Nat):Int))]) Tryz.func14 Z Z Z ⟨Z,Z,V⟩ ?_;repeat (apply Ac)
 refine Dk Z Z Z (fun w1 hA=>?_);have ao:Up w.heap.size w w1:=hA.up Y;have aq:=hA.at_;have ch:=hA.size;generalize hB:w.heap.size=B at *;clear hA;by_cases h0:n%4=0
 ·have ar:mt (d+1) n=.tbl ((List.range (n/2^2%4)).map fun k=>(Pi ((n/2^4+k*977%UU)%UU),mt d ((n*2654435761%UU+k)%UU))):=(by simp [mt,h0]);rw [ar];have cm:n/2^2%4<4:=Nat.mod_lt _ (by omega);(repeat first|refine Aa Z ?_|apply Ab|apply Ac|refine Ao Z (by first|omega|decide) ?_|refine Bo Z Z (dD n 4 (by omega) _ _) Z ?_|refine Au Z ?_|apply Ad|apply Ag|refine Bc Z Z (by first|omega|decide) ?_);refine Cx Z Z (bX _) Z ?_;refine Dk Z Z Z (fun w2 v=>?_);refine Bx Z Z Z (by simp [Bp]) v.at_ (by simp) Z (fun w3 f=>?_);have ae:w3.heap[w1.heap.size]?=some (.cells ⟨[.int .i64 9,Bm [],.slice none 0 0,.slice none 0 0]⟩ 37 (0,0)):=(by simpa using f.at_);have x:=f.keep (v.keep aq) (by omega);have p:Up B w w3:=(ao.trans (v.up (by omega))).trans (f.up (by omega));have y:w3.heap.size=w1.heap.size+1:=(by rw [f.size,v.size]);generalize bx:w1.heap.size=nb at *;clear f v;(repeat first|refine Aa Z ?_|apply Ab|apply Ac|refine Bo Z Z (Yk n 2 (by omega) _ _ _) Z ?_|apply Ad);refine Bo Z Z (dD _ 4 (by omega) _ _) Z ?_;(repeat first|refine Aa Z ?_|apply Ab|apply Ag);refine Bg (σ:=Nat×Value) (I:=fun s w'=>(∃xs,w'.ownsRow (nb+1) 37 4 s.2 s.1 xs/\Dy w' (fun b=>nb<b/\s.2.ownBlock≠some b) ((List.range s.1).map fun k=>(Pi ((n/2^4+k*977%UU)%UU),mt d ((n*2654435761%UU+k)%UU))) xs)/\
   w'.heap[nb]?=some (.cells ⟨[.int .i64 9,Bm [],s.2,.slice none 0 0]⟩ 37 (0,0))/\w'.heap[B]?=some (.cells ⟨[.int .i64 0,Bm [],.slice none 0 0,.slice none 0 0]⟩ 37 (0,0))/\Up B w w'/\s.1<=n/2^2%4)
   (m:=fun s=>n/2^2%4-s.1) (Lf:=fun s=>[(0,.int .u32 (n:Int)),(1,.int .i64 ((d+1:Nat):Int)),(4,.pointer (F B)),(5,.pointer (F nb)),(21,.int .u32 ((n/2^2%4:Nat):Int)),(22,.int .u32 (s.1:Int))])
   (0,.slice none 0 0) ⟨⟨[],World.ownsRow_nil w3 _ _ _,by simp [Dy]⟩,ae,x,p,Nat.zero_le _⟩ ⟨Z,Z,Z,Z,Z,Z,V⟩ ?_
  clear ae x p y ao aq w3;rintro⟨k,ev⟩ w2 ⟨⟨xs,hO,hN⟩,hb,hr,hU,hk⟩;dsimp only at hO hN hb hk ⊢;have al:B<=w2.heap.size:=(by rw [<-hB];exact hU.size);have z:=Ah hb;by_cases bz:k<n/2^2%4
  ·(repeat first|refine Aa Z ?_|apply Ab|apply Ac|refine Ao Z (by first|omega|decide) ?_|refine Bo Z Z (mulU n 2654435761 _ _) Z ?_|apply Ad|apply Ag|apply An|apply Af);refine Bo Z Z (addU _ k _ _) Z ?_;(repeat first|refine Aa Z ?_|refine Fs Z Z (by omega) Z ?_);have ab:=ih ((n*2654435761%UU+k)%UU) w2 (Nat.mod_lt _ (by decide));have e1:(((d+1:Nat):Int)-1)=(d:Int):=(by omega);rw [e1];refine Ae Z Z Z ab ?_;rintro e w3 ⟨a,b,c,kv0,rfl,aa,ad,p⟩;refine T2 Z Z ?_;obtain⟨o1,o2,o3,_⟩:=aa.one;have o4:=ad.one;refine Dk Z Z Z (fun w4 aw=>?_);refine Bx Z Z Z (by simp [o1,o2,o3,o4]) aw.at_ (by simp) Z (fun w5 ax=>?_);have ca:w5.heap[w3.heap.size]?=some (.cells ⟨[a,b,c,kv0]⟩ 37 (0,0)):=(by simpa using ax.at_);have y:=p.size;have bm:Up w3.heap.size w3 w5:=(aw.up Y).trans (ax.up Y);have ci:w5.heap.size=w3.heap.size+1:=(by rw [ax.size,aw.size]);generalize cb:w3.heap.size=tb at *;clear aw ax;(repeat first|refine Aa Z ?_|apply Ab|apply Ac|refine Bo Z Z (Yk n 4 (by omega) _ _ _) Z ?_);refine Bo Z Z (mulU k 977 _ _) Z ?_;refine Bo Z Z (addU _ _ _ _) Z ?_;refine Ae Z Z Z (To ((n/2^4+k*977%UU)%UU) w5) ?_;rintro e w6 ⟨kv,rfl,bn,bc⟩;refine T2 Z Z ?_;have cc:=bc.at (by omega) ca;have o5:=bn.one;(repeat (refine Aa Z ?_));refine Bk Z Z o5 cc Z Z (fun w7 ay=>?_);have cd:w7.heap[tb]?=some (.cells ⟨[a,b,c,kv]⟩ 37 (0,0)):=ay.at_;have cj:=bc.size;have ck:=ay.size;have ba:Up tb w3 w7:=(bm.trans (bc.mono (by omega))).trans (ay.up Y);have af:Up w2.heap.size w2 w7:=p.trans (ba.mono y);have bo:RS w7 (fun g=>w5.heap.size<=g) kv (Pi ((n/2^4+k*977%UU)%UU)):=bn.keep fun g o hg ho _=>ay.keep ho (by omega);have bp:Nd w7 (fun g=>w2.heap.size<=g) _ a b c:=Nd.move (Cc.up (by rw [cb];exact ba) (fun b h _=>h)) _ _ _ _ aa;have au:=af.at (Ah hb) hb;have ce:=af.at (Ah hr) hr;have cf:w7.ownsRow (nb+1) 37 4 ev k xs:=Bi hO (fun g o hg h=>af.at (Ah h) h);have cg:=Dy.move (Cc.up (P':=fun b=>nb<b/\ev.ownBlock≠some b) af (fun b h _=>h)) _ _ hN;have ag:∀g,ev.ownBlock=some g->g<w2.heap.size:=fun g hg=>(hO.lt g hg).2;(repeat first|refine Aa Z ?_|apply Ab|refine Av (b:=nb) (i:=2) Z Z au Z Z ?_|refine Fz (b:=tb) Z Z cd Z Z ?_|apply Am);refine Ec Z Z (Wv _ _ _ _) Z (fun w8 l=>?_);have ai:w8.ownsRow (nb+1) 37 4 ev k xs:=Bi cf (fun g o hg h=>l.keep h);have bq:∀(P:Nat->Prop),Cc P P w7 w8:=fun P=>Cc.up (l.up Y) (fun b h _=>h);have cl:=Ah au;refine Qo (m:=1) [a,b,c,kv] Z Z (rfl:Fx 35=some (37,4)) ai Z (fun j u hu=>?_) (fun u hu=>?_) (by omega) (by rw [l.size];omega) (fun ev' w9 aj bd ak be=>?_)
   ·rw [Dw];exact Ar l.at_ (by simpa using hu)
   ·simp only [List.mem_cons,List.not_mem_nil,or_false] at hu;rcases hu with rfl|rfl|rfl|rfl<;>assumption
   have am:w9.heap[nb]?=some (.cells ⟨[.int .i64 9,Bm [],ev,.slice none 0 0]⟩ 37 (0,0)):=by
    have:=l.keep au;rw [ak nb (Ah this) (fun h=>by have:=(ai.lt nb h).1;omega)];exact this
   have bf:w9.heap[B]?=some (.cells ⟨[.int .i64 0,Bm [],.slice none 0 0,.slice none 0 0]⟩ 37 (0,0)):=by
    have:=l.keep ce;rw [ak B (Ah this) (fun h=>by have:=(ai.lt B h).1;omega)];exact this
   have r:Bp ev'=true:=by
    rcases aj.2 with ⟨rfl,_⟩|⟨g,cap,cur,rfl,_⟩<;>rfl
   refine⟨_,rfl,?_⟩;(repeat (refine Aa Z ?_));refine Bk Z Z r am Z Z (fun t q=>?_);have br:t.ownsRow (nb+1) 37 4 ev' (k+1) (xs++[a,b,c,kv]):=Bi aj (fun g o hg h=>q.keep h (by have:=(aj.lt g hg).1;omega));have mvA:∀(P:Nat->Prop),(∀b,P b->nb<b/\ev.ownBlock≠some b)->Cc P (fun b=>nb<b/\ev'.ownBlock≠some b) w7 t:=fun P hP=>((bq P).trans (Cc.ap ak be hP)).trans (Cc.st q (fun b h=>h.1));have bs:Dy t (fun b=>nb<b/\ev'.ownBlock≠some b) ((List.range (k+1)).map fun k=>(Pi ((n/2^4+k*977%UU)%UU),mt d ((n*2654435761%UU+k)%UU))) (xs++[a,b,c,kv]):=by
    rw [Py];refine Dy.snoc (Dy.move (mvA _ (fun b h=>h)) _ _ cg) (by rw [hO.1];simp) (Nd.move (mvA _ (fun b h=>⟨by omega,fun e=>by have:=ag b e;omega⟩)) _ _ _ _ bp) (RS.move (mvA _ (fun b h=>⟨by omega,fun e=>by have:=ag b e;omega⟩)) bo)
   have bt:Up B w t:=((hU.trans (af.mono al)).trans (l.up (by omega))).trans ((bd.up.mono (by omega)).trans (q.up (by omega)));(repeat first|refine Aa Z ?_|refine Qp Z Z (by omega) Z ?_|apply Am|apply Aq|apply An|apply Bj);exact Ap (k+1,ev') ⟨⟨_,br,bs⟩,q.at_,q.keep bf (by omega),bt,by dsimp only;omega⟩ (by dsimp only;omega) ⟨Z,Z,Z,Z,Z,Z,V⟩
  ·have bg:k=n/2^2%4:=(by omega);subst bg;have r:Bp ev=true:=by
    rcases hO.2 with ⟨rfl,_⟩|⟨g,cap,cur,rfl,_⟩<;>rfl
   (repeat first|refine Aa Z ?_|apply Ab|apply Ac|refine Aj Z (by first|omega|decide) ?_|refine Fz (b:=nb) Z Z hb Z Z ?_|apply Ad|apply An|apply Cn|apply Ci|apply Ba);refine Bx Z Z Z (by simpa [Bp] using r) hr (by simp) Z (fun w3 f=>?_);have p:Up B w w3:=hU.trans (f.up Y);have x:w3.heap[B]?=some (.cells ⟨[.int .i64 9,Bm [],ev,.slice none 0 0]⟩ 37 (0,0)):=(by simpa using f.at_);(repeat first|apply Ab|apply Bl|apply Bv|apply Ai);refine Ch Z Z Z x Z ⟨_,_,_,_,rfl,?_,RS.nil _ _,p⟩;have av:w3.ownsRow (nb+1) 37 4 ev (n/2^2%4) xs:=Bi hO (fun g o hg h=>f.keep h (by have:=(hO.lt g hg).1;omega));have bh:Dy w3 (fun g=>B<=g) _ xs:=Dy.move (P':=fun g=>B<=g) (fun b o hb ho _=>⟨f.keep ho (by have:=hb.1;omega),by have:=hb.1;omega⟩) _ _ hN;rw [Nd];refine⟨rfl,rfl,?_⟩;rw [List.length_map,List.length_range];by_cases hz:n/2^2%4=0
   ·rcases av.2 with ⟨rfl,_⟩|⟨g,cap,cur,rfl,_⟩
    ·exact⟨none,0,by rw [hz],fun h=>by simp [hz] at h⟩
    ·exact⟨_,cap,rfl,fun h=>by simp [hz] at h⟩
   ·obtain⟨g,cap,cur,rfl,hg,bi⟩:=Kx av hz;exact⟨_,cap,rfl,fun _=>⟨g,xs++cur,by omega,rfl,bi,Dy.more cur bh⟩⟩
 ·by_cases h1:n%4=1
  ·have ar:mt (d+1) n=.arr ((List.range (n/2^2%3)).map fun k=>mt d ((n*40503%UU+k)%UU)):=(by simp [mt,h1]);rw [ar];have cn:n/2^2%3<3:=Nat.mod_lt _ (by omega);(repeat first|refine Aa Z ?_|apply Ab|apply Ac|refine Ao Z (by first|omega|decide) ?_|refine Aj Z (by first|omega|decide) ?_|refine Bo Z Z (dD n 4 (by omega) _ _) Z ?_|refine Au Z ?_|apply Ad|apply Ag|refine Bc Z Z (by first|omega|decide) ?_);refine Cx Z Z (bX _) Z ?_;refine Dk Z Z Z (fun w2 v=>?_);refine Bx Z Z Z (by simp [Bp]) v.at_ (by simp) Z (fun w3 f=>?_);have ae:w3.heap[w1.heap.size]?=some (.cells ⟨[.int .i64 8,Bm [],.slice none 0 0,.slice none 0 0]⟩ 37 (0,0)):=(by simpa using f.at_);have x:=f.keep (v.keep aq) (by omega);have p:Up B w w3:=(ao.trans (v.up (by omega))).trans (f.up (by omega));have y:w3.heap.size=w1.heap.size+1:=(by rw [f.size,v.size]);generalize bx:w1.heap.size=nb at *;clear f v;(repeat first|refine Aa Z ?_|apply Ab|apply Ac|refine Bo Z Z (Yk n 2 (by omega) _ _ _) Z ?_|apply Ad);refine Bo Z Z (dD _ 3 (by omega) _ _) Z ?_;(repeat first|refine Aa Z ?_|apply Ab|apply Ag);refine Bg (σ:=Nat×Value) (I:=fun s w'=>(∃xs,w'.ownsRow (nb+1) 37 4 s.2 s.1 xs/\Ee w' (fun b=>nb<b/\s.2.ownBlock≠some b) ((List.range s.1).map fun k=>mt d ((n*40503%UU+k)%UU)) xs)/\
    w'.heap[nb]?=some (.cells ⟨[.int .i64 8,Bm [],s.2,.slice none 0 0]⟩ 37 (0,0))/\w'.heap[B]?=some (.cells ⟨[.int .i64 0,Bm [],.slice none 0 0,.slice none 0 0]⟩ 37 (0,0))/\Up B w w'/\s.1<=n/2^2%3)
    (m:=fun s=>n/2^2%3-s.1) (Lf:=fun s=>[(0,.int .u32 (n:Int)),(1,.int .i64 ((d+1:Nat):Int)),(4,.pointer (F B)),(8,.pointer (F nb)),(58,.int .u32 ((n/2^2%3:Nat):Int)),(59,.int .u32 (s.1:Int))])
    (0,.slice none 0 0) ⟨⟨[],World.ownsRow_nil w3 _ _ _,by simp [Ee]⟩,ae,x,p,Nat.zero_le _⟩ ⟨Z,Z,Z,Z,Z,Z,V⟩ ?_
   clear ae x p y ao aq w3;rintro⟨k,ev⟩ w2 ⟨⟨xs,hO,hN⟩,hb,hr,hU,hk⟩;dsimp only at hO hN hb hk ⊢;have al:B<=w2.heap.size:=(by rw [<-hB];exact hU.size);have z:=Ah hb;by_cases bz:k<n/2^2%3
   ·(repeat first|refine Aa Z ?_|apply Ab|apply Ac|refine Ao Z (by first|omega|decide) ?_|apply Ad|apply Ag|apply An|apply Af);refine Hi (fun _=>True) ?_;have bj:Up B w w2.drew:=hU.drew;have an:w2.drew.heap[nb]?=_:=hb;have bk:w2.drew.heap[B]?=_:=hr;have az:w2.drew.ownsRow (nb+1) 37 4 ev k xs:=Bi hO (fun _ _ _ h=>h);have bu:=Ee.move (P:=fun b=>nb<b/\ev.ownBlock≠some b) (P':=fun b=>nb<b/\ev.ownBlock≠some b) (w:=w2) (w':=w2.drew) (fun b o hb ho _=>⟨ho,hb⟩) _ _ hN;generalize w2.drew=w2 at bj an bk az bu;have al:B<=w2.heap.size:=(by rw [<-hB];exact bj.size);have z:=Ah an;clear hU hb hr hO hN;have ab:=ih ((n*40503%UU+k)%UU) w2 (Nat.mod_lt _ (by decide));have ag:∀g,ev.ownBlock=some g->g<w2.heap.size:=fun g hg=>(az.lt g hg).2;have e1:(((d+1:Nat):Int)-1)=(d:Int):=(by omega);have fin:∀(w3:World) (a b c kv0:Value),Nd w3 (fun g=>w2.heap.size<=g) (mt d ((n*40503%UU+k)%UU)) a b c->RS w3 (fun g=>w2.heap.size<=g) kv0 []->Up w2.heap.size w2 w3->∀(w8:World),Al w3 (.cells ⟨[a,b,c,kv0]⟩ 37 (0,0)) w8->
      ∃ev' w9 t,(Builtin.append_ #[35,35] 35 #[ev,.slice (F w3.heap.size) 1 1]).run PP w8=.ok ev' w9/\Bp ev'=true/\w9.heap[nb]?=some (.cells ⟨[.int .i64 8,Bm [],ev,.slice none 0 0]⟩ 37 (0,0))/\w9.setCell ⟨nb,2,none⟩ ev'=t/\
       (∃xs',t.ownsRow (nb+1) 37 4 ev' (k+1) xs'/\Ee t (fun b=>nb<b/\ev'.ownBlock≠some b) ((List.range (k+1)).map fun k=>mt d ((n*40503%UU+k)%UU)) xs')/\
       t.heap[nb]?=some (.cells ⟨[.int .i64 8,Bm [],ev',.slice none 0 0]⟩ 37 (0,0))/\t.heap[B]?=some (.cells ⟨[.int .i64 0,Bm [],.slice none 0 0,.slice none 0 0]⟩ 37 (0,0))/\Up B w t:=by
     intro w3 a b c kv0 aa ad p w8 l;obtain⟨o1,o2,o3,_⟩:=aa.one;have o4:=ad.one;have y:=p.size;have ah:Up w2.heap.size w2 w8:=p.trans (l.up y);have ai:w8.ownsRow (nb+1) 37 4 ev k xs:=Bi az (fun g o hg h=>ah.at (Ah h) h);obtain⟨ev',w9,bv,aj,bd,ak,be⟩:=iR (m:=1) (c:=1) 35 [a,b,c,kv0] (rfl:Fx 35=some (37,4)) ai rfl (fun j u hu=>by
      rw [Dw];exact Ar l.at_ (by simpa using hu)) (fun u hu=>by
      simp only [List.mem_cons,List.not_mem_nil,or_false] at hu;rcases hu with rfl|rfl|rfl|rfl<;>assumption) (by omega) (by rw [l.size];omega)
     have r:Bp ev'=true:=by
      rcases aj.2 with ⟨rfl,_⟩|⟨g,cap,cur,rfl,_⟩<;>rfl
     have bb:=ah.at z an;have bw:=ah.at (Ah bk) bk;have am:w9.heap[nb]?=some (.cells ⟨[.int .i64 8,Bm [],ev,.slice none 0 0]⟩ 37 (0,0)):=by
      rw [ak nb (Ah bb) (fun h=>by have:=(ai.lt nb h).1;omega)];exact bb
     have bf:w9.heap[B]?=some (.cells ⟨[.int .i64 0,Bm [],.slice none 0 0,.slice none 0 0]⟩ 37 (0,0)):=by
      rw [ak B (Ah bw) (fun h=>by have:=(ai.lt B h).1;omega)];exact bw
     have q:=Ev (i:=2) ev' am;have mvA:∀(P:Nat->Prop) (w7:World),Cc P P w7 w8->(∀b,P b->nb<b/\ev.ownBlock≠some b)->Cc P (fun b=>nb<b/\ev'.ownBlock≠some b) w7 (w9.setCell ⟨nb,2,none⟩ ev'):=fun P w7 h7 hP=>(h7.trans (Cc.ap ak be hP)).trans (Cc.st q (fun b h=>h.1));refine⟨ev',w9,_,bv,r,am,rfl,⟨xs++[a,b,c,kv0],Bi aj (fun g o hg h=>q.keep h (by have:=(aj.lt g hg).1;omega)),?_⟩,q.at_,q.keep bf (by omega),?_⟩
     ·rw [Py];refine Ee.snoc (Ee.move (mvA _ w2 (Cc.up ah (fun b h _=>h)) (fun b h=>h)) _ _ bu) (by rw [az.1];simp) (Nd.move (mvA _ w3 (Cc.up (l.up Y) (fun b h _=>h)) (fun b h=>⟨by omega,fun e=>by have:=ag b e;omega⟩)) _ _ _ _ aa) (RS.move (mvA _ w3 (Cc.up (l.up Y) (fun b h _=>h)) (fun b h=>⟨by omega,fun e=>by have:=ag b e;omega⟩)) ad)
     ·exact ((bj.trans (ah.mono al))).trans ((bd.up.mono (by omega)).trans (q.up (by omega)))
    refine Bw 0 Z (by kernel_rfl) De.ok trivial Z ?_;refine Bw 2 Z (by kernel_rfl) De.ok trivial Z ?_;refine Bw 4 Z (by kernel_rfl) De.ok trivial Z ?_;refine Bw 6 Z (by kernel_rfl) De.ok trivial Z ?_;refine Gq 3 Z (by kernel_rfl) De.ok trivial Z Z (fun w=>mulU n 40503 _ w) Z ?_;refine Gq 5 Z (by kernel_rfl) De.ok trivial Z Z (fun w=>addU _ k _ w) Z ?_;refine WD.ta 7 Z (by kernel_rfl) De.ok trivial Z Z (by simp only [Te];omega) Z ?_;have e2:Te .sub ((d+1:Nat):Int) 1=(d:Int):=(by simp only [Te];omega);have bl:∀w':World,w'.heap[nb]?=some (.cells ⟨[.int .i64 8,Bm [],ev,.slice none 0 0]⟩ 37 (0,0))->w'.cell? ⟨nb,2,none⟩=some ev:=fun w' h=>Ar h rfl;refine Im 1 8 (by kernel_rfl) ?_ ?_
    ·refine Cy Z Z (fun a hf=>Dz hf Z (bl w2 an)) trivial Z ?_;refine Ep 8 (by kernel_rfl) ?_;refine Hs Z Z Z Z (by rw [e2];exact ab) ?_;rintro e w3 ⟨a,b,c,kv0,rfl,aa,ad,p⟩;refine⟨_,_,rfl,rfl,trivial,?_⟩;refine Ep 9 (by kernel_rfl) ?_;refine Cy Z Z (fun ac hf=>by rw [Dn hf rfl];simp only [Sem.run_bind,Wv,Result.andThen_ok,Sem.run_pure];rfl) trivial Z ?_;have l:=Br w3 (.cells ⟨[a,b,c,kv0]⟩ 37 (0,0));generalize w3.alloc (.cells ⟨[a,b,c,kv0]⟩ 37 (0,0))=w8 at l;obtain⟨ev',w9,t,q1,q2,q3,q4,q5,q6,q7,q8⟩:=fin w3 a b c kv0 aa ad p w8 l;refine Ep 10 (by kernel_rfl) ?_;refine Cy Z Z (fun ac hf=>by rw [Gi hf rfl];simp only [Sem.run_bind,q1,Result.andThen_ok,Sem.run_pure];rfl) trivial Z ?_;refine Bw 11 Z (by kernel_rfl) De.ok trivial Z ?_;refine Jr 12 (by kernel_rfl) Z Z (fun ac hf=>Gr hf rfl q2 q3 rfl) trivial Z ?_;rw [q4];refine Eg (by kernel_rfl) ?_;(repeat first|refine Aa Z ?_|refine Qp Z Z (by omega) Z ?_|apply Am|apply Aq|apply An|apply Bj);exact Ap (k+1,ev') ⟨q5,q6,q7,q8,by dsimp only;omega⟩ (by dsimp only;omega) ⟨Z,Z,Z,Z,Z,Z,V⟩
    ·refine Hs Z Z Z Z (by rw [e2];exact ab) ?_;rintro e w3 ⟨a,b,c,kv0,rfl,aa,ad,p⟩;refine⟨_,_,rfl,rfl,trivial,?_⟩;refine Im 1 9 (by kernel_rfl) ?_ ?_
     ·refine Cy Z Z (fun a hf=>Dz hf Z (bl w3 (p.at z an))) trivial Z ?_;refine Ep 9 (by kernel_rfl) ?_;refine Cy Z Z (fun ac hf=>by rw [Dn hf rfl];simp only [Sem.run_bind,Wv,Result.andThen_ok,Sem.run_pure];rfl) trivial Z ?_;have l:=Br w3 (.cells ⟨[a,b,c,kv0]⟩ 37 (0,0));generalize w3.alloc (.cells ⟨[a,b,c,kv0]⟩ 37 (0,0))=w8 at l;obtain⟨ev',w9,t,q1,q2,q3,q4,q5,q6,q7,q8⟩:=fin w3 a b c kv0 aa ad p w8 l;refine Ep 10 (by kernel_rfl) ?_;refine Cy Z Z (fun ac hf=>by rw [Gi hf rfl];simp only [Sem.run_bind,q1,Result.andThen_ok,Sem.run_pure];rfl) trivial Z ?_;refine Bw 11 Z (by kernel_rfl) De.ok trivial Z ?_;refine Jr 12 (by kernel_rfl) Z Z (fun ac hf=>Gr hf rfl q2 q3 rfl) trivial Z ?_;rw [q4];refine Eg (by kernel_rfl) ?_;(repeat first|refine Aa Z ?_|refine Qp Z Z (by omega) Z ?_|apply Am|apply Aq|apply An|apply Bj);exact Ap (k+1,ev') ⟨q5,q6,q7,q8,by dsimp only;omega⟩ (by dsimp only;omega) ⟨Z,Z,Z,Z,Z,Z,V⟩
     ·refine Cy Z Z (fun ac hf=>by rw [Dn hf rfl];simp only [Sem.run_bind,Wv,Result.andThen_ok,Sem.run_pure];rfl) trivial Z ?_;have l:=Br w3 (.cells ⟨[a,b,c,kv0]⟩ 37 (0,0));generalize w3.alloc (.cells ⟨[a,b,c,kv0]⟩ 37 (0,0))=w8 at l;refine Ep 1 (by kernel_rfl) ?_;refine Cy Z Z (fun a hf=>Dz hf Z (bl w8 (l.keep (p.at z an)))) trivial Z ?_;obtain⟨ev',w9,t,q1,q2,q3,q4,q5,q6,q7,q8⟩:=fin w3 a b c kv0 aa ad p w8 l;refine Ep 10 (by kernel_rfl) ?_;refine Cy Z Z (fun ac hf=>by rw [Gi hf rfl];simp only [Sem.run_bind,q1,Result.andThen_ok,Sem.run_pure];rfl) trivial Z ?_;refine Bw 11 Z (by kernel_rfl) De.ok trivial Z ?_;refine Jr 12 (by kernel_rfl) Z Z (fun ac hf=>Gr hf rfl q2 q3 rfl) trivial Z ?_;rw [q4];refine Eg (by kernel_rfl) ?_;(repeat first|refine Aa Z ?_|refine Qp Z Z (by omega) Z ?_|apply Am|apply Aq|apply An|apply Bj);exact Ap (k+1,ev') ⟨q5,q6,q7,q8,by dsimp only;omega⟩ (by dsimp only;omega) ⟨Z,Z,Z,Z,Z,Z,V⟩
   ·have bg:k=n/2^2%3:=(by omega);subst bg;have r:Bp ev=true:=by
     rcases hO.2 with ⟨rfl,_⟩|⟨g,cap,cur,rfl,_⟩<;>rfl
    (repeat first|refine Aa Z ?_|apply Ab|apply Ac|refine Aj Z (by first|omega|decide) ?_|refine Fz (b:=nb) Z Z hb Z Z ?_|apply Ad|apply An|apply Cn|apply Ci|apply Ba);refine Bx Z Z Z (by simpa [Bp] using r) hr (by simp) Z (fun w3 f=>?_);have p:Up B w w3:=hU.trans (f.up Y);have x:w3.heap[B]?=some (.cells ⟨[.int .i64 8,Bm [],ev,.slice none 0 0]⟩ 37 (0,0)):=(by simpa using f.at_);(repeat first|apply Ab|apply Bl|apply Bv|apply Ai);refine Ch Z Z Z x Z ⟨_,_,_,_,rfl,?_,RS.nil _ _,p⟩;have av:w3.ownsRow (nb+1) 37 4 ev (n/2^2%3) xs:=Bi hO (fun g o hg h=>f.keep h (by have:=(hO.lt g hg).1;omega));have bh:Ee w3 (fun g=>B<=g) _ xs:=Ee.move (P':=fun g=>B<=g) (fun b o hb ho _=>⟨f.keep ho (by have:=hb.1;omega),by have:=hb.1;omega⟩) _ _ hN;rw [Nd];refine⟨rfl,rfl,?_⟩;rw [List.length_map,List.length_range];by_cases hz:n/2^2%3=0
    ·rcases av.2 with ⟨rfl,_⟩|⟨g,cap,cur,rfl,_⟩
     ·exact⟨none,0,by rw [hz],fun h=>by simp [hz] at h⟩
     ·exact⟨_,cap,rfl,fun h=>by simp [hz] at h⟩
    ·obtain⟨g,cap,cur,rfl,hg,bi⟩:=Kx av hz;exact⟨_,cap,rfl,fun _=>⟨g,xs++cur,by omega,rfl,bi,Ee.more cur bh⟩⟩
  ·have ar:mt (d+1) n=.sc 1 [55]:=(by simp [mt,h0,h1]);rw [ar];(repeat first|refine Aa Z ?_|apply Ab|apply Ac|refine Aj Z (by first|omega|decide) ?_|refine Bo Z Z (dD n 4 (by omega) _ _) Z ?_|refine Au Z ?_|apply Ad|apply Ag|apply An|apply Bj|apply Af|refine Bc Z Z (by first|omega|decide) ?_);refine Cx Z Z bd7 Z ?_;refine Bx Z Z Z (by simp [Bp]) aq (by simp) Z (fun w3 f=>?_);have x:w3.heap[B]?=some (.cells ⟨[.int .i64 1,Bm [55],.slice none 0 0,.slice none 0 0]⟩ 37 (0,0)):=(by simpa using f.at_);(repeat first|apply Ab|apply Ai);exact Ch Z Z Z x Z ⟨_,_,_,_,rfl,nd7 _ _,RS.nil _ _,ao.trans (f.up Y)⟩
theorem mK:MtC 0:=by
 intro n w hn;refine Bf (L:=[(0,.int .u32 (n:Int)),(1,.int .i64 ((0:Nat):Int))]) Tryz.func14 Z Z Z ⟨Z,Z,V⟩ ?_;repeat (apply Ac)
 refine Dk Z Z Z (fun w1 hA=>?_);repeat first|refine Aa Z ?_|apply Ab|apply Ac|refine Bb Z (by first|with_reducible rfl|exact Bool.not_true) ?_|refine Au Z ?_|apply Ad|apply Ag|apply An|apply Bj|apply Af|refine Az Z Z (by first|omega|decide) ?_
 refine Cx Z Z bd7 Z ?_;refine Bx Z Z Z (by simp [Bp]) hA.at_ (by simp) Z (fun w3 a=>?_);have b:w3.heap[w.heap.size]?=some (.cells ⟨[.int .i64 1,Bm [55],.slice none 0 0,.slice none 0 0]⟩ 37 (0,0)):=by simpa using a.at_
 repeat first|apply Ab|apply Ai
 exact Ch Z Z Z b Z ⟨_,_,_,_,rfl,nd7 _ _,RS.nil _ _,(hA.up Y).trans (a.up Y)⟩
theorem mtC_all (d:Nat) (hd:d<=5):MtC d:=by
 induction d with
 | zero=>exact mK
 | succ d ih=>exact mL d (by omega) (ih (by omega))
end
end Go.Proofs.YtaccphdkapmdhaaGreat
