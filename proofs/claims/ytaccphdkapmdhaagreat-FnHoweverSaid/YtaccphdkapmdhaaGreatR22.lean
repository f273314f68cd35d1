/- The tracker does as a plain function on lists says. No condition. -/
import Derived.Test.YtaccphdkapmdhaaGreatR20
import Derived.Test.YtaccphdkapmdhaaGreatR21
namespace Go.Proofs.YtaccphdkapmdhaaGreat
set_option maxRecDepth 100000
set_option maxHeartbeats 64000000
set_option linter.all false
section
attribute [local irreducible] binOp IntKind.wrap Sem.run
def Io (w:World) (it g:Nat) (ns:List Be) (h:Nat):Prop:=
 w.heap[it]?=some (.cells ⟨[.bool false,Gm g h]⟩ 147 (0,0))∨∃i n,ns[i]?=some n/\n.next=h/\w.heap[it]?=some (.cells ⟨[.bool true,Gm g (i+1)]⟩ 147 (0,0))
theorem Io.keep {w w':World} {it g h:Nat} {ns:List Be} (hI:Io w it g ns h) (hk:∀o,Ce o=147->w.heap[it]?=some o->w'.heap[it]?=some o):Io w' it g ns h:=by
 rcases hI with h1|⟨i,n,h1,h2,h3⟩
 ·exact .inl (hk _ rfl h1)
 ·exact .inr ⟨i,n,h1,h2,hk _ rfl h3⟩
theorem Io.fm {B T} {w w':World} {it g h:Nat} {ns:List Be} (hI:Io w it g ns h) (hf:Fm B T w w') (hT:147∉T):Io w' it g ns h:=
 hI.keep fun o ho h=>hf.keep _ _ h (by rw [ho];exact hT)
theorem Ih (pp g h it:Nat) (ns:List Be) (w:World) (hA:AR w pp g ns) (hw:Wf ns) (hh:h<=ns.length) (hI:Io w it g ns h):
  Calls PP 82 #[.pointer (F it)] w fun e w'=>e=.returned (.bool (dc (h≠0)))/\∃w1,Sm w w1/\(∃o,Ce o=147/\w1.heap[it]?=some o)/\St w1 it (.cells ⟨[.bool true,Gm g h]⟩ 147 (0,0)) w':=by
 rcases hI with h1|⟨i,n,h1,h2,h3⟩
 ·refine (Xp pp g h it ns w hA hw hh h1).mono ?_;rintro e w' ⟨rfl,hS⟩;exact⟨rfl,w,Sm.refl _,⟨_,rfl,h1⟩,hS⟩
 ·subst h2;refine (aR pp g i it ns n w hA hw h1 h3).mono ?_;rintro e w' ⟨rfl,w1,a,hS⟩;exact⟨rfl,w1,a,⟨_,rfl,a.at h3⟩,hS⟩
theorem Fe (g i:Nat):Gm g (i+1)=.pointer (some ⟨g,i*7,none⟩):=rfl
def jF (ok:Bool) (v:Value):Prop:=(ok=true/\v=.nilIface)∨(ok=false/\IsErr v)
def Ti (v:Bz):Prop:=∀(tb pp g id i:Nat) (ns:List Be) (t:Ju) (w:World),TS w tb t->AR w pp g ns->Wf ns->NT ns v i->Kc t.ents->id<t.ents.length->t.ents.length+cV v<=1000000000->
 Calls PP 87 #[.pointer (F tb),.int .i32 (id:Int),.pointer (some ⟨g,i*7,none⟩)] w fun e w'=>∃u,e=.returned u/\jF (Hy v t.ents id).2 u/\TS w' tb ⟨(Hy v t.ents id).1,t.cur⟩/\Fm tb [59,145] w w'
theorem Nb {es:List Cs} {j:Nat} {e:Cs} (h:es[j]?=some e):Iv es j=e.kind:=by simp [Iv,h]
theorem Fm.step {B T} {w w1 w2 w3:World} {it:Nat} {o:Obj} (hf:Fm B T w w1) (hs:Sm w1 w2) (hS:St w2 it o w3) (a:w.heap.size<=it) (hB:B<=it):Fm B T w w3:=(hf.trans hs.fm).stN hS a hB
theorem Kd {w1 w2 w3:World} {it:Nat} {o o':Obj} (hs:Sm w1 w2) (ho:w2.heap[it]?=some o') (ht:Ce o'=147) (hS:St w2 it o w3) (a:Ce o=147):Fm 0 [147] w1 w3:=
 hs.fm.trans (hS.fm ho O (by simp [ht]) (by rw [ht,a]))
theorem eJ (v:Bz) (hv:Ti v) (ks:List Bs) (tb pp g p i c:Nat) (ns:List Be) (t:Ju) (a b:Be) (w:World) (hT:TS w tb t) (hA:AR w pp g ns) (hw:Wf ns)
  (ha:ns[i]?=some a) (hk:a.kind=5) (hc:a.child=c+1) (hb:ns[c]?=some b) (hn:NT ns v c) (hK:KT ns ks b.next) (ao:ks≠[]) (hO:Kc t.ents) (hp:p<t.ents.length) (hm:t.ents.length+ks.length+cV v<=1000000000):
  Calls PP 49 #[.pointer (F tb),.int .i32 (p:Int),.pointer (some ⟨g,i*7,none⟩)] w fun e w'=>∃u,e=.returned u/\jF (Ky (Hy v) ks t.ents p).2 u/\TS w' tb ⟨(Ky (Hy v) ks t.ents p).1,t.cur⟩/\Fm tb [59,145] w w':=by
 have bq:=hT.lt;have br:=hA.small;have ap:=(hw i a ha).2.2.2;have bf:Hx ns a=b.next:=by simp [Hx,hk,hc,hb]
 have bs:=(hw c b hb).2.2.1;refine Bf (L:=[(0,.pointer (F tb)),(1,.int .i32 (p:Int)),(2,.pointer (some ⟨g,i*7,none⟩))]) Tryz.func49 Z Z Z ⟨Z,Z,Z,V⟩ ?_;repeat first|refine Aa Z ?_|apply Ab|apply Ac
 refine Ae Z Z Z (Oy pp g i ns a w hA hw ha (.inl ⟨hk,by omega⟩)) ?_;rintro e w1 ⟨rfl,af⟩;rw [bf];refine T2 Z Z ?_;refine Dk Z Z Z (fun w2 ag=>?_);refine Bx Z Z Z (by simp [Bp,Gm]) ag.at_ (by simp) Z (fun w3 ah=>?_);generalize bt:w1.heap.size=it at *;have aj:w.heap.size<=it:=by have:=af.size;omega
 have ak:Fm tb [59,145] w w3:=((af.fm Y (by omega)).trans (ag.fm (by omega))).stN ah aj (by omega);have aq:Io w3 it g ns b.next:=.inl ah.at_;have ar:TS w3 tb t:=hT.fm (B:=0) (T:=[]) (((af.fm Y O).trans (ag.fm O)).stN ah aj O) (by simp) (by simp) (by simp) (by simp) (by simp);have au:AR w3 pp g ns:=hA.fm ak (by simp) (by simp) (by simp);clear ah ag af;repeat first|apply Ab|apply Ad|apply Ag
 refine Bg (σ:=Nat×List Bs×Nat×List Cs) (I:=fun s w'=>Io w' it g ns s.1/\KT ns s.2.1 s.1/\s.2.1≠[]/\TS w' tb ⟨s.2.2.2,t.cur⟩/\AR w' pp g ns/\Fm tb [59,145] w w'/\Kc s.2.2.2/\s.2.2.1<s.2.2.2.length/\s.2.2.2.length+s.2.1.length+cV v<=1000000000/\Ky (Hy v) s.2.1 s.2.2.2 s.2.2.1=Ky (Hy v) ks t.ents p)
  (m:=fun s=>s.2.1.length) (Lf:=fun s=>[(0,.pointer (F tb)),(1,.int .i32 (s.2.2.1:Int)),(2,.pointer (some ⟨g,i*7,none⟩)),(7,.pointer (F it))])
  (b.next,ks,p,t.ents) ⟨aq,hK,ao,ar,au,ak,hO,hp,hm,rfl⟩ ⟨Z,Z,Z,Z,V⟩ ?_
 clear aq hK ao ar au ak hO hp hm hT;rintro⟨h,kc,q,es⟩ w4 ⟨hI,hK,av,hT,hA,hF,hO,hq,hm,l⟩;dsimp only at hI hK av hT hO hq hm l ⊢;rw [<-l];cases kc with
 | nil=>exact absurd rfl av
 | cons k rest=>
  obtain⟨j,m,rfl,hj,bu,bg,ai⟩:=hK;have bv:=(Yc.1 hj).1;have bw:=(hw j m hj).2.2.1;(repeat first|apply Ac|apply Ad);refine Ae Z Z Z (Ih pp g (j+1) it ns w4 hA hw (by omega) hI) ?_;rintro e w5 ⟨rfl,wm,al,⟨om,bh,aw⟩,o⟩;rw [Fj (show j+1≠0 by omega)];refine T2 Z Z ?_;have r:=Kd al aw bh o rfl;have y:Fm tb [59,145] w w5:=hF.step al o aj (by omega);have f:=hT.fm r (by simp) (by simp) (by simp) (by simp) (by simp);have z:=hA.fm r (by simp) (by simp) (by simp);have aa:=o.at_;rw [Fe] at aa;have ax:Io w5 it g ns m.next:=.inr ⟨j,m,hj,rfl,o.at_⟩;clear r o hI hT hA hF aw al;(repeat first|apply Ab|apply Ac|refine Bn Z (by first|with_reducible rfl|exact Bool.not_false) ?_|apply Ag|apply An|apply Af);refine Ae Z Z Z (Gc _ _ it w5 aa) ?_;rintro e w6 ⟨rfl,rfl⟩;refine T2 Z Z ?_;obtain⟨cur,bi,bj⟩:=z.cells;obtain⟨d,bk,bx,bl⟩:=(bj j m hj).data;have am:=bl k bg;have c3:w6.cell? ⟨g,j*7+3,none⟩=some d:=Ar bi (by simpa using bk);(repeat first|refine Aa Z ?_|apply Ab|apply Ac|refine Aw Z Z c3 Z ?_|apply Ad);refine Ae Z Z Z (Qe pp g j it _ ns m w6 z hj aa) ?_;rintro e w7 ⟨rfl,rfl⟩;refine T2 Z Z ?_;have ab:=Wa tb q d k ⟨es,t.cur⟩ w7 f am hq (by simp only [Ya] at hm;simp only;omega);cases rest with
  | nil=>
   have bm:m.next=0:=ai;simp only [List.length_singleton] at hm;(repeat first|refine Aa Z ?_|apply Ab|apply Ac|refine Ao Z (by first|omega|decide) ?_|apply Ad);refine Ae Z Z Z ab ?_;rintro e w8 ⟨rfl,rfl⟩;refine T2 Z Z ?_;cases hf:Du es q k with
   | some x=>
    have e1:Ky (Hy v) [k] es q=(es,false):=(by simp [Ky,hf]);rw [e1];simp only [Fo];(repeat first|refine Aa Z ?_|apply Ab|apply Ac|refine Ao Z (by first|omega|decide) ?_);refine Ae Z Z Z (Ka _ w8) ?_;rintro e w9 ⟨u,rfl,hu,ac⟩;refine T2 Z Z ?_;(repeat first|refine Aa Z ?_|apply Ab|apply Bl|apply Bv|apply Ai);exact Ak Z Z ⟨_,rfl,.inr ⟨rfl,hu⟩,f.up ac,y.trans (ac.fm Y (by have:=f.lt;omega))⟩
   | none=>
    have e1:Ky (Hy v) [k] es q=Hy v (es++[⟨q,1,false,k⟩]) es.length:=(by simp [Ky,hf]);rw [e1];simp only [Fo];(repeat first|refine Aa Z ?_|apply Ab|apply Ac|refine Aj Z (by first|omega|decide) ?_|apply An|apply Af);refine Ae Z Z Z (Ir tb q 1 false d k ⟨es,t.cur⟩ w8 f am (by omega) (by omega) (by simp only;omega)) ?_;rintro e w9 ⟨rfl,ad,n⟩;refine T2 Z Z ?_;simp only at ad;have ay:=z.fm n (by simp) (by simp) (by simp);(repeat first|refine Aa Z ?_|apply Ab|apply Ac);refine Ae Z Z Z (Ns pp g i ns a w9 ay ha ap) ?_;rintro e bn ⟨rfl,ae⟩;refine T2 Z Z ?_;rw [hc,Fe];have hG:=Hg.snoc hO (k:=1) (x:=false) (nm:=k) hq (by omega) (by omega);skip;refine Ae Z Z Z (hv tb pp g es.length c ns ⟨es++[⟨q,1,false,k⟩],t.cur⟩ bn (ad.sm ae) (ay.fm (B:=0) (T:=[]) ae.fm (by simp) (by simp) (by simp)) hw hn hG.1 (by simp) (by simp;omega)) ?_;rintro e bz ⟨u,rfl,hu,az,ba⟩;refine T2 Z Z ?_;(repeat first|refine Aa Z ?_|apply Ab|apply Bl|apply Bv|apply Ai);exact Ak Z Z ⟨_,rfl,hu,az,((y.trans n).trans ae.fm).trans ba⟩
  | cons k2 rest=>
   have bm:m.next≠0:=by
    obtain⟨_,_,h,_⟩:=ai;omega
   simp only [Ya] at hm;(repeat first|refine Aa Z ?_|apply Ab|apply Ac|refine Aj Z (by first|omega|decide) ?_|apply An|apply Af);refine Ae Z Z Z ab ?_;rintro e w8 ⟨rfl,rfl⟩;refine T2 Z Z ?_;cases hf:Du es q k with
   | none=>
    have e1:Ky (Hy v) (k::k2::rest) es q=Ky (Hy v) (k2::rest) (es++[⟨q,2,false,k⟩]) es.length:=(by simp [Ky,hf]);simp only [Fo];(repeat first|refine Aa Z ?_|apply Ab|apply Ac|refine Ao Z (by first|omega|decide) ?_|apply Ad|apply Am);refine Ae Z Z Z (Ir tb q 2 false d k ⟨es,t.cur⟩ w8 f am (by omega) (by omega) (by simp only;omega)) ?_;rintro e w9 ⟨rfl,ad,n⟩;refine T2 Z Z ?_;simp only at ad;(repeat first|refine Aa Z ?_|apply Ab|apply Am|apply Aq|apply Bj);have hG:=Hg.snoc hO (k:=2) (x:=false) (nm:=k) hq (by omega) (by omega);exact Ap (m.next,k2::rest,es.length,es++[⟨q,2,false,k⟩]) ⟨ax.fm n (by simp),ai,by simp,ad,z.fm n (by simp) (by simp) (by simp),y.trans n,hG.1,by simp,by simp;omega,by rw [<-e1,l]⟩ (by simp) ⟨Z,Z,Z,Z,V⟩
   | some x=>
    have an:=Ii hf;obtain⟨ex,bb⟩:∃ex,es[x]?=some ex:=⟨_,Yd an⟩;have bc:=Nb bb;obtain⟨ge,cape,cure,rbe,mbe,cne,bd,ca,bo,bp,cb,cc,be,cd⟩:=f.open (by simp only;omega);simp only at bd bp be;have ck:w8.cell? ⟨ge,x*4+1,none⟩=some (.int .u8 ex.kind):=Ar bo (by simpa using (be x ex bb).kind);simp only [Fo];(repeat first|refine Aa Z ?_|apply Ab|apply Ac|refine Aj Z (by first|omega|decide) ?_|refine Av (b:=tb) (i:=0) Z Z bd Z Z ?_|refine Ax (i:=x) Z Z Z an (by rw [Yi];rfl) ?_|refine Aw Z Z ck Z ?_|apply Ad);by_cases h2:ex.kind=2
    ·have e1:Ky (Hy v) (k::k2::rest) es q=Ky (Hy v) (k2::rest) es x:=(by simp [Ky,hf,bc,h2]);(repeat first|refine Aa Z ?_|refine Aj Z (by first|omega|decide) ?_|apply Am|apply Aq|apply An|apply Bj|apply Af);exact Ap (m.next,k2::rest,x,es) ⟨ax,ai,by simp,f,z,y,hO,an,by simp only [Ya];omega,by rw [<-e1,l]⟩ (by simp) ⟨Z,Z,Z,Z,V⟩
    ·have e1:Ky (Hy v) (k::k2::rest) es q=(es,false):=(by simp [Ky,hf,bc,h2]);rw [e1];(repeat first|apply Ac|refine Ao Z (by first|omega|decide) ?_);refine Ae Z Z Z (Ka _ w8) ?_;rintro e w9 ⟨u,rfl,hu,ac⟩;refine T2 Z Z ?_;(repeat first|refine Aa Z ?_|apply Ab|apply Bl|apply Bv|apply Ai);exact Ak Z Z ⟨_,rfl,.inr ⟨rfl,hu⟩,f.up ac,y.trans (ac.fm Y (by have:=f.lt;omega))⟩
theorem Nx (k:Nat):8<=Db k/\Db k<=15:=by
 unfold Db;split<;>decide
theorem ckSc (kind:Nat) (text:Bs):Ti (.sc kind text):=by
 intro tb pp g id i ns t w hT hA hw hn hO d hm;obtain⟨a,ha,hk,_⟩:=hn;have hr:=Nx kind;obtain⟨cur,b,c⟩:=hA.cells;have c0:w.cell? ⟨g,i*7,none⟩=some (.int .i64 a.kind):=Ar b (by simpa using (c i a ha).kind);refine Bf (L:=[(0,.pointer (F tb)),(1,.int .i32 (id:Int)),(2,.pointer (some ⟨g,i*7,none⟩))]) Tryz.func87 Z Z Z ⟨Z,Z,Z,V⟩ ?_;repeat first|refine Aa Z ?_|apply Ab|apply Ac|refine Aj Z (by first|omega|decide) ?_|refine Aw Z Z c0 Z ?_|apply Ad|apply Ag|apply An|apply Bj|apply Af|apply Ai
 simp only [Hy];exact Ak Z Z ⟨_,rfl,.inl ⟨rfl,rfl⟩,hT,Fm.refl _ _ _⟩
theorem Bz.kind_of {ns:List Be} {v:Bz} {i:Nat} {a:Be} (h:NT ns v i) (ha:ns[i]?=some a):(v.isSc=true/\a.kind≠6/\a.kind≠7)∨(v.isSc=false/\(a.kind=6∨a.kind=7)):=by
 cases v with
 | sc kind text=>
  obtain⟨b,hb,hk,_⟩:=h;rw [ha] at hb;cases hb;have:=Nx kind;exact .inl ⟨rfl,by omega,by omega⟩
 | arr vs=>
  obtain⟨b,hb,hk,_⟩:=h;rw [ha] at hb;cases hb;exact .inr ⟨rfl,.inl hk⟩
 | tbl es=>
  obtain⟨b,hb,hk,_⟩:=h;rw [ha] at hb;cases hb;exact .inr ⟨rfl,.inr hk⟩
theorem ckArr (vs:List Bz) (o:∀v∈vs,Ti v):Ti (.arr vs):=by
 intro tb pp g id i ns t w hT hA hw hn hO q hm;simp only [NT] at hn;obtain⟨a,ha,hk,f⟩:=hn;have ba:=hT.lt;have ao:=(hw i a ha).2.2.2;simp only [cV] at hm;simp only [Hy];obtain⟨cur,aj,ak⟩:=hA.cells;have c0:w.cell? ⟨g,i*7,none⟩=some (.int .i64 a.kind):=Ar aj (by simpa using (ak i a ha).kind);refine Bf (L:=[(0,.pointer (F tb)),(1,.int .i32 (id:Int)),(2,.pointer (some ⟨g,i*7,none⟩))]) Tryz.func87 Z Z Z ⟨Z,Z,Z,V⟩ ?_;repeat first|refine Aa Z ?_|apply Ab|apply Ac|refine Ao Z (by first|omega|decide) ?_|refine Aj Z (by first|omega|decide) ?_|refine Aw Z Z c0 Z ?_|apply Ad|apply Ag
 refine Ae Z Z Z (Kz pp g i ns a w hA ha ao) ?_;rintro e w1 ⟨rfl,ac⟩;refine T2 Z Z ?_;refine Dk Z Z Z (fun w2 ad=>?_);refine Bx Z Z Z (by simp [Bp,Gm]) ad.at_ (by simp) Z (fun w3 ae=>?_);generalize bb:w1.heap.size=it at *;have af:w.heap.size<=it:=by have:=ac.size;omega
 have al:Fm tb [59,145] w w3:=((ac.fm Y (by omega)).trans (ad.fm (by omega))).stN ae af (by omega);have ap:Io w3 it g ns a.child:=.inl ae.at_;have aq:TS w3 tb t:=hT.fm (B:=0) (T:=[]) (((ac.fm Y O).trans (ad.fm O)).stN ae af O) (by simp) (by simp) (by simp) (by simp) (by simp);have ar:AR w3 pp g ns:=hA.fm al (by simp) (by simp) (by simp);clear ae ad ac c0;repeat first|apply Ab|apply Ag
 refine Bg (σ:=Nat×List Bz×List Cs) (I:=fun s w'=>Io w' it g ns s.1/\NTs ns s.2.1 s.1/\(∀v∈s.2.1,Ti v)/\TS w' tb ⟨s.2.2,t.cur⟩/\AR w' pp g ns/\Fm tb [59,145] w w'/\Kc s.2.2/\id<s.2.2.length/\s.2.2.length+lB s.2.1<=1000000000/\Fg s.2.1 s.2.2 id=Fg vs t.ents id)
  (m:=fun s=>s.2.1.length) (Lf:=fun s=>[(0,.pointer (F tb)),(1,.int .i32 (id:Int)),(2,.pointer (some ⟨g,i*7,none⟩)),(9,.pointer (F it))])
  (a.child,vs,t.ents) ⟨ap,f,o,aq,ar,al,hO,q,hm,rfl⟩ ⟨Z,Z,Z,Z,V⟩ ?_
 clear ap f o aq ar al hO q hm hT;rintro⟨h,us,es⟩ w4 ⟨hI,f,o,hT,hA,hF,hO,q,hm,l⟩;dsimp only at hI f o hT hO q hm l ⊢;rw [<-l];cases us with
 | nil=>
  have h0:h=0:=f;subst h0;(repeat first|apply Ac|apply Ad);refine Ae Z Z Z (Ih pp g 0 it ns w4 hA hw (by omega) hI) ?_;rintro e w5 ⟨rfl,wm,r,⟨om,am,ag⟩,b⟩;rw [Ew (by simp)];refine T2 Z Z ?_;have c:=Kd r ag am b rfl;have y:Fm tb [59,145] w w5:=hF.step r b af (by omega);(repeat first|refine Aa Z ?_|apply Ab|apply Ac|refine Bb Z (by first|with_reducible rfl|exact Bool.not_true) ?_|apply An|apply Cn|apply Bj|apply Ci|apply Ba|apply Ai);simp only [Fg];exact Ak Z Z ⟨_,rfl,.inl ⟨rfl,rfl⟩,hT.fm c (by simp) (by simp) (by simp) (by simp) (by simp),y⟩
 | cons v rest=>
  simp only [NTs] at f;obtain⟨j,m,rfl,hj,au,av⟩:=f;have bc:=(Yc.1 hj).1;(repeat first|apply Ac|apply Ad);refine Ae Z Z Z (Ih pp g (j+1) it ns w4 hA hw (by omega) hI) ?_;rintro e w5 ⟨rfl,wm,r,⟨om,am,ag⟩,b⟩;rw [Fj (show j+1≠0 by omega)];refine T2 Z Z ?_;have c:=Kd r ag am b rfl;have y:Fm tb [59,145] w w5:=hF.step r b af (by omega);have aw:=hT.fm c (by simp) (by simp) (by simp) (by simp) (by simp);have ah:=hA.fm c (by simp) (by simp) (by simp);have ai:=b.at_;rw [Fe] at ai;have ax:Io w5 it g ns m.next:=.inr ⟨j,m,hj,rfl,b.at_⟩;clear c b hI hT hA hF ag r;(repeat first|apply Ab|apply Ac|refine Bn Z (by first|with_reducible rfl|exact Bool.not_false) ?_|apply Ag|apply An|apply Af);refine Ae Z Z Z (Gc _ _ it w5 ai) ?_;rintro e w6 ⟨rfl,rfl⟩;refine T2 Z Z ?_;obtain⟨cur,aj,ak⟩:=ah.cells;have c0:w6.cell? ⟨g,j*7,none⟩=some (.int .i64 m.kind):=Ar aj (by simpa using (ak j m hj).kind);simp only [lB] at hm;have z:∀v∈rest,Ti v:=fun v hv=>o v (by simp [hv]);rcases Bz.kind_of au hj with ⟨hs,bd,be⟩|⟨hs,ay⟩
  ·have e1:Fg (v::rest) es id=Fg rest es id:=(by simp [Fg,hs]);(repeat first|refine Aa Z ?_|apply Ab|apply Ac|refine Aj Z (by first|omega|decide) ?_|refine Aw Z Z c0 Z ?_|refine Au Z ?_|apply Bj|apply Af|refine Az Z Z (by first|omega|decide) ?_);exact Ap (m.next,rest,es) ⟨ax,av,z,aw,ah,y,hO,q,by simp only;omega,by rw [<-e1,l]⟩ (by simp) ⟨Z,Z,Z,Z,V⟩
  ·have tail:∀(L:Env) (Q:Exit->Act->World->Prop),True:=fun _ _=>trivial;clear tail;have hG:=Hg.snoc hO (k:=5) (x:=false) (nm:=[]) q (by omega) (by omega);have aa:=Mk v (es++[⟨id,5,false,[]⟩]) es.length hG.1 (by simp);have e1:∀es' ok,Hy v (es++[⟨id,5,false,[]⟩]) es.length=(es',ok)->Fg (v::rest) es id=if ok then Fg rest es' id else (es',false):=fun es' ok hh=>by
    simp only [Fg,hs,Bool.false_eq_true,if_false,hh];cases ok<;>rfl
   rcases ay with hk|hk;all_goals
    (repeat first|refine Aa Z ?_|apply Ab|apply Ac|refine Bn Z (by first|with_reducible rfl|exact Bool.not_false) ?_|refine Ao Z (by first|omega|decide) ?_|refine Aw Z Z c0 Z ?_|refine Au Z ?_|refine Bc Z Z (by first|omega|decide) ?_|refine Az Z Z (by first|omega|decide) ?_);refine Ae Z Z Z (Ir tb id 5 false (.slice none 0 0) [] ⟨es,t.cur⟩ w6 aw ⟨none,0,rfl,fun h=>absurd rfl h⟩ (by omega) (by omega) (by simp only;omega)) ?_;rintro e w9 ⟨rfl,az,ab⟩;refine T2 Z Z ?_;simp only at az;(repeat first|refine Aa Z ?_|apply Ab|apply Ac);refine Ae Z Z Z (o v (by simp) tb pp g es.length j ns ⟨es++[⟨id,5,false,[]⟩],t.cur⟩ w9 az (ah.fm ab (by simp) (by simp) (by simp)) hw au hG.1 (by simp) (by simp;omega)) ?_;rintro e bf ⟨u,rfl,hu,d,n⟩;refine T2 Z Z ?_;simp only at hu d;cases hr:Hy v (es++[⟨id,5,false,[]⟩]) es.length with
    | mk es' ok=>
     rw [hr] at hu d aa;simp only at hu d aa;have e1:=e1 _ _ hr;rcases hu with ⟨an,rfl⟩|⟨an,p,rfl⟩
     ·subst an;simp only [if_true] at e1;(repeat first|refine Aa Z ?_|apply Ab|apply Ac|refine Bb Z (by first|with_reducible rfl|exact Bool.not_true) ?_|apply Bj|apply Af);exact Ap (m.next,rest,es') ⟨(ax.fm ab (by simp)).fm n (by simp),av,z,d,(ah.fm ab (by simp) (by simp) (by simp)).fm n (by simp) (by simp) (by simp),(y.trans ab).trans n,aa.1,by have:=aa.2.1;simp at this ⊢;omega,by have:=aa.2.2;simp at this ⊢;omega,by rw [<-e1,l]⟩ (by simp) ⟨Z,Z,Z,Z,V⟩
     ·subst an;simp only [Bool.false_eq_true,if_false] at e1;rw [e1];(repeat first|refine Aa Z ?_|apply Ab|apply Ac|refine Bn Z (by first|with_reducible rfl|exact Bool.not_false) ?_|apply Bl|apply Bv|apply Ai);exact Ak Z Z ⟨_,rfl,.inr ⟨rfl,_,rfl⟩,d,(y.trans ab).trans n⟩
theorem ckTbl (ts:List (List Bs×Bz)) (q:∀ks v,(ks,v)∈ts->Ti v) (y:Nn ts):Ti (.tbl ts):=by
 intro tb pp g id i ns t w hT hA hw hn hO r hm;simp only [NT] at hn;obtain⟨a,ha,hk,n⟩:=hn;have be:=hT.lt;have am:=(hw i a ha).2.2.2;simp only [cV] at hm;simp only [Hy];obtain⟨cur,ar,au⟩:=hA.cells;have c0:w.cell? ⟨g,i*7,none⟩=some (.int .i64 a.kind):=Ar ar (by simpa using (au i a ha).kind);refine Bf (L:=[(0,.pointer (F tb)),(1,.int .i32 (id:Int)),(2,.pointer (some ⟨g,i*7,none⟩))]) Tryz.func87 Z Z Z ⟨Z,Z,Z,V⟩ ?_;repeat first|refine Aa Z ?_|apply Ab|apply Ac|refine Ao Z (by first|omega|decide) ?_|refine Aw Z Z c0 Z ?_|apply Ad|apply Ag
 refine Ae Z Z Z (Kz pp g i ns a w hA ha am) ?_;rintro e w1 ⟨rfl,ab⟩;refine T2 Z Z ?_;refine Dk Z Z Z (fun w2 ac=>?_);refine Bx Z Z Z (by simp [Bp,Gm]) ac.at_ (by simp) Z (fun w3 ad=>?_);generalize bf:w1.heap.size=it at *;have ae:w.heap.size<=it:=by have:=ab.size;omega
 have ai:Fm tb [59,145] w w3:=((ab.fm Y (by omega)).trans (ac.fm (by omega))).stN ad ae (by omega);have an:Io w3 it g ns a.child:=.inl ad.at_;have ao:TS w3 tb t:=hT.fm (B:=0) (T:=[]) (((ab.fm Y O).trans (ac.fm O)).stN ad ae O) (by simp) (by simp) (by simp) (by simp) (by simp);have ap:AR w3 pp g ns:=hA.fm ai (by simp) (by simp) (by simp);clear ad ac ab c0;repeat first|apply Ab|apply Ag
 refine Bg (σ:=Nat×List (List Bs×Bz)×List Cs) (I:=fun s w'=>Io w' it g ns s.1/\NEs ns s.2.1 s.1/\(∀ks v,(ks,v)∈s.2.1->Ti v)/\Nn s.2.1/\TS w' tb ⟨s.2.2,t.cur⟩/\AR w' pp g ns/\Fm tb [59,145] w w'/\Kc s.2.2/\id<s.2.2.length/\s.2.2.length+lC s.2.1<=1000000000/\Hu s.2.1 s.2.2 id=Hu ts t.ents id)
  (m:=fun s=>s.2.1.length) (Lf:=fun s=>[(0,.pointer (F tb)),(1,.int .i32 (id:Int)),(2,.pointer (some ⟨g,i*7,none⟩)),(7,.pointer (F it))])
  (a.child,ts,t.ents) ⟨an,n,q,y,ao,ap,ai,hO,r,hm,rfl⟩ ⟨Z,Z,Z,Z,V⟩ ?_
 clear an n q y ao ap ai hO r hm hT;rintro⟨h,us,es⟩ w4 ⟨hI,n,q,y,hT,hA,hF,hO,r,hm,z⟩;dsimp only at hI n q y hT hO r hm z ⊢;rw [<-z];cases us with
 | nil=>
  have h0:h=0:=n;subst h0;(repeat first|apply Ac|apply Ad);refine Ae Z Z Z (Ih pp g 0 it ns w4 hA hw (by omega) hI) ?_;rintro e w5 ⟨rfl,wm,x,⟨om,aj,af⟩,d⟩;rw [Ew (by simp)];refine T2 Z Z ?_;have k:=Kd x af aj d rfl;have ag:Fm tb [59,145] w w5:=hF.step x d ae (by omega);(repeat first|refine Aa Z ?_|apply Ab|apply Ac|refine Bb Z (by first|with_reducible rfl|exact Bool.not_true) ?_|apply An|apply Cn|apply Bj|apply Ci|apply Ba|apply Ai);simp only [Hu];exact Ak Z Z ⟨_,rfl,.inl ⟨rfl,rfl⟩,hT.fm k (by simp) (by simp) (by simp) (by simp) (by simp),ag⟩
 | cons kv rest=>
  obtain⟨ks,v⟩:=kv;simp only [NEs] at n;obtain⟨j,m,c,b,rfl,hj,av,aw,hb,ax,ay,az⟩:=n;obtain⟨ba,bg,bb⟩:=y;have bh:=(Yc.1 hj).1;(repeat first|apply Ac|apply Ad);refine Ae Z Z Z (Ih pp g (j+1) it ns w4 hA hw (by omega) hI) ?_;rintro e w5 ⟨rfl,wm,x,⟨om,aj,af⟩,d⟩;rw [Fj (show j+1≠0 by omega)];refine T2 Z Z ?_;have k:=Kd x af aj d rfl;have ag:Fm tb [59,145] w w5:=hF.step x d ae (by omega);have bc:=hT.fm k (by simp) (by simp) (by simp) (by simp) (by simp);have aq:=hA.fm k (by simp) (by simp) (by simp);have ah:=d.at_;rw [Fe] at ah;have bd:Io w5 it g ns m.next:=.inr ⟨j,m,hj,rfl,d.at_⟩;clear k d hI hT hA hF af x;(repeat first|refine Aa Z ?_|apply Ab|apply Ac|refine Bn Z (by first|with_reducible rfl|exact Bool.not_false) ?_|apply Ag|apply An|apply Af);refine Ae Z Z Z (Gc _ _ it w5 ah) ?_;rintro e w6 ⟨rfl,rfl⟩;refine T2 Z Z ?_;simp only [lC] at hm;have ak:∀ks v,(ks,v)∈rest->Ti v:=fun ks v hv=>q ks v (by simp [hv]);have aa:=Ol (f:=Hy v) (m:=cV v) (fun es id h hi=>Mk v es id h hi) ks es id hO r;have e1:∀es' ok,Ky (Hy v) ks es id=(es',ok)->Hu ((ks,v)::rest) es id=if ok then Hu rest es' id else (es',false):=fun es' ok hh=>by
   simp only [Hu,hh];cases ok<;>rfl
  skip;refine Ae Z Z Z (eJ v (q ks v (by simp)) ks tb pp g id j c ns ⟨es,t.cur⟩ m b w6 bc aq hw hj av aw hb ax ay ba hO r (by simp only;omega)) ?_;rintro e bi ⟨u,rfl,hu,l,o⟩;refine T2 Z Z ?_;simp only at hu l;cases hr:Ky (Hy v) ks es id with
  | mk es' ok=>
   rw [hr] at hu l aa;simp only at hu l aa;have e1:=e1 _ _ hr;rcases hu with ⟨al,rfl⟩|⟨al,p,rfl⟩
   ·subst al;simp only [if_true] at e1;(repeat first|refine Aa Z ?_|apply Ab|apply Ac|refine Bb Z (by first|with_reducible rfl|exact Bool.not_true) ?_|apply Bj|apply Af);exact Ap (m.next,rest,es') ⟨bd.fm o (by simp),az,ak,bb,l,aq.fm o (by simp) (by simp) (by simp),ag.trans o,aa.1,by have:=aa.2.1;simp at this ⊢;omega,by have:=aa.2.2;simp at this ⊢;omega,by rw [<-e1,z]⟩ (by simp) ⟨Z,Z,Z,Z,V⟩
   ·subst al;simp only [Bool.false_eq_true,if_false] at e1;rw [e1];(repeat first|refine Aa Z ?_|apply Ab|apply Ac|refine Bn Z (by first|with_reducible rfl|exact Bool.not_false) ?_|apply Bl|apply Bv|apply Ai);exact Ak Z Z ⟨_,rfl,.inr ⟨rfl,_,rfl⟩,l,ag.trans o⟩
mutual
theorem bQ:∀(v:Bz),Pn v->Ti v
 | .sc k t,_=>ckSc k t
 | .arr vs,h=>ckArr vs (ckV_allI vs (by simpa only [Pn] using h))
 | .tbl ts,h=>ckTbl ts (ckV_allE ts (by simpa only [Pn] using h)) (by simpa only [Pn] using h)
theorem ckV_allI:∀(vs:List Bz),Ud vs->∀v∈vs,Ti v
 | [],_,v,hv=>by simp at hv
 | u::us,h,v,hv=>by
  simp only [Ud] at h;rcases List.mem_cons.1 hv with e|hv
  ·rw [e];exact bQ u h.1
  ·exact ckV_allI us h.2 v hv
theorem ckV_allE:∀(ts:List (List Bs×Bz)),Nn ts->∀ks v,(ks,v)∈ts->Ti v
 | [],_,ks,v,hv=>by simp at hv
 | (ks',u)::us,h,ks,v,hv=>by
  simp only [Nn] at h;rcases List.mem_cons.1 hv with e|hv
  ·simp only [Prod.mk.injEq] at e;rw [e.2];exact bQ u h.2.1
  ·exact ckV_allE us h.2.2 ks v hv
end
def Sg (cur:Nat) (r:List Cs×Option (Nat×Bs)):Ju×Bool:=match r.2 with
 | none=>(⟨r.1,cur⟩,false)
 | some q=>match Du r.1 q.1 q.2 with
  | none=>(⟨r.1++[⟨q.1,3,true,q.2⟩],r.1.length⟩,true)
  | some i=>match r.1[i]? with
   | some e=>if e.kind=3/\e.expl=false then (⟨r.1.set i { e with expl:=true },i⟩,true) else (⟨r.1,cur⟩,false)
   | none=>(⟨r.1,cur⟩,false)
def Om (cur:Nat) (r:List Cs×Option (Nat×Bs)):Ju×Bool:=match r.2 with
 | none=>(⟨r.1,cur⟩,false)
 | some q=>match Du r.1 q.1 q.2 with
  | none=>(⟨r.1++[⟨q.1,4,true,q.2⟩],r.1.length⟩,true)
  | some i=>if Iv r.1 i=4 then (⟨Lq i r.1,i⟩,true) else (⟨r.1,cur⟩,false)
theorem ckX_tab (t:Ju) (ks:List Bs):Ql t (.tab ks)=Sg t.cur (Ib ks t.ents 0):=by
 simp only [Ql,Sg];rcases Ib ks t.ents 0 with ⟨es,_|⟨p,k⟩⟩
 ·rfl
 ·dsimp only;cases Du es p k with
  | none=>rfl
  | some i=>
   dsimp only;cases es[i]?<;>rfl
theorem nI (t:Ju) (ks:List Bs):Ql t (.atab ks)=Om t.cur (Ib ks t.ents 0):=by
 simp only [Ql,Om];rcases Ib ks t.ents 0 with ⟨es,_|⟨p,k⟩⟩
 ·rfl
 ·dsimp only;cases Du es p k with
  | none=>rfl
  | some i=>rfl
theorem TS.setCur {w w':World} {tb c:Nat} {t:Ju} {ev rb mb:Value} {xs:List Value} {cn:Nat} {l:List Value} (h1:w.heap[tb]?=some (.cells ⟨l⟩ 59 (0,0))) (h2:w.ownsRow (tb+1) 145 4 ev t.ents.length xs) (h3:EL w t.ents xs) (h4:Buf w tb cn rb mb)
  (hS:St w tb (.cells ⟨[ev,.int .i32 (c:Int),rb,mb]⟩ 59 (0,0)) w'):TS w' tb ⟨t.ents,c⟩:=by
 have hf:Fm 0 [59] w w':=hS.fm h1 O (by simp [Ce]) rfl;exact⟨ev,xs,rb,mb,cn,hS.at_,Vh h2 hf (by simp),h3.fm hf (by simp),h4.fm hf (by simp) (by simp)⟩
theorem TS.setExpl {w w':World} {tb g cap cn j:Nat} {t:Ju} {cur:Array Value} {rb mb:Value} {e:Cs} (h1:w.heap[tb]?=some (.cells ⟨[.slice (F g) t.ents.length cap,.int .i32 (t.cur:Int),rb,mb]⟩ 59 (0,0))) (hg:tb<g) (f:w.heap[g]?=some (.cells cur 145 (0,0)))
  (h:t.ents.length<=cap) (l:cap<=maxLen) (m:cur.size=cap*4) (hN:EL w t.ents cur.toList) (hB:Buf w tb cn rb mb) (hj:t.ents[j]?=some e)
  (hS:St w g (.cells (cur.setIfInBounds (j*4+2) (.bool true)) 145 (0,0)) w'):TS w' tb ⟨t.ents.set j { e with expl:=true },t.cur⟩:=by
 have hf:Fm 0 [145] w w':=hS.fm f O (by simp [Ce]) rfl;have n:=(Yc.1 hj).1;refine⟨.slice (F g) t.ents.length cap,(cur.setIfInBounds (j*4+2) (.bool true)).toList.take (t.ents.length*4),rb,mb,cn,hS.keep h1 (by omega),⟨?_,.inr ⟨g,cap,_,?_,by omega,hS.at_,by rw [List.length_set];exact h,l,by rw [Array.size_setIfInBounds];exact m,by rw [List.length_set]⟩⟩,?_,hB.fm hf (by simp) (by simp)⟩
 ·rw [List.length_take,Array.length_toList,Array.size_setIfInBounds,List.length_set];omega
 ·rw [List.length_set]
 ·intro i a ha;rw [Mg];have key:∀(k:Nat) (v:Value),k<4->i<t.ents.length->(i≠j∨k≠2)->cur.toList[i*4+k]?=some v->((cur.toList.take (t.ents.length*4)).set (j*4+2) (.bool true))[i*4+k]?=some v:=fun k v hk b o hv=>by
   rw [List.getElem?_set_ne (by omega),List.getElem?_take,if_pos (by omega)];exact hv
  have b:=(Yc.1 ha).1;rw [List.length_set] at b;by_cases c:i=j
  ·subst c;rw [List.getElem?_set_self n] at ha;simp only [Yb] at ha;subst ha;obtain⟨q1,q2,q3,d,q4,q5⟩:=(hN i e hj).fm hf (by simp);refine⟨key 0 _ (by omega) b (.inr (by omega)) q1,key 1 _ (by omega) b (.inr (by omega)) q2,?_,d,key 3 _ (by omega) b (.inr (by omega)) q4,q5⟩;rw [List.getElem?_set_self];rw [List.length_take,Array.length_toList];omega
  ·rw [List.getElem?_set_ne (Ne.symm c)] at ha;obtain⟨q1,q2,q3,d,q4,q5⟩:=(hN i a ha).fm hf (by simp);exact⟨key 0 _ (by omega) b (.inl c) q1,key 1 _ (by omega) b (.inl c) q2,key 2 _ (by omega) b (.inl c) q3,d,key 3 _ (by omega) b (.inl c) q4,q5⟩
def Told (tb:Nat) (r:Ju×Bool) (w:World) (e:Ending) (w':World):Prop:=∃b u,e=.returned (.tuple #[.bool b,u])/\jF r.2 u/\TS w' tb r.1/\Fm tb [59,145,4,21] w w'
theorem kZ (ks:List Bs) (tb pp g i:Nat) (ns:List Be) (t:Ju) (a:Be) (w:World) (hT:TS w tb t) (hA:AR w pp g ns) (hw:Wf ns)
  (ha:ns[i]?=some a) (hk:a.kind=3) (hK:KT ns ks a.child) (av:ks≠[]) (hO:Kc t.ents) (hp:0<t.ents.length) (hm:t.ents.length+ks.length<=1000000000):
  Calls PP 50 #[.pointer (F tb),.pointer (some ⟨g,i*7,none⟩)] w (Told tb (Sg t.cur (Ib ks t.ents 0)) w):=by
 have br:=hT.lt;have bs:=hA.small;have bg:Hx ns a=a.child:=by simp [Hx,hk]
 have bq:=(hw i a ha).2.2.2;refine Bf (L:=[(0,.pointer (F tb)),(1,.pointer (some ⟨g,i*7,none⟩))]) Tryz.func50 Z Z Z ⟨Z,Z,V⟩ ?_;repeat first|refine Aa Z ?_|apply Ab|apply Ac
 refine Ae Z Z Z (Oy pp g i ns a w hA hw ha (.inr (by omega))) ?_;rintro e w1 ⟨rfl,ai⟩;rw [bg];refine T2 Z Z ?_;refine Dk Z Z Z (fun w2 aj=>?_);refine Bx Z Z Z (by simp [Bp,Gm]) aj.at_ (by simp) Z (fun w3 ak=>?_);generalize bt:w1.heap.size=it at *;have ao:w.heap.size<=it:=by have:=ai.size;omega
 have ap:Fm tb [59,145,4,21] w w3:=((ai.fm Y (by omega)).trans (aj.fm (by omega))).stN ak ao (by omega);have aw:Io w3 it g ns a.child:=.inl ak.at_;have ax:TS w3 tb t:=hT.fm (B:=0) (T:=[]) (((ai.fm Y O).trans (aj.fm O)).stN ak ao O) (by simp) (by simp) (by simp) (by simp) (by simp);have ay:AR w3 pp g ns:=hA.fm ap (by simp) (by simp) (by simp);clear ak aj ai;repeat first|apply Ab|apply Ad|apply Ag
 refine Bg (σ:=Nat×List Bs×Nat×List Cs) (I:=fun s w'=>Io w' it g ns s.1/\KT ns s.2.1 s.1/\s.2.1≠[]/\TS w' tb ⟨s.2.2.2,t.cur⟩/\AR w' pp g ns/\Fm tb [59,145,4,21] w w'/\Kc s.2.2.2/\s.2.2.1<s.2.2.2.length/\s.2.2.2.length+s.2.1.length<=1000000000/\Ib s.2.1 s.2.2.2 s.2.2.1=Ib ks t.ents 0)
  (m:=fun s=>s.2.1.length) (Lf:=fun s=>[(0,.pointer (F tb)),(1,.pointer (some ⟨g,i*7,none⟩)),(6,.int .i32 (s.2.2.1:Int)),(7,.pointer (F it))])
  (a.child,ks,0,t.ents) ⟨aw,hK,av,ax,ay,ap,hO,hp,hm,rfl⟩ ⟨Z,Z,Z,Z,V⟩ ?_
 clear aw hK av ax ay ap hO hp hm hT;rintro⟨h,kc,q,es⟩ w4 ⟨hI,hK,az,hT,hA,hF,hO,hq,hm,ac⟩;dsimp only at hI hK az hT hO hq hm ac ⊢;rw [<-ac];cases kc with
 | nil=>exact absurd rfl az
 | cons k rest=>
  obtain⟨j,m,rfl,hj,bu,bh,y⟩:=hK;have bv:=(Yc.1 hj).1;have bw:=(hw j m hj).2.2.1;(repeat first|apply Ac|apply Ad);refine Ae Z Z Z (Ih pp g (j+1) it ns w4 hA hw (by omega) hI) ?_;rintro e w5 ⟨rfl,wm,aq,⟨om,bi,ba⟩,ad⟩;rw [Fj (show j+1≠0 by omega)];refine T2 Z Z ?_;have ae:=Kd aq ba bi ad rfl;have n:Fm tb [59,145,4,21] w w5:=hF.step aq ad ao (by omega);have c:=hT.fm ae (by simp) (by simp) (by simp) (by simp) (by simp);have z:=hA.fm ae (by simp) (by simp) (by simp);have af:=ad.at_;rw [Fe] at af;have al:Io w5 it g ns m.next:=.inr ⟨j,m,hj,rfl,ad.at_⟩;clear ae ad hI hT hA hF ba aq;(repeat first|apply Ab|apply Ac|refine Bn Z (by first|with_reducible rfl|exact Bool.not_false) ?_|apply Ag|apply An|apply Af);refine Ae Z Z Z (Gc _ _ it w5 af) ?_;rintro e w6 ⟨rfl,rfl⟩;refine T2 Z Z ?_;obtain⟨cur,bj,bk⟩:=z.cells;obtain⟨d,bl,bx,bm⟩:=(bk j m hj).data;have ar:=bm k bh;have c3:w6.cell? ⟨g,j*7+3,none⟩=some d:=Ar bj (by simpa using bl);(repeat first|refine Aa Z ?_|apply Ab|apply Ac|refine Aw Z Z c3 Z ?_|apply Ad);refine Ae Z Z Z (Qe pp g j it _ ns m w6 z hj af) ?_;rintro e w7 ⟨rfl,rfl⟩;refine T2 Z Z ?_;have ag:=Wa tb q d k ⟨es,t.cur⟩ w7 c ar hq (by simp only [Ya] at hm;simp only;omega);cases rest with
  | nil=>
   have bn:m.next=0:=y;simp only [List.length_singleton] at hm;(repeat first|refine Aa Z ?_|apply Ab|apply Ac|refine Ao Z (by first|omega|decide) ?_);refine Ae Z Z Z ag ?_;rintro e w8 ⟨rfl,rfl⟩;refine T2 Z Z ?_;cases hf:Du es q k with
   | some x=>
    have o:=Ii hf;obtain⟨ex,f⟩:∃ex,es[x]?=some ex:=⟨_,Yd o⟩;obtain⟨ge,cape,cure,rbe,mbe,cne,aa,bb,r,am,bc,au,v,bd⟩:=c.open (by simp only;omega);simp only at aa am v;have ck:w8.cell? ⟨ge,x*4+1,none⟩=some (.int .u8 ex.kind):=Ar r (by simpa using (v x ex f).kind);have cx:w8.cell? ⟨ge,x*4+2,none⟩=some (.bool ex.expl):=Ar r (by simpa using (v x ex f).expl);have bz:=(hO x ex f).2.2;have err:∀(s:ByteArray),Calls PP 52 #[.string s] w8 fun e w'=>∃u,e=.returned u/\(∀b:Bool,Told tb (⟨es,t.cur⟩,false) w (.returned (.tuple #[.bool b,u])) w'):=fun s=>(Ka s w8).mono (by
     rintro e w9 ⟨u,rfl,hu,ah⟩;exact⟨u,rfl,fun b=>⟨b,u,rfl,.inr ⟨rfl,hu⟩,c.up ah,n.trans (ah.fm Y (by have:=c.lt;omega))⟩⟩)
    simp only [Fo];(repeat first|refine Aa Z ?_|apply Ab|apply Ac|refine Aj Z (by first|omega|decide) ?_|refine Av (b:=tb) (i:=0) Z Z aa Z Z ?_|refine Ax (i:=x) Z Z Z o (by rw [Yi];rfl) ?_|refine Aw Z Z ck Z ?_|apply Ad|apply Ag|apply An|apply Af);by_cases h3:ex.kind=3
    ·cases an:ex.expl with
     | true=>
      have e1:Sg t.cur (Ib [k] es q)=(⟨es,t.cur⟩,false):=(by simp [Ib,Sg,hf,f,an]);rw [e1];rw [an] at cx;(repeat first|refine Aa Z ?_|apply Ab|apply Ac|refine Bn Z (by first|with_reducible rfl|exact Bool.not_false) ?_|refine Ao Z (by first|omega|decide) ?_|refine Aw Z Z cx Z ?_|apply Ad);refine Ae Z Z Z (err _) ?_;rintro e w9 ⟨u,rfl,hu⟩;refine T2 Z Z ?_;(repeat first|refine Aa Z ?_|apply Ab|apply Bl|apply Bv|apply Ai);exact Ak Z Z (hu _)
     | false=>
      have e1:Sg t.cur (Ib [k] es q)=(⟨es.set x { ex with expl:=true },x⟩,true):=(by simp [Ib,Sg,hf,f,an,h3]);rw [e1];rw [an] at cx;have bo:x*4+2<cure.size:=(by rw [au];omega);(repeat first|refine Aa Z ?_|apply Ab|apply Ac|refine Bb Z (by first|with_reducible rfl|exact Bool.not_true) ?_|refine Ao Z (by first|omega|decide) ?_|refine Aw Z Z cx Z ?_|apply Ad|apply An|apply Af);refine Bk Z Z Z r (Array.getElem?_eq_getElem bo) Z (fun w9 be=>?_);have ab:=TS.setExpl (t:=⟨es,t.cur⟩) aa bb r am bc au v bd f be;have l:Fm tb [59,145,4,21] w w9:=n.trans (be.fm r (by omega) (by simp [Ce]) rfl);obtain⟨ev,xs,rb,mb,cn,z1,z2,z3,z4⟩:=ab;(repeat first|refine Aa Z ?_|apply Ab|apply Ac);refine Bk Z Z Z z1 Z Z (fun bp p=>?_);(repeat first|refine Aa Z ?_|apply Ab|apply Ac|apply Bl|apply Bv|apply Ai);exact Ak Z Z ⟨_,_,rfl,.inl ⟨rfl,rfl⟩,TS.setCur z1 z2 z3 z4 p,l.trans (p.fm z1 Y (by simp [Ce]) rfl)⟩
    ·have e1:Sg t.cur (Ib [k] es q)=(⟨es,t.cur⟩,false):=(by simp [Ib,Sg,hf,f,h3]);rw [e1];by_cases h2:ex.kind=2
     ·(repeat first|refine Aa Z ?_|apply Ab|apply Ac|refine Ao Z (by first|omega|decide) ?_|refine Aj Z (by first|omega|decide) ?_);refine Ae Z Z Z (err _) ?_;rintro e w9 ⟨u,rfl,hu⟩;refine T2 Z Z ?_;(repeat first|refine Aa Z ?_|apply Ab|apply Bl|apply Bv|apply Ai);exact Ak Z Z (hu _)
     ·by_cases h4:ex.kind=4
      ·(repeat first|refine Aa Z ?_|apply Ab|apply Ac|refine Ao Z (by first|omega|decide) ?_|refine Aj Z (by first|omega|decide) ?_);refine Ae Z Z Z (err _) ?_;rintro e w9 ⟨u,rfl,hu⟩;refine T2 Z Z ?_;(repeat first|refine Aa Z ?_|apply Ab|apply Bl|apply Bv|apply Ai);exact Ak Z Z (hu _)
      ·(repeat first|refine Aa Z ?_|apply Ab|apply Ac|refine Aj Z (by first|omega|decide) ?_);refine Ae Z Z Z (err _) ?_;rintro e w9 ⟨u,rfl,hu⟩;refine T2 Z Z ?_;(repeat first|refine Aa Z ?_|apply Ab|apply Bl|apply Bv|apply Ai);exact Ak Z Z (hu _)
   | none=>
    have e1:Sg t.cur (Ib [k] es q)=(⟨es++[⟨q,3,true,k⟩],es.length⟩,true):=(by simp [Ib,Sg,hf]);rw [e1];simp only [Fo];(repeat first|refine Aa Z ?_|apply Ab|apply Ac|refine Ao Z (by first|omega|decide) ?_|apply Ad);refine Ae Z Z Z (Ir tb q 3 true d k ⟨es,t.cur⟩ w8 c ar (by omega) (by omega) (by simp only;omega)) ?_;rintro e w9 ⟨rfl,ab,l⟩;refine T2 Z Z ?_;have l:Fm tb [59,145,4,21] w8 w9:=l.mono Y (by simp);obtain⟨ev,xs,rb,mb,cn,z1,z2,z3,z4⟩:=ab;(repeat first|refine Aa Z ?_|apply Ab|apply Ac);refine Bk Z Z Z z1 Z Z (fun bp p=>?_);(repeat first|refine Aa Z ?_|apply Ab|apply Ac|apply Bl|apply Bv|apply Ai);exact Ak Z Z ⟨_,_,rfl,.inl ⟨rfl,rfl⟩,TS.setCur z1 z2 z3 z4 p,(n.trans l).trans (p.fm z1 Y (by simp [Ce]) rfl)⟩
  | cons k2 rest=>
   have bn:m.next≠0:=by
    obtain⟨_,_,h,_⟩:=y;omega
   simp only [Ya] at hm;(repeat first|refine Aa Z ?_|apply Ab|apply Ac|refine Aj Z (by first|omega|decide) ?_|apply An|apply Af);refine Ae Z Z Z ag ?_;rintro e w8 ⟨rfl,rfl⟩;refine T2 Z Z ?_;cases hf:Du es q k with
   | none=>
    have e1:Ib (k::k2::rest) es q=Ib (k2::rest) (es++[⟨q,3,false,k⟩]) es.length:=(by simp [Ib,hf]);simp only [Fo];(repeat first|refine Aa Z ?_|apply Ab|apply Ac|refine Ao Z (by first|omega|decide) ?_|apply Ad|apply Am);refine Ae Z Z Z (Ir tb q 3 false d k ⟨es,t.cur⟩ w8 c ar (by omega) (by omega) (by simp only;omega)) ?_;rintro e w9 ⟨rfl,ab,l⟩;refine T2 Z Z ?_;simp only at ab;(repeat first|refine Aa Z ?_|apply Ab|apply Am|apply Aq|apply Bj);have hG:=Hg.snoc hO (k:=3) (x:=false) (nm:=k) hq (by omega) (by omega);exact Ap (m.next,k2::rest,es.length,es++[⟨q,3,false,k⟩]) ⟨al.fm l (by simp),y,by simp,ab,z.fm l (by simp) (by simp) (by simp),n.trans (l.mono Y (by simp)),hG.1,by simp,by simp;omega,by rw [<-e1,ac]⟩ (by simp) ⟨Z,Z,Z,Z,V⟩
   | some x=>
    have o:=Ii hf;obtain⟨ex,f⟩:∃ex,es[x]?=some ex:=⟨_,Yd o⟩;have bf:=Nb f;obtain⟨ge,cape,cure,rbe,mbe,cne,aa,bb,r,am,bc,au,v,bd⟩:=c.open (by simp only;omega);simp only at aa am v;have ck:w8.cell? ⟨ge,x*4+1,none⟩=some (.int .u8 ex.kind):=Ar r (by simpa using (v x ex f).kind);simp only [Fo];(repeat first|refine Aa Z ?_|apply Ab|apply Ac|refine Aj Z (by first|omega|decide) ?_|refine Av (b:=tb) (i:=0) Z Z aa Z Z ?_|refine Ax (i:=x) Z Z Z o (by rw [Yi];rfl) ?_|refine Aw Z Z ck Z ?_|apply Ad|apply Ag);have Jq:Iv es x=2∨Iv es x=3∨Iv es x=4->Ib (k2::rest) es x=Ib (k::k2::rest) es q:=fun hh=>by
     simp only [Ib,hf];rw [if_pos hh]
    rw [bf] at Jq;by_cases h3:ex.kind=3
    ·(repeat first|refine Aa Z ?_|refine Ao Z (by first|omega|decide) ?_|apply Am|apply Aq|apply An|apply Bj|apply Af);exact Ap (m.next,k2::rest,x,es) ⟨al,y,by simp,c,z,n,hO,o,by simp only [Ya];omega,Jq (by omega)⟩ (by simp) ⟨Z,Z,Z,Z,V⟩
    ·by_cases h4:ex.kind=4
     ·(repeat first|refine Aa Z ?_|apply Ab|apply Ac|refine Ao Z (by first|omega|decide) ?_|refine Aj Z (by first|omega|decide) ?_|apply Am|apply Aq|apply An|apply Bj|apply Af);exact Ap (m.next,k2::rest,x,es) ⟨al,y,by simp,c,z,n,hO,o,by simp only [Ya];omega,Jq (by omega)⟩ (by simp) ⟨Z,Z,Z,Z,V⟩
     ·by_cases h2:ex.kind=2
      ·(repeat first|refine Aa Z ?_|apply Ab|apply Ac|refine Ao Z (by first|omega|decide) ?_|refine Aj Z (by first|omega|decide) ?_|apply Am|apply Aq|apply An|apply Bj|apply Af);exact Ap (m.next,k2::rest,x,es) ⟨al,y,by simp,c,z,n,hO,o,by simp only [Ya];omega,Jq (by omega)⟩ (by simp) ⟨Z,Z,Z,Z,V⟩
      ·have e1:Sg t.cur (Ib (k::k2::rest) es q)=(⟨es,t.cur⟩,false):=(by simp [Ib,Sg,hf,bf,h2,h3,h4]);rw [e1];(repeat first|refine Aa Z ?_|apply Ab|apply Ac|refine Aj Z (by first|omega|decide) ?_|apply Am);refine Ae Z Z Z (Ka _ w8) ?_;rintro e w9 ⟨u,rfl,hu,ah⟩;refine T2 Z Z ?_;(repeat first|refine Aa Z ?_|apply Ab|apply Bl|apply Bv|apply Ai);exact Ak Z Z ⟨_,_,rfl,.inr ⟨rfl,hu⟩,c.up ah,n.trans (ah.fm Y (by have:=c.lt;omega))⟩
theorem gI (ks:List Bs) (tb pp g i:Nat) (ns:List Be) (t:Ju) (a:Be) (w:World) (hT:TS w tb t) (hA:AR w pp g ns) (hw:Wf ns)
  (ha:ns[i]?=some a) (hk:a.kind=4) (hK:KT ns ks a.child) (au:ks≠[]) (hO:Kc t.ents) (hp:0<t.ents.length) (hm:t.ents.length+ks.length<=1000000000):
  Calls PP 51 #[.pointer (F tb),.pointer (some ⟨g,i*7,none⟩)] w (Told tb (Om t.cur (Ib ks t.ents 0)) w):=by
 have bo:=hT.lt;have bp:=hA.small;have ba:Hx ns a=a.child:=by simp [Hx,hk]
 have bn:=(hw i a ha).2.2.2;refine Bf (L:=[(0,.pointer (F tb)),(1,.pointer (some ⟨g,i*7,none⟩))]) Tryz.func51 Z Z Z ⟨Z,Z,V⟩ ?_;repeat first|refine Aa Z ?_|apply Ab|apply Ac
 refine Ae Z Z Z (Oy pp g i ns a w hA hw ha (.inr (by omega))) ?_;rintro e w1 ⟨rfl,ai⟩;rw [ba];refine T2 Z Z ?_;refine Dk Z Z Z (fun w2 aj=>?_);refine Bx Z Z Z (by simp [Bp,Gm]) aj.at_ (by simp) Z (fun w3 ak=>?_);generalize bq:w1.heap.size=it at *;have am:w.heap.size<=it:=by have:=ai.size;omega
 have an:Fm tb [59,145,4,21] w w3:=((ai.fm Y (by omega)).trans (aj.fm (by omega))).stN ak am (by omega);have av:Io w3 it g ns a.child:=.inl ak.at_;have aw:TS w3 tb t:=hT.fm (B:=0) (T:=[]) (((ai.fm Y O).trans (aj.fm O)).stN ak am O) (by simp) (by simp) (by simp) (by simp) (by simp);have ax:AR w3 pp g ns:=hA.fm an (by simp) (by simp) (by simp);clear ak aj ai;repeat first|apply Ab|apply Ad|apply Ag
 refine Bg (σ:=Nat×List Bs×Nat×List Cs) (I:=fun s w'=>Io w' it g ns s.1/\KT ns s.2.1 s.1/\s.2.1≠[]/\TS w' tb ⟨s.2.2.2,t.cur⟩/\AR w' pp g ns/\Fm tb [59,145,4,21] w w'/\Kc s.2.2.2/\s.2.2.1<s.2.2.2.length/\s.2.2.2.length+s.2.1.length<=1000000000/\Ib s.2.1 s.2.2.2 s.2.2.1=Ib ks t.ents 0)
  (m:=fun s=>s.2.1.length) (Lf:=fun s=>[(0,.pointer (F tb)),(1,.pointer (some ⟨g,i*7,none⟩)),(6,.int .i32 (s.2.2.1:Int)),(7,.pointer (F it))])
  (a.child,ks,0,t.ents) ⟨av,hK,au,aw,ax,an,hO,hp,hm,rfl⟩ ⟨Z,Z,Z,Z,V⟩ ?_
 clear av hK au aw ax an hO hp hm hT;rintro⟨h,kc,q,es⟩ w4 ⟨hI,hK,ay,hT,hA,hF,hO,hq,hm,y⟩;dsimp only at hI hK ay hT hO hq hm y ⊢;rw [<-y];cases kc with
 | nil=>exact absurd rfl ay
 | cons k rest=>
  obtain⟨j,m,rfl,hj,br,bb,p⟩:=hK;have bs:=(Yc.1 hj).1;have bt:=(hw j m hj).2.2.1;(repeat first|apply Ac|apply Ad);refine Ae Z Z Z (Ih pp g (j+1) it ns w4 hA hw (by omega) hI) ?_;rintro e w5 ⟨rfl,wm,ao,⟨om,bc,az⟩,z⟩;rw [Fj (show j+1≠0 by omega)];refine T2 Z Z ?_;have aa:=Kd ao az bc z rfl;have n:Fm tb [59,145,4,21] w w5:=hF.step ao z am (by omega);have c:=hT.fm aa (by simp) (by simp) (by simp) (by simp) (by simp);have r:=hA.fm aa (by simp) (by simp) (by simp);have ab:=z.at_;rw [Fe] at ab;have al:Io w5 it g ns m.next:=.inr ⟨j,m,hj,rfl,z.at_⟩;clear aa z hI hT hA hF az ao;(repeat first|apply Ab|apply Ac|refine Bn Z (by first|with_reducible rfl|exact Bool.not_false) ?_|apply Ag|apply An|apply Af);refine Ae Z Z Z (Gc _ _ it w5 ab) ?_;rintro e w6 ⟨rfl,rfl⟩;refine T2 Z Z ?_;obtain⟨cur,bd,be⟩:=r.cells;obtain⟨d,bf,bu,bg⟩:=(be j m hj).data;have ap:=bg k bb;have c3:w6.cell? ⟨g,j*7+3,none⟩=some d:=Ar bd (by simpa using bf);(repeat first|refine Aa Z ?_|apply Ab|apply Ac|refine Aw Z Z c3 Z ?_|apply Ad);refine Ae Z Z Z (Qe pp g j it _ ns m w6 r hj ab) ?_;rintro e w7 ⟨rfl,rfl⟩;refine T2 Z Z ?_;have ac:=Wa tb q d k ⟨es,t.cur⟩ w7 c ap hq (by simp only [Ya] at hm;simp only;omega);cases rest with
  | nil=>
   have bh:m.next=0:=p;simp only [List.length_singleton] at hm;(repeat first|refine Aa Z ?_|apply Ab|apply Ac|refine Ao Z (by first|omega|decide) ?_);refine Ae Z Z Z ac ?_;rintro e w8 ⟨rfl,rfl⟩;refine T2 Z Z ?_;cases hf:Du es q k with
   | some x=>
    have f:=Ii hf;obtain⟨ex,ad⟩:∃ex,es[x]?=some ex:=⟨_,Yd f⟩;have ae:=Nb ad;obtain⟨ge,cape,cure,rbe,mbe,cne,af,bi,aq,ar,bj,bk,ag,bl⟩:=c.open (by simp only;omega);simp only at af ar ag;have ck:w8.cell? ⟨ge,x*4+1,none⟩=some (.int .u8 ex.kind):=Ar aq (by simpa using (ag x ex ad).kind);simp only [Fo];(repeat first|refine Aa Z ?_|apply Ab|apply Ac|refine Aj Z (by first|omega|decide) ?_|refine Av (b:=tb) (i:=0) Z Z af Z Z ?_|refine Ax (i:=x) Z Z Z f (by rw [Yi];rfl) ?_|refine Aw Z Z ck Z ?_|apply Ad|apply An|apply Af);by_cases h4:ex.kind=4
    ·have e1:Om t.cur (Ib [k] es q)=(⟨Lq x es,x⟩,true):=(by simp [Ib,Om,hf,ae,h4]);rw [e1];(repeat first|refine Aa Z ?_|apply Ac|refine Aj Z (by first|omega|decide) ?_|apply An|apply Af);refine Ae Z Z Z (kY tb x ⟨es,t.cur⟩ w8 c hO f (by simp only;omega)) ?_;rintro e w9 ⟨rfl,v,l⟩;refine T2 Z Z ?_;obtain⟨ev,xs,rb,mb,cn,z1,z2,z3,z4⟩:=v;(repeat first|refine Aa Z ?_|apply Ab|apply Ac);refine Bk Z Z Z z1 Z Z (fun bm o=>?_);(repeat first|refine Aa Z ?_|apply Ab|apply Ac|apply Bl|apply Bv|apply Ai);exact Ak Z Z ⟨_,_,rfl,.inl ⟨rfl,rfl⟩,TS.setCur z1 z2 z3 z4 o,(n.trans l).trans (o.fm z1 Y (by simp [Ce]) rfl)⟩
    ·have e1:Om t.cur (Ib [k] es q)=(⟨es,t.cur⟩,false):=(by simp [Ib,Om,hf,ae,h4]);rw [e1];(repeat first|apply Ac|refine Ao Z (by first|omega|decide) ?_);refine Ae Z Z Z (Ka _ w8) ?_;rintro e w9 ⟨u,rfl,hu,ah⟩;refine T2 Z Z ?_;(repeat first|refine Aa Z ?_|apply Ab|apply Bl|apply Bv|apply Ai);exact Ak Z Z ⟨_,_,rfl,.inr ⟨rfl,hu⟩,c.up ah,n.trans (ah.fm Y (by have:=c.lt;omega))⟩
   | none=>
    have e1:Om t.cur (Ib [k] es q)=(⟨es++[⟨q,4,true,k⟩],es.length⟩,true):=(by simp [Ib,Om,hf]);rw [e1];simp only [Fo];(repeat first|refine Aa Z ?_|apply Ab|apply Ac|refine Ao Z (by first|omega|decide) ?_|apply Ad);refine Ae Z Z Z (Ir tb q 4 true d k ⟨es,t.cur⟩ w8 c ap (by omega) (by omega) (by simp only;omega)) ?_;rintro e w9 ⟨rfl,v,l⟩;refine T2 Z Z ?_;have l:Fm tb [59,145,4,21] w8 w9:=l.mono Y (by simp);obtain⟨ev,xs,rb,mb,cn,z1,z2,z3,z4⟩:=v;(repeat first|refine Aa Z ?_|apply Ab|apply Ac);refine Bk Z Z Z z1 Z Z (fun bm o=>?_);(repeat first|refine Aa Z ?_|apply Ab|apply Ac|apply Bl|apply Bv|apply Ai);exact Ak Z Z ⟨_,_,rfl,.inl ⟨rfl,rfl⟩,TS.setCur z1 z2 z3 z4 o,(n.trans l).trans (o.fm z1 Y (by simp [Ce]) rfl)⟩
  | cons k2 rest=>
   have bh:m.next≠0:=by
    obtain⟨_,_,h,_⟩:=p;omega
   simp only [Ya] at hm;(repeat first|refine Aa Z ?_|apply Ab|apply Ac|refine Aj Z (by first|omega|decide) ?_|apply An|apply Af);refine Ae Z Z Z ac ?_;rintro e w8 ⟨rfl,rfl⟩;refine T2 Z Z ?_;cases hf:Du es q k with
   | none=>
    have e1:Ib (k::k2::rest) es q=Ib (k2::rest) (es++[⟨q,3,false,k⟩]) es.length:=(by simp [Ib,hf]);simp only [Fo];(repeat first|refine Aa Z ?_|apply Ab|apply Ac|refine Ao Z (by first|omega|decide) ?_|apply Ad|apply Am);refine Ae Z Z Z (Ir tb q 3 false d k ⟨es,t.cur⟩ w8 c ap (by omega) (by omega) (by simp only;omega)) ?_;rintro e w9 ⟨rfl,v,l⟩;refine T2 Z Z ?_;simp only at v;(repeat first|refine Aa Z ?_|apply Ab|apply Am|apply Aq|apply Bj);have hG:=Hg.snoc hO (k:=3) (x:=false) (nm:=k) hq (by omega) (by omega);exact Ap (m.next,k2::rest,es.length,es++[⟨q,3,false,k⟩]) ⟨al.fm l (by simp),p,by simp,v,r.fm l (by simp) (by simp) (by simp),n.trans (l.mono Y (by simp)),hG.1,by simp,by simp;omega,by rw [<-e1,y]⟩ (by simp) ⟨Z,Z,Z,Z,V⟩
   | some x=>
    have f:=Ii hf;obtain⟨ex,ad⟩:∃ex,es[x]?=some ex:=⟨_,Yd f⟩;have ae:=Nb ad;obtain⟨ge,cape,cure,rbe,mbe,cne,af,bi,aq,ar,bj,bk,ag,bl⟩:=c.open (by simp only;omega);simp only at af ar ag;have ck:w8.cell? ⟨ge,x*4+1,none⟩=some (.int .u8 ex.kind):=Ar aq (by simpa using (ag x ex ad).kind);simp only [Fo];(repeat first|refine Aa Z ?_|apply Ab|apply Ac|refine Aj Z (by first|omega|decide) ?_|refine Av (b:=tb) (i:=0) Z Z af Z Z ?_|refine Ax (i:=x) Z Z Z f (by rw [Yi];rfl) ?_|refine Aw Z Z ck Z ?_|apply Ad|apply Ag);have Jq:Iv es x=2∨Iv es x=3∨Iv es x=4->Ib (k2::rest) es x=Ib (k::k2::rest) es q:=fun hh=>by
     simp only [Ib,hf];rw [if_pos hh]
    rw [ae] at Jq;by_cases h3:ex.kind=3
    ·(repeat first|refine Aa Z ?_|refine Ao Z (by first|omega|decide) ?_|apply Am|apply Aq|apply An|apply Bj|apply Af);exact Ap (m.next,k2::rest,x,es) ⟨al,p,by simp,c,r,n,hO,f,by simp only [Ya];omega,Jq (by omega)⟩ (by simp) ⟨Z,Z,Z,Z,V⟩
    ·by_cases h4:ex.kind=4
     ·(repeat first|refine Aa Z ?_|apply Ab|apply Ac|refine Ao Z (by first|omega|decide) ?_|refine Aj Z (by first|omega|decide) ?_|apply Am|apply Aq|apply An|apply Bj|apply Af);exact Ap (m.next,k2::rest,x,es) ⟨al,p,by simp,c,r,n,hO,f,by simp only [Ya];omega,Jq (by omega)⟩ (by simp) ⟨Z,Z,Z,Z,V⟩
     ·by_cases h2:ex.kind=2
      ·(repeat first|refine Aa Z ?_|apply Ab|apply Ac|refine Ao Z (by first|omega|decide) ?_|refine Aj Z (by first|omega|decide) ?_|apply Am|apply Aq|apply An|apply Bj|apply Af);exact Ap (m.next,k2::rest,x,es) ⟨al,p,by simp,c,r,n,hO,f,by simp only [Ya];omega,Jq (by omega)⟩ (by simp) ⟨Z,Z,Z,Z,V⟩
      ·have e1:Om t.cur (Ib (k::k2::rest) es q)=(⟨es,t.cur⟩,false):=(by simp [Ib,Om,hf,ae,h2,h3,h4]);rw [e1];(repeat first|refine Aa Z ?_|apply Ab|apply Ac|refine Aj Z (by first|omega|decide) ?_|apply Am);refine Ae Z Z Z (Ka _ w8) ?_;rintro e w9 ⟨u,rfl,hu,ah⟩;refine T2 Z Z ?_;(repeat first|refine Aa Z ?_|apply Ab|apply Bl|apply Bv|apply Ai);exact Ak Z Z ⟨_,_,rfl,.inr ⟨rfl,hu⟩,c.up ah,n.trans (ah.fm Y (by have:=c.lt;omega))⟩
end
end Go.Proofs.YtaccphdkapmdhaaGreat
