/- The reference's Mean answers as the tracker. No condition. -/
import Derived.Test.YtaccphdkapmdhaaGreatR30
import Derived.Test.YtaccphdkapmdhaaGreatR34
namespace Go.Proofs.YtaccphdkapmdhaaGreat
set_option maxRecDepth 100000
set_option maxHeartbeats 64000000
set_option linter.all false
section
theorem Rd (p:Nat) (nm:Bs):∀(a b:List Cs) (i:Nat),Dv p nm (a++b) i=(Dv p nm a i).or (Dv p nm b (i+a.length))
 | [],b,i=>by simp [Dv]
 | e::a,b,i=>by
  simp only [Dv,List.cons_append];split
  ·rfl
  ·rw [Rd p nm a b (i+1),Ya,show i+1+a.length=i+(a.length+1) by omega]
theorem Od (p:Nat) (nm:Bs):∀(a:List Cs) (i:Nat),(∀e∈a,e.is p nm=false)->Dv p nm a i=none
 | [],_,_=>rfl
 | e::a,i,h=>by
  simp only [Dv];rw [h e (by simp)];simp only [Bool.false_eq_true,if_false];exact Od p nm a (i+1) (fun x hx=>h x (by simp [hx]))
theorem Pt {p:Nat} {nm:Bs}:∀{a:List Cs} {i:Nat},Dv p nm a i=none->∀e∈a,e.is p nm=false
 | [],_,_,_,h=>by simp at h
 | e::a,i,hn,x,hx=>by
  simp only [Dv] at hn;split at hn
  ·cases hn
  ·rename_i he;rcases List.mem_cons.1 hx with rfl|hx
   ·simpa using he
   ·exact Pt hn x hx
theorem Oe {p:Nat} {nm:Bs}:∀{a:List Cs} {i j:Nat},Dv p nm a i=some j->∀(k:Nat) (e:Cs),k<j-i->a[k]?=some e->e.is p nm=false
 | [],_,_,h,_,_,_,_=>by simp [Dv] at h
 | e::a,i,j,h,k,x,hk,hx=>by
  simp only [Dv] at h;split at h
  ·simp only [Yb] at h;subst h;omega
  ·rename_i he;cases k with
   | zero=>
    simp only [List.getElem?_cons_zero,Yb] at hx;subst hx;simpa using he
   | succ k=>exact Oe h k x (by have:=(Mc _ _ _ h).1;omega) (by simpa using hx)
theorem Cs.is_parent {e:Cs} {p:Nat} {nm:Bs} (h:e.is p nm=true):e.parent=(p:Int)/\e.kind≠5/\e.name=nm:=by
 simpa [Cs.is] using h
theorem Wc {es:List Cs} {p:Nat} {nm:Bs} (h:∀(i:Nat) (e:Cs),es[i]?=some e->e.is p nm=false):Du es p nm=none:=
 Od _ _ _ _ fun e he=>by
  obtain⟨i,hi⟩:=List.getElem?_of_mem he;rw [List.getElem?_drop] at hi;exact h _ e hi
theorem Qh {es:List Cs} (hO:Kc es) {p:Nat} {nm:Bs} (h:Du es p nm=none) (i:Nat) (e:Cs) (he:es[i]?=some e):e.is p nm=false:=by
 by_cases hi:i<=p
 ·cases hb:e.is p nm with
  | false=>rfl
  | true=>
   have h1:=(Cs.is_parent hb).1;have h2:=(hO i e he).1;omega
 ·refine Pt h e ?_;refine List.mem_of_getElem? (i:=i-(p+1)) ?_;rw [List.getElem?_drop,show p+1+(i-(p+1))=i by omega];exact he
theorem Og {es:List Cs} (hO:Kc es) {p j:Nat} {nm:Bs} (h:Du es p nm=some j) (i:Nat) (e:Cs) (hi:i<j) (he:es[i]?=some e):e.is p nm=false:=by
 by_cases a:i<=p
 ·cases hb:e.is p nm with
  | false=>rfl
  | true=>
   have h1:=(Cs.is_parent hb).1;have h2:=(hO i e he).1;omega
 ·refine Oe h (i-(p+1)) e (by omega) ?_;rw [List.getElem?_drop,show p+1+(i-(p+1))=i by omega];exact he
theorem dU {es:List Cs} {p j:Nat} {nm:Bs} {e:Cs} (he:es[j]?=some e) (h1:e.is p nm=true) (h2:∀(i:Nat) (e':Cs),i<j->es[i]?=some e'->e'.is p nm=false) (hO:Kc es):Du es p nm=some j:=by
 cases hf:Du es p nm with
 | none=>rw [Qh hO hf j e he] at h1;cases h1
 | some k=>
  obtain⟨_,ek,b,a⟩:=Jz hf;rcases Nat.lt_trichotomy k j with h|h|h
  ·rw [h2 k ek h b] at a;cases a
  ·rw [h]
  ·rw [Og hO hf j e h he] at h1;cases h1
theorem Yu {es more:List Cs} {q:Nat} (hq:q<es.length) (nm:Bs):Du (es++more) q nm=(Du es q nm).or (Dv q nm more es.length):=by
 unfold Du;rw [List.drop_append_of_le_length (by omega),Rd,Yh,show q+1+(es.length-(q+1))=es.length by omega]
theorem kI {es more:List Cs} {q:Nat} (hq:q<es.length) (nm:Bs) (h:∀e∈more,e.parent≠(q:Int)):Du (es++more) q nm=Du es q nm:=by
 rw [Yu hq,Od q nm more _ (fun e he=>by
  cases hb:e.is q nm with
  | false=>rfl
  | true=>exact absurd (Cs.is_parent hb).1 (h e he))]
 cases Du es q nm<;>rfl
theorem Wb {es:List Cs} {q p kd:Nat} {x:Bool} {k:Bs} (hq:q<es.length) (nm:Bs) (h5:kd≠5):
  Du (es++[⟨p,kd,x,k⟩]) q nm=(Du es q nm).or (if q=p/\nm=k then some es.length else none):=by
 have h1:(Cs.mk (p:Int) kd x k).is q nm=decide (q=p/\nm=k):=by
  simp only [Cs.is];by_cases a:q=p/\nm=k
  ·obtain⟨rfl,rfl⟩:=a;simp [h5]
  ·rw [decide_eq_false a,decide_eq_false];rintro⟨h1,_,h3⟩;exact a ⟨by omega,h3.symm⟩
 have h2:Dv q nm [⟨p,kd,x,k⟩] es.length=if q=p/\nm=k then some es.length else none:=by
  show (if (Cs.mk (p:Int) kd x k).is q nm then some es.length else none)=_;rw [h1];simp
 rw [Yu hq,h2]
theorem Wd {es:List Cs} {q:Nat} (hq:es.length<=q+1) (nm:Bs):Du es q nm=none:=by
 unfold Du;rw [List.drop_of_length_le hq];rfl
theorem kH {es:List Cs} {i:Nat} {e e':Cs} (he:es[i]?=some e) (h1:e'.parent=e.parent) (h2:e'.kind=e.kind) (h3:e'.name=e.name) (hO:Kc es) (q:Nat) (nm:Bs):
  Du (es.set i e') q nm=Du es q nm:=by
 have hi:=(Yc.1 he).1;have f:Kc (es.set i e'):=hO.set he h1 h2;have g:e'.is q nm=e.is q nm:=by simp [Cs.is,h1,h2,h3]
 have key:∀(j:Nat) (a:Cs),(es.set i e')[j]?=some a->∃b,es[j]?=some b/\a.is q nm=b.is q nm:=by
  intro j a ha;by_cases c:i=j
  ·subst c;rw [List.getElem?_set_self hi] at ha;simp only [Yb] at ha;subst ha;exact⟨e,he,g⟩
  ·rw [List.getElem?_set_ne c] at ha;exact⟨a,ha,rfl⟩
 cases hf:Du es q nm with
 | none=>
  refine Wc fun j a ha=>?_;obtain⟨b,hb,h⟩:=key j a ha;rw [h];exact Qh hO hf j b hb
 | some k=>
  obtain⟨_,ek,d,l⟩:=Jz hf;have hk:=(Yc.1 d).1;obtain⟨a,ha⟩:∃a,(es.set i e')[k]?=some a:=⟨_,Yd (by simpa using hk)⟩;obtain⟨b,hb,h⟩:=key k a ha;rw [d] at hb;simp only [Yb] at hb;subst hb;refine dU ha (by rw [h];exact l) (fun j a' hj m=>?_) f;obtain⟨b',n,h'⟩:=key j a' m;rw [h'];exact Og hO hf j b' hj n
inductive TI where
 | val (b:Nat)
 | tab (b m:Nat) (l:List (Bs×Nat))
 | lst (b s tb m:Nat) (l:List (Bs×Nat))
def TI.blk:TI->Nat
 | .val b=>b
 | .tab b _ _=>b
 | .lst b _ _ _ _=>b
def TI.tbl:TI->Nat
 | .val b=>b
 | .tab b _ _=>b
 | .lst _ _ tb _ _=>tb
def TI.mp:TI->Option (Nat×List (Bs×Nat))
 | .val _=>none
 | .tab _ m l=>some (m,l)
 | .lst _ _ _ m l=>some (m,l)
def TI.all:TI->List Nat
 | .val b=>[b]
 | .tab b m _=>[b,m]
 | .lst b s tb m _=>[b,s,tb,m]
def TI.setL (l:List (Bs×Nat)):TI->TI
 | .val b=>.val b
 | .tab b m _=>.tab b m l
 | .lst b s tb m _=>.lst b s tb m l
theorem TI.setL_blk (l) (t:TI):(t.setL l).blk=t.blk:=by cases t<;>rfl
theorem TI.setL_tbl (l) (t:TI):(t.setL l).tbl=t.tbl:=by cases t<;>rfl
theorem TI.setL_all (l) (t:TI):(t.setL l).all=t.all:=by cases t<;>rfl
theorem TI.setL_mp {l l0 m} {t:TI} (h:t.mp=some (m,l0)):(t.setL l).mp=some (m,l):=by cases t<;>simp_all [TI.mp,TI.setL]
abbrev cR (way:Nat) (m:Nat):Array Value:=⟨[.int .i64 0,.int .i64 (way:Int),.map (some m),.slice none 0 0]⟩
def TI.at (B K:Nat) (w:World) (root:Prop) (e:Cs):TI->Prop
 | .val b=>e.kind=1/\∃kd way x y,w.heap[b]?=some (.cells ⟨[.int .i64 (kd:Nat),.int .i64 (way:Nat),x,y]⟩ 81 (0,0))/\(kd=2/\way=0∨kd=0/\way=3)
 | .tab b m l=>(∃way,w.heap[b]?=some (.cells (cR way m) 81 (0,0))/\(¬root->(e.kind=2/\way=2)∨(e.kind=3/\way=if e.expl then 1 else 0)))/\MP w m l
 | .lst b s tb m l=>e.kind=4/\(∃v n xs,w.heap[b]?=some (.cells ⟨[.int .i64 1,.int .i64 0,.map none,v]⟩ 81 (0,0))/\w.ownsRow B 73 1 v n xs/\v.ownBlock=some s/\0<n/\n<=K/\xs[n-1]?=some (pt tb))/\
   (∃way,w.heap[tb]?=some (.cells (cR way m) 81 (0,0)))/\MP w m l
theorem TI.at_keep {B K w w' root e} {t:TI} (h:t.at B K w root e) (hk:∀x∈t.all,∀o,w.heap[x]?=some o->w'.heap[x]?=some o):t.at B K w' root e:=by
 cases t with
 | val b=>
  obtain⟨h1,kd,way,x,y,h2,h3⟩:=h;exact⟨h1,kd,way,x,y,hk b (by simp [TI.all]) _ h2,h3⟩
 | tab b m l=>
  obtain⟨⟨way,h1,h2⟩,h3⟩:=h;exact⟨⟨way,hk b (by simp [TI.all]) _ h1,h2⟩,h3.keep (hk m (by simp [TI.all]))⟩
 | lst b s tb m l=>
  obtain⟨h0,⟨v,n,xs,h1,h2,h3,h4,h5⟩,⟨way,h6⟩,h7⟩:=h;refine⟨h0,⟨v,n,xs,hk b (by simp [TI.all]) _ h1,Bi h2 (fun g o hg ho=>hk g ?_ o ho),h3,h4,h5⟩,⟨way,hk tb (by simp [TI.all]) _ h6⟩,h7.keep (hk m (by simp [TI.all]))⟩;rw [h3] at hg;simp only [Yb] at hg;subst hg;simp [TI.all]
theorem TI.mp_all {t:TI} {m l} (h:t.mp=some (m,l)):m∈t.all:=by cases t<;>simp_all [TI.mp,TI.all]
theorem TI.mpMP {B K w root e m l} {t:TI} (h:t.at B K w root e) (hm:t.mp=some (m,l)):MP w m l:=by
 cases t with
 | val b=>cases hm
 | tab b m' l'=>simp only [TI.mp,Yb,Prod.mk.injEq] at hm;obtain⟨rfl,rfl⟩:=hm;exact h.2
 | lst b s tb m' l'=>simp only [TI.mp,Yb,Prod.mk.injEq] at hm;obtain⟨rfl,rfl⟩:=hm;exact h.2.2.2
theorem TI.at_names {B K w w' root e m l l'} {t:TI} (h:t.at B K w root e) (hm:t.mp=some (m,l)) (hk:∀x∈t.all,x≠m->∀o,w.heap[x]?=some o->w'.heap[x]?=some o) (hM:MP w' m l'):(t.setL l').at B K w' root e:=by
 have d:=t.mpMP h hm;obtain⟨mes,mc,a,_⟩:=d;cases t with
 | val b=>cases hm
 | tab b m' l0=>
  simp only [TI.mp,Yb,Prod.mk.injEq] at hm;obtain⟨rfl,rfl⟩:=hm;obtain⟨⟨way,h1,h2⟩,h3⟩:=h;refine⟨⟨way,hk b (by simp [TI.all]) ?_ _ h1,h2⟩,hM⟩;rintro rfl;rw [a] at h1;cases h1
 | lst b s tb m' l0=>
  simp only [TI.mp,Yb,Prod.mk.injEq] at hm;obtain⟨rfl,rfl⟩:=hm;obtain⟨h0,⟨v,n,xs,h1,h2,h3,h4,h5⟩,⟨way,h6⟩,h7⟩:=h;refine⟨h0,⟨v,n,xs,hk b (by simp [TI.all]) ?_ _ h1,Bi h2 (fun g o hg ho=>hk g ?_ ?_ o ho),h3,h4,h5⟩,⟨way,hk tb (by simp [TI.all]) ?_ _ h6⟩,hM⟩
  ·rintro rfl;rw [a] at h1;cases h1
  ·rw [h3] at hg;simp only [Yb] at hg;subst hg;simp [TI.all]
  ·rintro rfl;rcases h2.2 with ⟨rfl,_⟩|⟨g',cap,cur,rfl,_,c,_⟩
   ·simp [Value.ownBlock] at hg
   ·simp only [Value.ownBlock,Yb] at hg;subst hg;rw [a] at c;cases c
  ·rintro rfl;rw [a] at h6;cases h6
structure J (B K:Nat) (w:World) (base:Nat) (es:List Cs) (f:Nat->Option TI):Prop where
 ord:Kc es
 at_:∀i t,f i=some t->∃e,es[i]?=some e/\t.at B K w (i=base) e
 bas:∃b m l,f base=some (.tab b m l)
 names:∀i t m l,f i=some t->t.mp=some (m,l)->∀k,(Du es i k=none/\Yq l k=none)∨∃j u,Du es i k=some j/\j≠base/\f j=some u/\Yq l k=some u.blk
 low:∀i t,f i=some t->∀x∈t.all,B<=x
 inj:∀i j t u x,f i=some t->f j=some u->x∈t.all->x∈u.all->i=j
theorem TI.at_K {B K K' w root e} {t:TI} (h:t.at B K w root e) (hk:K<=K'):t.at B K' w root e:=by
 cases t with
 | val b=>exact h
 | tab b m l=>exact h
 | lst b s tb m l=>
  obtain⟨h0,⟨v,n,xs,h1,h2,h3,h4,h5,h6⟩,h7⟩:=h;exact⟨h0,⟨v,n,xs,h1,h2,h3,h4,Nat.le_trans h5 hk,h6⟩,h7⟩
theorem J.toK {B K K' w base es f} (h:J B K w base es f) (hk:K<=K'):J B K' w base es f:=
 ⟨h.ord,fun i t hi=>by obtain⟨e,he,ht⟩:=h.at_ i t hi;exact⟨e,he,TI.at_K ht hk⟩,h.bas,h.names,h.low,h.inj⟩
def Xi (f f':Nat->Option TI):Prop:=∀i t,f i=some t->∃l,f' i=some (t.setL l)
theorem TI.setL_setL (l l') (t:TI):(t.setL l).setL l'=t.setL l':=by cases t<;>rfl
theorem TI.setL_self (t:TI):∃l,t.setL l=t:=by
 cases t with
 | val b=>exact⟨[],rfl⟩
 | tab b m l=>exact⟨l,rfl⟩
 | lst b s tb m l=>exact⟨l,rfl⟩
theorem Xi.refl (f):Xi f f:=fun i t h=>by
 obtain⟨l,hl⟩:=t.setL_self;exact⟨l,by rw [hl];exact h⟩
theorem Xi.trans {f g h} (a:Xi f g) (b:Xi g h):Xi f h:=fun i t ht=>by
 obtain⟨l,hl⟩:=a i t ht;obtain⟨l',c⟩:=b i _ hl;exact⟨l',by rw [c,TI.setL_setL]⟩
theorem J.lt {B K w base es f} (h:J B K w base es f) {i t} (hi:f i=some t):i<es.length:=by
 obtain⟨e,he,_⟩:=h.at_ i t hi;exact (Yc.1 he).1
theorem TI.all_lt {B K w root e} {t:TI} (h:t.at B K w root e):∀x∈t.all,x<w.heap.size:=by
 cases t with
 | val b=>
  obtain⟨_,_,_,_,_,h1,_⟩:=h;intro x hx;simp only [TI.all,List.mem_cons,List.not_mem_nil,or_false] at hx;subst hx;exact Ah h1
 | tab b m l=>
  obtain⟨⟨_,h1,_⟩,h2⟩:=h;intro x hx;simp only [TI.all,List.mem_cons,List.not_mem_nil,or_false] at hx;rcases hx with rfl|rfl
  ·exact Ah h1
  ·exact h2.lt
 | lst b s tb m l=>
  obtain⟨_,⟨v,n,xs,h1,h2,h3,_⟩,⟨_,h4⟩,h5⟩:=h;intro x hx;simp only [TI.all,List.mem_cons,List.not_mem_nil,or_false] at hx;rcases hx with rfl|rfl|rfl|rfl
  ·exact Ah h1
  ·rcases h2.2 with ⟨rfl,_⟩|⟨g',cap,cur,rfl,_,a,_⟩
   ·simp [Value.ownBlock] at h3
   ·simp only [Value.ownBlock,Yb] at h3;subst h3;exact Ah a
  ·exact Ah h4
  ·exact h5.lt
theorem J.all_lt {B K w base es f} (h:J B K w base es f) {i t} (hi:f i=some t):∀x∈t.all,x<w.heap.size:=by
 obtain⟨e,_,ht⟩:=h.at_ i t hi;exact TI.all_lt ht
theorem J.keep {B K w w' base es f} (h:J B K w base es f) (hk:∀x o,B<=x->w.heap[x]?=some o->w'.heap[x]?=some o):J B K w' base es f:=
 ⟨h.ord,fun i t hi=>by obtain⟨e,he,ht⟩:=h.at_ i t hi;exact⟨e,he,TI.at_keep ht (fun x hx o ho=>hk x o (h.low i t hi x hx) ho)⟩,h.bas,h.names,h.low,h.inj⟩
theorem J.ext {B K w base es more f} (h:J B K w base es f) (hO:Kc (es++more)) (hm:∀i t m l,f i=some t->t.mp=some (m,l)->∀e∈more,e.parent≠(i:Int)):J B K w base (es++more) f:=by
 refine⟨hO,fun i t hi=>?_,h.bas,fun i t m l hi hp k=>?_,h.low,h.inj⟩
 ·obtain⟨e,he,ht⟩:=h.at_ i t hi;exact⟨e,by rw [Yf (h.lt hi)];exact he,ht⟩
 ·rw [kI (h.lt hi) k (hm i t m l hi hp)];exact h.names i t m l hi hp k
theorem J.add {B K w w' base es f p t m l} (h:J B K w base es f) (hp:f p=some t) (hm:t.mp=some (m,l)) (k:Bs) (hf:Du es p k=none) (kd:Nat) (x:Bool) (ad:kd<=5) (s:kd≠0) (d:kd≠5) (u:TI)
  (hu:u.at B K w' False ⟨p,kd,x,k⟩) (ae:∀y∈u.all,B<=y) (z:∀y∈u.all,w.heap.size<=y) (af:∀m2 l2,u.mp=some (m2,l2)->l2=[])
  (hk:∀y o,y≠m->w.heap[y]?=some o->w'.heap[y]?=some o) (hM:MP w' m (l++[(k,u.blk)])):
  J B K w' base (es++[⟨p,kd,x,k⟩]) (fun j=>if j=es.length then some u else if j=p then some (t.setL (l++[(k,u.blk)])) else f j):=by
 have g:=h.lt hp;have hO:=h.ord.snoc (nm:=k) (x:=x) g ad s;obtain⟨b0,m0,l0,n⟩:=h.bas;have ai:=h.lt n;have ag:Yq l k=none:=by
  rcases h.names p t m l hp hm k with h1|⟨j,u',h1,_⟩
  ·exact h1.2
  ·rw [hf] at h1;cases h1
 have cas:∀j v,(if j=es.length then some u else if j=p then some (t.setL (l++[(k,u.blk)])) else f j)=some v->(j=es.length/\v=u)∨(j=p/\v=t.setL (l++[(k,u.blk)]))∨(j≠es.length/\j≠p/\f j=some v):=by
  intro j v hv;split at hv
  ·rename_i h1;exact .inl ⟨h1,by simpa using hv.symm⟩
  ·split at hv
   ·rename_i h1;exact .inr (.inl ⟨h1,by simpa using hv.symm⟩)
   ·rename_i h1 h2;exact .inr (.inr ⟨h1,h2,hv⟩)
 have al:∀j v,(if j=es.length then some u else if j=p then some (t.setL (l++[(k,u.blk)])) else f j)=some v->(j=es.length/\v=u)∨(∃v0,f j=some v0/\v.all=v0.all):=by
  intro j v hv;rcases cas j v hv with h1|⟨rfl,rfl⟩|⟨_,_,h1⟩
  ·exact .inl h1
  ·exact .inr ⟨t,hp,TI.setL_all _ _⟩
  ·exact .inr ⟨v,h1,rfl⟩
 refine⟨hO,fun i v hv=>?_,?_,fun i v m' l' hv a k'=>?_,fun i v hv y hy=>?_,fun i j v v' y hv aa hy b=>?_⟩
 ·rcases cas i v hv with ⟨rfl,rfl⟩|⟨rfl,rfl⟩|⟨h1,h2,h3⟩
  ·refine⟨⟨p,kd,x,k⟩,by simp,?_⟩;have:¬(es.length=base):=(by omega);simpa [this] using hu
  ·obtain⟨e,he,ht⟩:=h.at_ i t hp;exact⟨e,by rw [Yf g];exact he,TI.at_names ht hm (fun y _ hy o ho=>hk y o hy ho) hM⟩
  ·obtain⟨e,he,ht⟩:=h.at_ i v h3;refine⟨e,by rw [Yf (h.lt h3)];exact he,TI.at_keep ht (fun y hy o ho=>hk y o ?_ ho)⟩;rintro rfl;exact h2 (h.inj i p v t y h3 hp hy (TI.mp_all hm))
 ·by_cases ab:base=p
  ·subst ab;rw [n] at hp;simp only [Yb] at hp;subst hp;refine⟨b0,m0,l++[(k,u.blk)],?_⟩;rw [if_neg (by omega),if_pos rfl];rfl
  ·exact⟨b0,m0,l0,by rw [if_neg (by omega),if_neg ab];exact n⟩
 ·rcases cas i v hv with ⟨rfl,rfl⟩|⟨rfl,rfl⟩|⟨h1,h2,h3⟩
  ·have:=af m' l' a;subst this;exact .inl ⟨Wd (by simp) k',rfl⟩
  ·rw [TI.setL_mp hm] at a;simp only [Yb,Prod.mk.injEq] at a;obtain⟨rfl,rfl⟩:=a;rw [Wb g k' d,hZ k u.blk l k' ag];by_cases ac:k'=k
   ·subst ac;refine .inr ⟨es.length,u,by simp [hf],by omega,by simp,by simp⟩
   ·simp only [ac,and_false,if_false];rcases h.names i t m l hp hm k' with ⟨h1,h2⟩|⟨j,u',h1,c,h2,h3⟩
    ·exact .inl ⟨by simp [h1],h2⟩
    ·refine .inr ⟨j,if j=i then t.setL (l++[(k,u.blk)]) else u',by simp [h1],c,?_,?_⟩
     ·have:=h.lt h2;rw [if_neg (by omega)];split
      ·rfl
      ·exact h2
     ·split
      ·rename_i q;subst q;rw [hp] at h2;simp only [Yb] at h2;subst h2;rw [TI.setL_blk];exact h3
      ·exact h3
  ·rw [Wb (h.lt h3) k' d];simp only [h2,false_and,if_false];rcases h.names i v m' l' h3 a k' with ⟨h4,h5⟩|⟨j,u',h4,ah,h5,h6⟩
   ·exact .inl ⟨by simp [h4],h5⟩
   ·refine .inr ⟨j,if j=p then t.setL (l++[(k,u.blk)]) else u',by simp [h4],ah,?_,?_⟩
    ·have:=h.lt h5;rw [if_neg (by omega)];split
     ·rfl
     ·exact h5
    ·split
     ·rename_i q;subst q;rw [hp] at h5;simp only [Yb] at h5;subst h5;rw [TI.setL_blk];exact h6
     ·exact h6
 ·rcases al i v hv with ⟨rfl,rfl⟩|⟨v0,h1,h2⟩
  ·exact ae y hy
  ·rw [h2] at hy;exact h.low i v0 h1 y hy
 ·rcases al i v hv with ⟨rfl,rfl⟩|⟨v0,h1,h2⟩
  ·rcases al j v' aa with ⟨rfl,rfl⟩|⟨v0',c,r⟩
   ·rfl
   ·rw [r] at b;have:=h.all_lt c y b;have:=z y hy;omega
  ·rw [h2] at hy;rcases al j v' aa with ⟨rfl,rfl⟩|⟨v0',c,r⟩
   ·have:=h.all_lt h1 y hy;have:=z y b;omega
   ·rw [r] at b;exact h.inj i j v0 v0' y h1 c hy b
theorem Xi.add {f:Nat->Option TI} {n p:Nat} {t u:TI} {l} (hn:f n=none) (hp:f p=some t):Xi f (fun j=>if j=n then some u else if j=p then some (t.setL l) else f j):=by
 intro i v hv;have a:i≠n:=by rintro rfl;rw [hn] at hv;cases hv
 by_cases b:i=p
 ·subst b;rw [hp] at hv;simp only [Yb] at hv;subst hv;exact⟨l,by simp [a]⟩
 ·obtain⟨l',c⟩:=v.setL_self;exact⟨l',by simp only [if_neg a,if_neg b];rw [c];exact hv⟩
theorem J.none_at {B K w base es f} (h:J B K w base es f):f es.length=none:=by
 cases hf:f es.length with
 | none=>rfl
 | some t=>have:=h.lt hf;omega
theorem J.one {B K w base es b m way} (hO:Kc es) (hb:base+1=es.length) (h1:w.heap[b]?=some (.cells (cR way m) 81 (0,0))) (h2:MP w m []) (hB:B<=b) (hm:B<=m):J B K w base es (fun j=>if j=base then some (.tab b m []) else none):=by
 have a:∀i t,(if i=base then some (TI.tab b m []) else none)=some t->i=base/\t=.tab b m []:=by
  intro i t h;split at h
  ·exact⟨by assumption,by simpa using h.symm⟩
  ·cases h
 refine⟨hO,fun i t hi=>?_,⟨b,m,[],by simp⟩,fun i t m' l' hi hp k=>?_,fun i t hi x hx=>?_,fun i j t u x hi hj _ _=>?_⟩
 ·obtain⟨rfl,rfl⟩:=a i t hi;exact⟨es[i],Yd (by omega),⟨way,h1,fun h=>absurd rfl h⟩,h2⟩
 ·obtain⟨rfl,rfl⟩:=a i t hi;simp only [TI.mp,Yb,Prod.mk.injEq] at hp;obtain⟨rfl,rfl⟩:=hp;exact .inl ⟨Wd (by omega) k,rfl⟩
 ·obtain⟨rfl,rfl⟩:=a i t hi;simp only [TI.all,List.mem_cons,List.not_mem_nil,or_false] at hx;rcases hx with rfl|rfl
  ·exact hB
  ·exact hm
 ·rw [(a i t hi).1,(a j u hj).1]
end
section
attribute [local irreducible] binOp IntKind.wrap Sem.run
theorem bdTab (way m:Nat) (w:World):(Instr.build 81 ⟨[(0,.int .i64 0),(1,.int .i64 (way:Int)),(2,.map (some m))]⟩).run PP w=.ok (.agg (cR way m)) w:=by kernel_rfl
theorem Ll (way:Nat) (w:World):Calls PP 30 #[.int .i64 (way:Int)] w fun e w'=>∃b m,e=.returned (pt b)/\w.heap.size<=b/\w.heap.size<=m/\w'.heap[b]?=some (.cells (cR way m) 81 (0,0))/\MP w' m []/\Up w.heap.size w w':=by
 refine Bf (L:=[(0,.int .i64 (way:Int))]) Tryz.func30 Z Z Z ⟨Z,V⟩ ?_;repeat first|refine Aa Z ?_|apply Ab|apply Ac
 refine WL.mm Z Z Z (fun w1 hA=>?_);skip;refine Cx Z Z (bdTab way _) Z ?_;refine Gl Z Z Z (fun w2 a=>?_);have hM:=MP.new hA;have c:w1.heap.size=w.heap.size+1:=hA.size;repeat first|refine Aa Z ?_|apply Ab|apply Ai
 exact Ak Z Z ⟨_,_,rfl,by omega,Nat.le_refl _,a.at_,hM.keep (fun o ho=>a.keep ho),(hA.up Y).trans (a.up (by omega))⟩
theorem J.tb {B K w base es f i t} (h:J B K w base es f) (hi:f i=some t) (hm:t.mp≠none):∃way m l,t.mp=some (m,l)/\w.heap[t.tbl]?=some (.cells (cR way m) 81 (0,0))/\MP w m l:=by
 obtain⟨e,_,ht⟩:=h.at_ i t hi;cases t with
 | val b=>exact absurd rfl hm
 | tab b m l=>
  obtain⟨⟨way,h1,_⟩,h2⟩:=ht;exact⟨way,m,l,rfl,h1,h2⟩
 | lst b s tb m l=>
  obtain⟨_,_,⟨way,h1⟩,h2⟩:=ht;exact⟨way,m,l,rfl,h1,h2⟩
theorem Xi.mp {f f':Nat->Option TI} (h:Xi f f') {i t} (hi:f i=some t):∃t',f' i=some t'/\t'.tbl=t.tbl/\t'.blk=t.blk/\(t.mp≠none->t'.mp≠none):=by
 obtain⟨l,hl⟩:=h i t hi;exact⟨_,hl,TI.setL_tbl _ _,TI.setL_blk _ _,by cases t<;>simp [TI.mp,TI.setL]⟩
def Nm (w w':World):Prop:=∀(x:Nat) (o:Obj),w.heap[x]?=some o->Ce o≠1000->w'.heap[x]?=some o
theorem Nm.refl (w:World):Nm w w:=fun _ _ h _=>h
theorem Nm.trans {a b c:World} (h:Nm a b) (g:Nm b c):Nm a c:=fun x o ho ht=>g x o (h x o ho ht) ht
theorem Up.nm {w w':World} (h:Up w.heap.size w w'):Nm w w':=fun _ _ ho _=>h.at (Ah ho) ho
theorem MP.nm {w w':World} {m:Nat} {l} {o:Obj} (h:MP w m l) (hS:St w m o w'):Nm w w':=fun x o' ho ht=>hS.keep ho (by
 rintro rfl;obtain⟨mes,mc,hm,_⟩:=h;rw [hm] at ho;cases ho;exact ht rfl)
theorem cN (B K base r:Nat) (es:List Cs) (f:Nat->Option TI) (P:Nat->Prop) (kv:Value) (ks:List Bs) (w:World) (hJ:J B K w base es f) (t0:TI) (hr:f base=some t0) (ak:t0.tbl=r) (al:t0.mp≠none)
  (hR:RS w P kv ks) (hP:∀b,P b->b<B) (h0:ks≠[]) (hB:B<=w.heap.size) (bz:ks.length<=1000000000):
  Calls PP 32 #[pt r,kv] w fun e w'=>∃es' o f',Ib ks es base=(es',o)/\J B K w' base es' f'/\Xi f f'/\(Up B w w'/\Nm w w')/\
   ((o=none/\e=.returned (.pointer none))∨∃p k t,o=some (p,k)/\ks[ks.length-1]?=some k/\f' p=some t/\t.mp≠none/\e=.returned (pt t.tbl)):=by
 obtain⟨ad,cap,rfl,af⟩:=hR;obtain⟨b,dcs,fz,⟨ax,bu⟩,rfl,hb,ay⟩:=af h0;have az:=hP b ax;have ca:0<ks.length:=List.length_pos_iff.2 h0;clear af;refine Bf (L:=[(0,pt r),(1,.slice (F b) ks.length cap)]) Tryz.func32 Z Z Z ⟨Z,Z,V⟩ ?_;repeat first|refine Aa Z ?_|apply Ab|apply Ac|refine Ub (ks.length-1) Z Z (by simp only [Option.getD];omega) (by omega) Z ?_|apply Ad|apply Ag|refine Fs Z Z (by omega) Z ?_
 refine Bg (σ:=Nat×List Cs×(Nat->Option TI)×Nat×Nat) (I:=fun s w'=>J B K w' base s.2.1 s.2.2.1/\Xi f s.2.2.1/\(Up B w w'/\Nm w w')/\s.1+1<=ks.length/\Ib (ks.drop s.1) s.2.1 s.2.2.2.1=Ib ks es base/\∃t,s.2.2.1 s.2.2.2.1=some t/\t.mp≠none/\t.tbl=s.2.2.2.2)
  (m:=fun s=>ks.length-s.1) (Lf:=fun s=>[(0,pt s.2.2.2.2),(4,.pointer none),(13,.slice (F b) (ks.length-1) cap),(14,.int .i64 ((ks.length-1:Nat):Int)),(15,.int .i64 (s.1:Int))])
  (0,es,f,base,r) ⟨hJ,Xi.refl f,⟨Up.refl _ _,Nm.refl _⟩,by omega,rfl,t0,hr,al,ak⟩ ⟨Z,Z,Z,Z,Z,V⟩ ?_
 clear hJ hr ak al;rintro⟨m,es1,f1,p,q⟩ w1 ⟨hJ,hE,⟨hU,aa⟩,hm,c,t,ht,am,ag⟩;dsimp only at hJ hE hm c ht ag ⊢;obtain⟨k,hk⟩:∃k,ks[m]?=some k:=⟨_,Yd (by omega)⟩;have d:ks.drop m=k::ks.drop (m+1):=(List.drop_eq_getElem?_toList_append).trans (by rw [hk];rfl);obtain⟨way,mb,l,ah,ac,hM⟩:=hJ.tb ht am;rw [ag] at ac;by_cases ba:m<ks.length-1
 ·have an:w1.cell? ⟨b,m,none⟩=some (Bm k):=Ar (hU.at az hb) (ay m k hk);obtain⟨k2,bb⟩:∃k2,ks[m+1]?=some k2:=⟨_,Yd (by omega)⟩;have z:ks.drop (m+1)=k2::ks.drop (m+1+1):=(List.drop_eq_getElem?_toList_append).trans (by rw [bb];rfl);(repeat first|refine Aa Z ?_|apply Ab|apply Ac|refine Ao Z (by first|omega|decide) ?_|refine Ax (i:=m) Z Z Z ba (by rw [Yi,Nat.mul_one];rfl) ?_|refine Aw Z Z an Z ?_|refine Av Z Z ac Z Z ?_|refine eR (m:=mb) (k:=k) l Z Z hM Z ?_|apply Ad|apply Ag|apply An|apply Af);rcases hJ.names p t mb l ht ah k with ⟨ao,ae⟩|⟨j,u,bc,bd,hu,ae⟩
  ·rw [ae];simp only [Option.isSome_none,hH];(repeat first|apply Ac|refine Bn Z (by first|with_reducible rfl|exact Bool.not_false) ?_);refine Ae Z Z Z (Ll 0 w1) ?_;rintro e w2 ⟨b2,m2,rfl,cb,cc,be,bf,h⟩;refine T2 Z Z ?_;have ap:=h.at (Ah ac) ac;have ai:=hM.lt;(repeat first|refine Aa Z ?_|apply Ab|refine Av Z Z ap Z Z ?_|apply Am);refine Xe (m:=mb) (k:=k) (b:=b2) l Z Z (hM.keep (fun o ho=>h.at ai ho)) ae Z (fun w3 ob ab bg cd=>?_);have aq:=ab.keep be (by omega);have bw:=h.size;have bh:=hJ.add ht ah k ao 3 false (by omega) (by omega) (by omega) (.tab b2 m2 []) (w':=w3) ⟨⟨0,aq,fun _=>.inr ⟨rfl,rfl⟩⟩,bf.keep (fun o ho=>ab.keep ho (by omega))⟩
    (fun y hy=>by simp only [TI.all,List.mem_cons,List.not_mem_nil,or_false] at hy;have:=hU.size;rcases hy with rfl|rfl<;>omega)
    (fun y hy=>by simp only [TI.all,List.mem_cons,List.not_mem_nil,or_false] at hy;rcases hy with rfl|rfl<;>omega)
    (fun m' l' h'=>by simp only [TI.mp,Yb,Prod.mk.injEq] at h';exact h'.2.symm)
    (fun y o hy ho=>ab.keep (h.at (Ah ho) ho) hy) bg
   have bi:B<=mb:=hJ.low p t ht mb (TI.mp_all ah);have bj:Up B w w3:=(hU.trans (h.mono (Nat.le_trans hB hU.size))).trans (ab.up bi);(repeat first|refine Aa Z ?_|apply Ab|apply Ac|refine Aj Z (by first|omega|decide) ?_|refine Av Z Z aq Z Z ?_|refine Au Z ?_|apply Ad|apply Am|apply Ag|apply Aq|apply An|apply Bj|apply Af|refine Ay Z Z (by omega) Z ?_|refine Az Z Z (by first|omega|decide) ?_);refine Ap (m+1,es1++[⟨p,3,false,k⟩],_,es1.length,b2) ⟨bh,hE.trans (Xi.add hJ.none_at ht),⟨bj,aa.trans (h.nm.trans ((hM.keep (fun o ho=>h.at ai ho)).nm ab))⟩,by dsimp only;omega,?_,.tab b2 m2 [],if_pos rfl,by simp [TI.mp],rfl⟩ (by dsimp only;omega) ⟨Z,Z,Z,Z,Z,V⟩;dsimp only;rw [<-c,d,z];simp only [Ib,ao]
  ·rw [ae];simp only [Option.isSome_some,hH];obtain⟨ej,bk,aj⟩:=hJ.at_ j u hu;have a:Ib (ks.drop m) es1 p=if ej.kind=2∨ej.kind=3∨ej.kind=4 then Ib (ks.drop (m+1)) es1 j else (es1,none):=by
    rw [d,z];simp only [Ib,bc,Iv,bk]
   (repeat first|refine Aa Z ?_|apply Ac|refine Bb Z (by first|with_reducible rfl|exact Bool.not_true) ?_|apply Ad|apply Ag|apply An|apply Af);cases u with
   | val bv=>
    obtain⟨ce,kd,wy,x,y,ar,bm⟩:=aj;simp only [TI.blk];rw [if_neg (by omega)] at a;rcases bm with ⟨rfl,rfl⟩|⟨rfl,rfl⟩
    ·(repeat first|refine Aa Z ?_|apply Ab|apply Ac|refine Bn Z (by first|with_reducible rfl|exact Bool.not_false) ?_|refine Av Z Z ar Z Z ?_|refine Au Z ?_|apply Bl|apply Bv|apply Ai|refine Bc Z Z (by first|omega|decide) ?_);exact Ak Z Z ⟨es1,none,f1,by rw [<-c,a],hJ,hE,⟨hU,aa⟩,.inl ⟨rfl,rfl⟩⟩
    ·(repeat first|refine Aa Z ?_|apply Ab|apply Ac|refine Ao Z (by first|omega|decide) ?_|refine Av Z Z ar Z Z ?_|refine Au Z ?_|apply Bl|apply Bv|apply Ai|refine Az Z Z (by first|omega|decide) ?_);exact Ak Z Z ⟨es1,none,f1,by rw [<-c,a],hJ,hE,⟨hU,aa⟩,.inl ⟨rfl,rfl⟩⟩
   | tab bt mt lt=>
    obtain⟨⟨wy,bn,hw⟩,cf⟩:=aj;simp only [TI.blk];have bo:=hw bd;rw [if_pos (by omega)] at a;have cg:(wy:Int)≠3:=by
     rcases bo with ⟨_,rfl⟩|⟨_,rfl⟩
     ·omega
     ·cases ej.expl<;>simp
    (repeat first|refine Aa Z ?_|apply Ab|apply Ac|refine Aj Z (by first|omega|decide) ?_|refine Av Z Z bn Z Z ?_|refine Au Z ?_|apply Am|apply Aq|apply An|apply Bj|apply Af|refine Ay Z Z (by omega) Z ?_|refine Az Z Z (by first|omega|decide) ?_);exact Ap (m+1,es1,f1,j,bt) ⟨hJ,hE,⟨hU,aa⟩,by dsimp only;omega,by rw [<-c,a],.tab bt mt lt,hu,by simp [TI.mp],rfl⟩ (by dsimp only;omega) ⟨Z,Z,Z,Z,Z,V⟩
   | lst bl sl tl ml ll=>
    obtain⟨ch,⟨v,n,xs,au,hO,hv,ci,cj,av⟩,⟨wy,ck⟩,ai⟩:=aj;simp only [TI.blk];rw [if_pos (by omega)] at a;rcases hO.2 with ⟨rfl,_⟩|⟨g,cp,cur,rfl,cl,hg,cm,bp,cn,bq⟩
    ·simp [Value.ownBlock] at hv
    have bx:cp<=9223372036854775807:=bp;(repeat first|refine Aa Z ?_|apply Ab|apply Ac|refine Ao Z (by first|omega|decide) ?_|refine Aj Z (by first|omega|decide) ?_|refine Av Z Z au Z Z ?_|refine Au Z ?_|refine Az Z Z (by first|omega|decide) ?_);have hd:w1.drew.heap=w1.heap:=rfl;have k3:∀w':World,w'.heap=w1.heap->w'.cell? ⟨bl,3,none⟩=some (.slice (F g) n cp):=fun w' hw=>Ar (by rw [hw];exact au) rfl;have br:cur[0+(n-1)*1]?=some (pt tl):=by
     rw [<-bq,Nat.mul_one,List.getElem?_take,if_pos (by omega)] at av;rw [Yi,Nat.mul_one];simpa using av
    have k5:∀w':World,w'.heap=w1.heap->w'.cell? ⟨g,0+(n-1)*1,none⟩=some (pt tl):=fun w' hw=>Ar (by rw [hw];exact hg) br;refine Cp (fun w'=>w'.heap=w1.heap) ?_;(repeat first|refine Cg (by kernel_rfl) (by first|trivial|assumption) Z ?_|refine Cl (by kernel_rfl) hd Z Z k3 Z ?_|refine Il (i:=n-1) (by kernel_rfl) hd Z Z (by omega) (by omega) Z ?_|refine Cl (by kernel_rfl) hd Z Z k5 Z ?_|refine WX.su (by kernel_rfl) (by first|trivial|assumption) Z Z (by omega) Z ?_);refine Co ?_;(repeat first|refine Aa Z ?_|apply Am|apply Aq|apply An|apply Bj|refine Ay Z Z (by omega) Z ?_);exact Ap (m+1,es1,f1,j,tl) ⟨hJ.keep (fun _ _ _ ho=>ho),hE,⟨hU.drew,fun x o ho ht=>aa x o ho ht⟩,by dsimp only;omega,by rw [<-c,a],_,hu,by simp [TI.mp],rfl⟩ (by dsimp only;omega) ⟨Z,Z,Z,Z,Z,V⟩
 ·have bs:m=ks.length-1:=(by omega);have aw:ks.drop (m+1)=[]:=List.drop_eq_nil_of_le (by omega);have a:Ib (ks.drop m) es1 p=(es1,some (p,k)):=by
   rw [d,aw];rfl
  (repeat first|refine Aa Z ?_|apply Ab|apply Ac|refine Aj Z (by first|omega|decide) ?_|apply Ad|apply An|apply Cn|apply Ci|apply Ba|apply Ai);refine Ak Z Z ⟨es1,some (p,k),f1,by rw [<-c,a],hJ,hE,⟨hU,aa⟩,.inr ⟨p,k,t,rfl,by rw [<-bs];exact hk,ht,am,by rw [ag];rfl⟩⟩
end
section
def Tj (p:Nat) (es es':List Cs):Prop:=∃more,es'=es++more/\∀e∈more,(p:Int)<=e.parent
theorem Tj.refl (p:Nat) (es:List Cs):Tj p es es:=⟨[],by simp,by simp⟩
theorem Tj.trans {p q:Nat} {a b c:List Cs} (h:Tj p a b) (g:Tj q b c) (hq:p<=q):Tj p a c:=by
 obtain⟨x,rfl,hx⟩:=h;obtain⟨y,rfl,hy⟩:=g;refine⟨x++y,by simp,fun e he=>?_⟩;rcases List.mem_append.1 he with h|h
 ·exact hx e h
 ·have:=hy e h;omega
theorem Tj.snoc (p:Nat) (es:List Cs) (k:Nat) (x:Bool) (nm:Bs):Tj p es (es++[⟨p,k,x,nm⟩]):=⟨_,rfl,by simp⟩
theorem Tj.len {p:Nat} {es es':List Cs} (h:Tj p es es'):es.length<=es'.length:=by
 obtain⟨x,rfl,_⟩:=h;simp
theorem bU {f:List Cs->Nat->List Cs×Bool} (hf:∀es id,id<es.length->Tj id es (f es id).1):∀(ks:List Bs) (es:List Cs) (p:Nat),p<es.length->Tj p es (Ky f ks es p).1
 | [],es,p,_=>Tj.refl p es
 | [k],es,p,hp=>by
  simp only [Ky];split
  ·exact Tj.refl p es
  ·exact (Tj.snoc p es 1 false k).trans (hf _ es.length (by simp)) (by omega)
 | k::k2::ks,es,p,hp=>by
  simp only [Ky];split
  ·exact (Tj.snoc p es 2 false k).trans (bU hf (k2::ks) _ es.length (by simp)) (by omega)
  ·rename_i i hi;split
   ·have:=Jz hi;exact (Tj.refl p es).trans (bU hf (k2::ks) es i (Ii hi)) (by omega)
   ·exact Tj.refl p es
mutual
theorem bP:∀(v:Bz) (es:List Cs) (id:Nat),id<es.length->Tj id es (Hy v es id).1
 | .sc _ _,es,id,_=>by rw [Hy];exact Tj.refl _ _
 | .arr vs,es,id,h=>by rw [Hy];exact ckIs_beh vs es id h
 | .tbl ts,es,id,h=>by rw [Hy];exact ckEs_beh ts es id h
theorem ckIs_beh:∀(vs:List Bz) (es:List Cs) (id:Nat),id<es.length->Tj id es (Fg vs es id).1
 | [],es,id,_=>by rw [Fg];exact Tj.refl _ _
 | v::vs,es,id,h=>by
  rw [Fg];split
  ·exact ckIs_beh vs es id h
  ·have h1:=bP v (es++[⟨id,5,false,[]⟩]) es.length (by simp);have h2:Tj id es (Hy v (es++[⟨id,5,false,[]⟩]) es.length).1:=(Tj.snoc id es 5 false []).trans h1 (by omega);split
   ·rename_i es' he;rw [he] at h2;exact h2.trans (ckIs_beh vs es' id (by have:=h2.len;simp only at this;omega)) Y
   ·rename_i es' he;rw [he] at h2;exact h2
theorem ckEs_beh:∀(ts:List (List Bs×Bz)) (es:List Cs) (id:Nat),id<es.length->Tj id es (Hu ts es id).1
 | [],es,id,_=>by rw [Hu];exact Tj.refl _ _
 | (ks,v)::ts,es,id,h=>by
  rw [Hu];have h2:Tj id es (Ky (Hy v) ks es id).1:=bU (fun es id h=>bP v es id h) ks es id h;split
  ·rename_i es' he;rw [he] at h2;exact h2.trans (ckEs_beh ts es' id (by have:=h2.len;simp only at this;omega)) Y
  ·rename_i es' he;rw [he] at h2;exact h2
end
theorem Wr:∀(a b:List Bz) (es:List Cs) (id:Nat),Fg (a++b) es id=if (Fg a es id).2 then Fg b (Fg a es id).1 id else Fg a es id
 | [],b,es,id=>by simp [Fg]
 | v::a,b,es,id=>by
  simp only [List.cons_append,Fg];split
  ·exact Wr a b es id
  ·split
   ·rename_i es' he;exact Wr a b es' id
   ·simp
theorem eK:∀(a b:List (List Bs×Bz)) (es:List Cs) (id:Nat),Hu (a++b) es id=if (Hu a es id).2 then Hu b (Hu a es id).1 id else Hu a es id
 | [],b,es,id=>by simp [Hu]
 | (ks,v)::a,b,es,id=>by
  simp only [List.cons_append,Hu];obtain⟨⟨es',ok⟩,hr⟩:∃r,Ky (Hy v) ks es id=r:=⟨_,rfl⟩;simp only [hr];cases ok
  ·simp
  ·exact eK a b es' id
attribute [local irreducible] binOp IntKind.wrap Sem.run
mutual
def Pw:Bz->Prop
 | .sc k _=>k<8
 | .arr vs=>vs.length<=1000000000/\MkI vs
 | .tbl es=>es.length<=1000000000/\MkE es
def MkI:List Bz->Prop
 | []=>True
 | v::vs=>Pw v/\MkI vs
def MkE:List (List Bs×Bz)->Prop
 | []=>True
 | (ks,v)::es=>(ks≠[]/\ks.length<=1000000000)/\Pw v/\MkE es
end
theorem MkI.mem:∀{vs:List Bz},MkI vs->∀v∈vs,Pw v
 | [],_,v,hv=>by simp at hv
 | u::us,h,v,hv=>by
  simp only [MkI] at h;rcases List.mem_cons.1 hv with e|hv
  ·rw [e];exact h.1
  ·exact MkI.mem h.2 v hv
theorem MkE.mem:∀{es:List (List Bs×Bz)},MkE es->∀ks v,(ks,v)∈es->(ks≠[]/\ks.length<=1000000000)/\Pw v
 | [],_,ks,v,hv=>by simp at hv
 | (ks',u)::us,h,ks,v,hv=>by
  simp only [MkE] at h;rcases List.mem_cons.1 hv with e|hv
  ·simp only [Prod.mk.injEq] at e;rw [e.1,e.2];exact⟨h.1,h.2.1⟩
  ·exact MkE.mem h.2.2 ks v hv
def Rw (v:Bz):Prop:=∀(es:List Cs) (id:Nat),Pw v->Kc es->id+1=es.length->∀(P:Nat->Prop) (a b c d:Value) (w:World),Nd w P v a b c->Bp d=true->(∀g,P g->g<w.heap.size)->
 Calls PP 58 #[.agg ⟨[a,b,c,d]⟩] w fun e w'=>∃(st x kd way:Nat) (y z:Value),e=.returned (.tuple #[pt x,.int .i64 (st:Int)])/\w.heap.size<=x/\w'.heap[x]?=some (.cells ⟨[.int .i64 (kd:Nat),.int .i64 (way:Nat),y,z]⟩ 81 (0,0))/\(kd=2/\way=0∨kd=0/\way=3)/\
  Up w.heap.size w w'/\(st=0↔(Hy v es id).2=true)
theorem gZ (v:Bz) (hv:Rw v) (bx:Pw v) (B K base p q:Nat) (es:List Cs) (f:Nat->Option TI) (t0:TI) (P:Nat->Prop) (kv:Value) (ks:List Bs) (a b' c d:Value) (w:World) (hJ:J B K w base es f) (hp:f p=some t0) (be:t0.mp≠none) (bf:t0.tbl=q)
  (hR:RS w P kv ks) (hN:Nd w P v a b' c) (hd:Bp d=true) (hP:∀b,P b->b<B) (h0:ks≠[]) (hB:B<=w.heap.size) (cx:ks.length<=1000000000):
  Calls PP 31 #[pt q,kv,.agg ⟨[a,b',c,d]⟩] w fun e w'=>∃(st:Nat) (es':List Cs) (f':Nat->Option TI),e=.returned (.int .i64 (st:Int))/\J B K w' base es' f'/\Xi f f'/\Up B w w'/\
   ((st=0/\Ky (Hy v) ks es p=(es',true))∨(st≠0/\(Ky (Hy v) ks es p).2=false)):=by
 obtain⟨ad,cap,rfl,aw⟩:=hR;obtain⟨b,dcs,fz,⟨bz,cu⟩,rfl,hb,bg⟩:=aw h0;have bh:=hP b bz;have cy:0<ks.length:=List.length_pos_iff.2 h0;clear aw;obtain⟨o1,o2,o3,_⟩:=hN.one;refine Bf (L:=[(0,pt q),(1,.slice (F b) ks.length cap),(2,.agg ⟨[a,b',c,d]⟩)]) Tryz.func31 Z Z Z ⟨Z,Z,Z,V⟩ ?_;repeat (apply Ac)
 refine Gl Z Z Z (fun w0 al=>?_);repeat first|refine Aa Z ?_|apply Ab|apply Ac|refine Ub (ks.length-1) Z Z (by simp only [Option.getD];omega) (by omega) Z ?_|apply Ad|apply Ag|refine Fs Z Z (by omega) Z ?_
 have bi:J B K w0 base es f:=hJ.keep (fun x o _ ho=>al.keep ho);have af:=al.at_;have bj:Up B w w0:=al.up hB;have bk:w0.heap.size=w.heap.size+1:=al.size;generalize cz:w.heap.size=nb at *;clear al;refine Bg (σ:=Nat×List Cs×(Nat->Option TI)×Nat×Nat) (I:=fun s w'=>J B K w' base s.2.1 s.2.2.1/\Xi f s.2.2.1/\Up B w w'/\s.1+1<=ks.length/\Ky (Hy v) (ks.drop s.1) s.2.1 s.2.2.2.1=Ky (Hy v) ks es p/\(∃t,s.2.2.1 s.2.2.2.1=some t/\t.mp≠none/\t.tbl=s.2.2.2.2)/\
   w'.heap[nb]?=some (.cells ⟨[a,b',c,d]⟩ 37 (0,0)))
  (m:=fun s=>ks.length-s.1) (Lf:=fun s=>[(0,pt s.2.2.2.2),(1,.slice (F b) ks.length cap),(5,pt nb),(6,.int .i64 0),(20,.slice (F b) (ks.length-1) cap),(21,.int .i64 ((ks.length-1:Nat):Int)),(22,.int .i64 (s.1:Int))])
  (0,es,f,p,q) ⟨bi,Xi.refl f,bj,by omega,rfl,⟨t0,hp,be,bf⟩,af⟩ ⟨Z,Z,Z,Z,Z,Z,Z,V⟩ ?_
 clear hJ bi hp be bf bj af bk;rintro⟨m,es1,f1,p1,q1⟩ w1 ⟨hJ,hE,hU,hm,aa,⟨t,ht,ca,bm⟩,af⟩;dsimp only at hJ hE hm aa ht bm ⊢;obtain⟨k,hk⟩:∃k,ks[m]?=some k:=⟨_,Yd (by omega)⟩;have ab:ks.drop m=k::ks.drop (m+1):=(List.drop_eq_getElem?_toList_append).trans (by rw [hk];rfl);obtain⟨way,mb,l,aj,ag,hM⟩:=hJ.tb ht ca;rw [bm] at ag;have cv:=hU.size;by_cases cb:m<ks.length-1
 ·have am:w1.cell? ⟨b,m,none⟩=some (Bm k):=Ar (hU.at bh hb) (bg m k hk);obtain⟨k2,cc⟩:∃k2,ks[m+1]?=some k2:=⟨_,Yd (by omega)⟩;have ah:ks.drop (m+1)=k2::ks.drop (m+1+1):=(List.drop_eq_getElem?_toList_append).trans (by rw [cc];rfl);(repeat first|refine Aa Z ?_|apply Ab|apply Ac|refine Ao Z (by first|omega|decide) ?_|refine Ax (i:=m) Z Z Z cb (by rw [Yi,Nat.mul_one];rfl) ?_|refine Aw Z Z am Z ?_|refine Av Z Z ag Z Z ?_|refine eR (m:=mb) (k:=k) l Z Z hM Z ?_|apply Ad|apply Ag|apply An|apply Af);rcases hJ.names p1 t mb l ht aj k with ⟨an,ac⟩|⟨j,u,az,bn,hu,ac⟩
  ·rw [ac];simp only [Option.isSome_none,hH];(repeat first|apply Ac|refine Bn Z (by first|with_reducible rfl|exact Bool.not_false) ?_);refine Ae Z Z Z (Ll 2 w1) ?_;rintro e w2 ⟨b2,m2,rfl,da,db,cd,ce,r⟩;refine T2 Z Z ?_;have ao:=r.at (Ah ag) ag;have ar:=hM.lt;(repeat first|refine Aa Z ?_|apply Ab|refine Av Z Z ao Z Z ?_|apply Am);refine Xe (m:=mb) (k:=k) (b:=b2) l Z Z (hM.keep (fun o ho=>r.at ar ho)) ac Z (fun w3 ob ae ba cf=>?_);have au:=ae.keep cd (by omega);have bo:=r.size;have ap:=hJ.add ht aj k an 2 false (by omega) (by omega) (by omega) (.tab b2 m2 []) (w':=w3) ⟨⟨2,au,fun _=>.inl ⟨rfl,rfl⟩⟩,ce.keep (fun o ho=>ae.keep ho (by omega))⟩
    (fun y hy=>by simp only [TI.all,List.mem_cons,List.not_mem_nil,or_false] at hy;rcases hy with rfl|rfl<;>omega)
    (fun y hy=>by simp only [TI.all,List.mem_cons,List.not_mem_nil,or_false] at hy;rcases hy with rfl|rfl<;>omega)
    (fun m' l' h'=>by simp only [TI.mp,Yb,Prod.mk.injEq] at h';exact h'.2.symm)
    (fun y o hy ho=>ae.keep (r.at (Ah ho) ho) hy) ba
   have bb:B<=mb:=hJ.low p1 t ht mb (TI.mp_all aj);have av:Up B w w3:=(hU.trans (r.mono (by omega))).trans (ae.up bb);have cg:nb≠mb:=by
    rintro rfl;obtain⟨mes,mc,bp,_⟩:=hM;rw [af] at bp;cases bp
   have bq:=ae.keep (r.at (Ah af) af) cg;(repeat first|refine Aa Z ?_|apply Ab|apply Ac|refine Aj Z (by first|omega|decide) ?_|refine Av Z Z au Z Z ?_|refine Au Z ?_|apply Ad|apply Am|apply Ag|apply Aq|apply An|apply Bj|apply Af|refine Ay Z Z (by omega) Z ?_|refine Az Z Z (by first|omega|decide) ?_);refine Ap (m+1,es1++[⟨p1,2,false,k⟩],_,es1.length,b2) ⟨ap,hE.trans (Xi.add hJ.none_at ht),av,by dsimp only;omega,?_,⟨.tab b2 m2 [],if_pos rfl,by simp [TI.mp],rfl⟩,bq⟩ (by dsimp only;omega) ⟨Z,Z,Z,Z,Z,Z,Z,V⟩;dsimp only;rw [<-aa,ab,ah];simp only [Ky,an]
  ·rw [ac];simp only [Option.isSome_some,hH];obtain⟨ej,ch,bc⟩:=hJ.at_ j u hu;have h:Ky (Hy v) (ks.drop m) es1 p1=if ej.kind=2 then Ky (Hy v) (ks.drop (m+1)) es1 j else (es1,false):=by
    rw [ab,ah];simp only [Ky,az,Iv,ch]
   (repeat first|refine Aa Z ?_|apply Ac|refine Bb Z (by first|with_reducible rfl|exact Bool.not_true) ?_|apply Ad|apply Ag|apply An|apply Af);cases u with
   | val bv=>
    obtain⟨dc,kd,wy,x,y,br,ci⟩:=bc;simp only [TI.blk];rw [if_neg (by omega)] at h;rcases ci with ⟨rfl,rfl⟩|⟨rfl,rfl⟩
    ·(repeat first|refine Aa Z ?_|apply Ab|apply Ac|refine Bn Z (by first|with_reducible rfl|exact Bool.not_false) ?_|refine Av Z Z br Z Z ?_|refine Au Z ?_|apply Bl|apply Bv|apply Ai|refine Bc Z Z (by first|omega|decide) ?_);exact Ak Z Z ⟨1,es1,f1,rfl,hJ,hE,hU,.inr ⟨by omega,by rw [<-aa,h]⟩⟩
    ·(repeat first|refine Aa Z ?_|apply Ab|apply Ac|refine Ao Z (by first|omega|decide) ?_|refine Av Z Z br Z Z ?_|refine Au Z ?_|apply Bl|apply Bv|apply Ai|refine Az Z Z (by first|omega|decide) ?_);exact Ak Z Z ⟨1,es1,f1,rfl,hJ,hE,hU,.inr ⟨by omega,by rw [<-aa,h]⟩⟩
   | tab bt mt lt=>
    obtain⟨⟨wy,bd,hw⟩,dd⟩:=bc;simp only [TI.blk];rcases hw bn with ⟨cw,rfl⟩|⟨de,ak⟩
    ·rw [if_pos (by omega)] at h;(repeat first|refine Aa Z ?_|apply Ab|apply Ac|refine Aj Z (by first|omega|decide) ?_|refine Av Z Z bd Z Z ?_|refine Au Z ?_|apply Am|apply Aq|apply An|apply Bj|apply Af|refine Ay Z Z (by omega) Z ?_|refine Az Z Z (by first|omega|decide) ?_);exact Ap (m+1,es1,f1,j,bt) ⟨hJ,hE,hU,by dsimp only;omega,by rw [<-aa,h],⟨.tab bt mt lt,hu,by simp [TI.mp],rfl⟩,af⟩ (by dsimp only;omega) ⟨Z,Z,Z,Z,Z,Z,Z,V⟩
    ·rw [if_neg (by omega)] at h;cases bs:ej.expl with
     | true=>
      rw [bs] at ak;simp only [if_true] at ak;subst ak;(repeat first|refine Aa Z ?_|apply Ab|apply Ac|refine Bn Z (by first|with_reducible rfl|exact Bool.not_false) ?_|refine Av Z Z bd Z Z ?_|refine Au Z ?_|apply Bl|apply Bv|apply Ai|refine Bc Z Z (by first|omega|decide) ?_|refine Az Z Z (by first|omega|decide) ?_);exact Ak Z Z ⟨1,es1,f1,rfl,hJ,hE,hU,.inr ⟨by omega,by rw [<-aa,h]⟩⟩
     | false=>
      rw [bs] at ak;simp only [Bool.false_eq_true,if_false] at ak;subst ak;(repeat first|refine Aa Z ?_|apply Ab|apply Ac|refine Ao Z (by first|omega|decide) ?_|refine Aj Z (by first|omega|decide) ?_|refine Av Z Z bd Z Z ?_|refine Au Z ?_|apply Bl|apply Bv|apply Ai|refine Az Z Z (by first|omega|decide) ?_);exact Ak Z Z ⟨2,es1,f1,rfl,hJ,hE,hU,.inr ⟨by omega,by rw [<-aa,h]⟩⟩
   | lst bl sl tl ml ll=>
    obtain⟨df,⟨vl,n,xs,cj,hO,hv,dg,dh,di⟩,⟨wy,dj⟩,ar⟩:=bc;simp only [TI.blk];rw [if_neg (by omega)] at h;(repeat first|refine Aa Z ?_|apply Ab|apply Ac|refine Bn Z (by first|with_reducible rfl|exact Bool.not_false) ?_|refine Av Z Z cj Z Z ?_|refine Au Z ?_|apply Bl|apply Bv|apply Ai|refine Bc Z Z (by first|omega|decide) ?_);exact Ak Z Z ⟨1,es1,f1,rfl,hJ,hE,hU,.inr ⟨by omega,by rw [<-aa,h]⟩⟩
 ·have dk:m=ks.length-1:=(by omega);have ax:ks.drop (m+1)=[]:=List.drop_eq_nil_of_le (by omega);have am:w1.cell? ⟨b,m,none⟩=some (Bm k):=Ar (hU.at bh hb) (bg m k hk);(repeat first|refine Aa Z ?_|apply Ab|apply Ac|refine Aj Z (by first|omega|decide) ?_|refine Ax (i:=m) Z Z (by omega) (by omega) (by rw [Yi,Nat.mul_one];rfl) ?_|refine Aw Z Z am Z ?_|refine Av Z Z ag Z Z ?_|refine eR (m:=mb) (k:=k) l Z Z hM Z ?_|apply Ad|apply An|apply Cn|apply Ci|apply Ba|refine Fs Z Z (by omega) Z ?_);rcases hJ.names p1 t mb l ht aj k with ⟨an,ac⟩|⟨j,u,az,bn,hu,ac⟩
  ·rw [ac];simp only [Option.isSome_none,hH];have h:Ky (Hy v) (ks.drop m) es1 p1=Hy v (es1++[⟨p1,1,false,k⟩]) es1.length:=by
    rw [ab,ax];simp only [Ky,an]
   have ck:∀(j:Nat) (x:Value),[a,b',c,d][j]?=some x->w1.cell? ⟨nb,0+j,none⟩=some x:=fun j x hx=>Ar af (by rw [Yi,List.getElem?_toArray];exact hx);(repeat first|apply Ac|refine Bb Z (by first|with_reducible rfl|exact Bool.not_true) ?_|refine Jv (cs:=[a,b',c,d]) Z Z Z ck Z ?_|apply An|apply Af);have cl:Nd w1 P v a b' c:=Nd.move (fun g o hg ho _=>⟨hU.at (hP g hg) ho,hg⟩) _ _ _ _ hN;refine Ae Z Z Z (hv (es1++[⟨p1,1,false,k⟩]) es1.length bx (hJ.ord.snoc (hJ.lt ht) (by omega) (by omega)) (by simp) P a b' c d w1 cl hd (fun g hg=>by have:=hP g hg;omega)) ?_;rintro e w2 ⟨st,x,kd,wy,y,z,rfl,dl,cm,cn,r,co⟩;refine T2 Z Z ?_;have ao:=r.at (Ah ag) ag;have ar:=hM.lt;(repeat first|refine Aa Z ?_|apply Ab|apply Ac|refine Av Z Z ao Z Z ?_);refine Xe (m:=mb) (k:=k) (b:=x) l Z Z (hM.keep (fun o ho=>r.at ar ho)) ac Z (fun w3 ob ae ba cf=>?_);have au:=ae.keep cm (by omega);have bo:=r.size;have ap:=hJ.add ht aj k an 1 false (by omega) (by omega) (by omega) (.val x) (w':=w3) ⟨rfl,kd,wy,y,z,au,cn⟩
    (fun y hy=>by simp only [TI.all,List.mem_cons,List.not_mem_nil,or_false] at hy;omega)
    (fun y hy=>by simp only [TI.all,List.mem_cons,List.not_mem_nil,or_false] at hy;omega)
    (fun m' l' h'=>by cases h')
    (fun y o hy ho=>ae.keep (r.at (Ah ho) ho) hy) ba
   have bb:B<=mb:=hJ.low p1 t ht mb (TI.mp_all aj);have av:Up B w w3:=(hU.trans (r.mono (by omega))).trans (ae.up bb);have dm:=hJ.lt ht;have cp:Kc (es1++[⟨p1,1,false,k⟩]):=ap.ord;have ay:=co;have bu:=hE.trans (Xi.add (u:=.val x) (l:=l++[(k,x)]) hJ.none_at ht);(repeat first|refine Aa Z ?_|apply Ab|apply Ac|apply Ai);by_cases ai:st=0
   ·have cq:=ay.1 ai;obtain⟨more,aq,bw⟩:=bP v (es1++[⟨p1,1,false,k⟩]) es1.length (by simp);have cr:Kc (es1++[⟨p1,1,false,k⟩]++more):=by
     rw [<-aq];exact (Mk v _ es1.length cp (by simp)).1
    refine Ak Z Z ⟨st,_,_,rfl,ap.ext cr (fun i t' m' l' hi ct e he=>?_),bu,av,.inl ⟨ai,?_⟩⟩
    ·have dn:=bw e he;have:i<es1.length:=by
      split at hi
      ·simp only [Yb] at hi;subst hi;cases ct
      ·split at hi
       ·omega
       ·exact hJ.lt hi
     omega
    ·rw [<-aa,h];exact Prod.ext aq cq
   ·refine Ak Z Z ⟨st,_,_,rfl,ap,bu,av,.inr ⟨ai,?_⟩⟩;rw [<-aa,h];cases hb:(Hy v (es1++[⟨p1,1,false,k⟩]) es1.length).2 with
    | false=>rfl
    | true=>exact absurd (ay.2 hb) ai
  ·rw [ac];simp only [Option.isSome_some,hH];(repeat first|refine Aa Z ?_|apply Ab|apply Ac|refine Bn Z (by first|with_reducible rfl|exact Bool.not_false) ?_|apply Bl|apply Ai);refine Ak Z Z ⟨1,es1,f1,rfl,hJ,hE,hU,.inr ⟨by omega,?_⟩⟩;rw [<-aa,ab,ax];simp only [Ky,az]
end
end Go.Proofs.YtaccphdkapmdhaaGreat
