/- Read, Meanings and Check answer as the grammar and the tracker say. No condition. -/
import Derived.Test.YtaccphdkapmdhaaGreatR35
import Derived.Test.YtaccphdkapmdhaaGreatR46
namespace Go.Proofs.YtaccphdkapmdhaaGreat
set_option maxRecDepth 100000
set_option maxHeartbeats 64000000
set_option linter.all false
section
attribute [local irreducible] binOp IntKind.wrap Sem.run
mutual
def Ik (w:World) (P:Nat->Prop):Bz->Value->Value->Value->Prop
 | .sc kind text,a,b,c=>a=.int .i64 (kind:Int)/\b=Bm text/\∃ad cap,c=.slice ad 0 cap
 | .arr vs,a,b,c=>a=.int .i64 8/\b=Bm []/\∃ad cap,c=.slice ad vs.length cap/\(vs≠[]->∃g cur,P g/\ad=some ⟨g,0,none⟩/\w.heap[g]?=some (.cells ⟨cur⟩ 129 (0,0))/\Hj w P vs cur)
 | .tbl es,a,b,c=>a=.int .i64 9/\b=Bm []/\∃ad cap,c=.slice ad es.length cap/\(es≠[]->∃g cur,P g/\ad=some ⟨g,0,none⟩/\w.heap[g]?=some (.cells ⟨cur⟩ 129 (0,0))/\Hk w P es cur)
def Hj (w:World) (P:Nat->Prop):List Bz->List Value->Prop
 | [],_=>True
 | v::vs,l=>∃a b c d r,l=a::b::c::d::r/\Ik w P v a b c/\RS w P d []/\Hj w P vs r
def Hk (w:World) (P:Nat->Prop):List (List Bs×Bz)->List Value->Prop
 | [],_=>True
 | (ks,v)::es,l=>∃a b c d r,l=a::b::c::d::r/\Ik w P v a b c/\RS w P d ks/\Hk w P es r
end
def Dh (P P':Nat->Prop) (w w':World):Prop:=∀b o,P b->w.heap[b]?=some o->(Ce o=9∨Ce o=129)->w'.heap[b]?=some o/\P' b
theorem RS.move9 {w w':World} {P P':Nat->Prop} {v:Value} {ks:List Bs} (hk:Dh P P' w w') (h:RS w P v ks):RS w' P' v ks:=by
 obtain⟨ad,cap,h1,h2⟩:=h;refine⟨ad,cap,h1,fun a=>?_⟩;obtain⟨b,dc,fz,hp,h3,h4,h5⟩:=h2 a;obtain⟨q1,q2⟩:=hk b _ hp.1 h4 (.inl rfl);exact⟨b,dc,fz,⟨q2,hp.2⟩,h3,q1,h5⟩
mutual
theorem Ik.move {w w':World} {P P':Nat->Prop} (hk:Dh P P' w w'):∀(v:Bz) (a b c:Value),Ik w P v a b c->Ik w' P' v a b c
 | .sc _ _,a,b,c,h=>by simpa only [Ik] using h
 | .arr vs,a,b,c,h=>by
  simp only [Ik] at h ⊢;obtain⟨h1,h2,ad,cap,h3,h4⟩:=h;refine⟨h1,h2,ad,cap,h3,fun hne=>?_⟩;obtain⟨g,cur,hp,h5,h6,h7⟩:=h4 hne;obtain⟨q1,q2⟩:=hk g _ hp h6 (.inr rfl);exact⟨g,cur,q2,h5,q1,Hj.move hk vs cur h7⟩
 | .tbl es,a,b,c,h=>by
  simp only [Ik] at h ⊢;obtain⟨h1,h2,ad,cap,h3,h4⟩:=h;refine⟨h1,h2,ad,cap,h3,fun hne=>?_⟩;obtain⟨g,cur,hp,h5,h6,h7⟩:=h4 hne;obtain⟨q1,q2⟩:=hk g _ hp h6 (.inr rfl);exact⟨g,cur,q2,h5,q1,Hk.move hk es cur h7⟩
theorem Hj.move {w w':World} {P P':Nat->Prop} (hk:Dh P P' w w'):∀(vs:List Bz) (l:List Value),Hj w P vs l->Hj w' P' vs l
 | [],_,_=>trivial
 | v::vs,l,h=>by
  simp only [Hj] at h ⊢;obtain⟨a,b,c,d,r,h1,h2,h3,h4⟩:=h;exact⟨a,b,c,d,r,h1,Ik.move hk v a b c h2,RS.move9 hk h3,Hj.move hk vs r h4⟩
theorem Hk.move {w w':World} {P P':Nat->Prop} (hk:Dh P P' w w'):∀(es:List (List Bs×Bz)) (l:List Value),Hk w P es l->Hk w' P' es l
 | [],_,_=>trivial
 | (ks,v)::es,l,h=>by
  simp only [Hk] at h ⊢;obtain⟨a,b,c,d,r,h1,h2,h3,h4⟩:=h;exact⟨a,b,c,d,r,h1,Ik.move hk v a b c h2,RS.move9 hk h3,Hk.move hk es r h4⟩
end
theorem Hj.get {w:World} {P:Nat->Prop}:∀{vs:List Bz} {l:List Value} {m:Nat} {v:Bz},Hj w P vs l->vs[m]?=some v->
  ∃a b c d,(∀(j:Nat) (x:Value),[a,b,c,d][j]?=some x->l[m*4+j]?=some x)/\Ik w P v a b c/\RS w P d []
 | [],_,_,_,_,h=>by simp at h
 | u::vs,l,0,v,hn,h=>by
  simp only [Hj] at hn;obtain⟨a,b,c,d,r,rfl,h2,h3,h4⟩:=hn;simp only [List.getElem?_cons_zero,Yb] at h;subst h;refine⟨a,b,c,d,fun j x hx=>?_,h2,h3⟩;have hj:=(Yc.1 hx).1;simp only [Ya,List.length_nil] at hj;rw [show 0*4+j=j by omega,show a::b::c::d::r=[a,b,c,d]++r from rfl,Yf (by simp;omega)];exact hx
 | u::vs,l,m+1,v,hn,h=>by
  simp only [Hj] at hn;obtain⟨a,b,c,d,r,rfl,h2,h3,h4⟩:=hn;rw [List.getElem?_cons_succ] at h;obtain⟨a',b',c',d',q1,q2,q3⟩:=Hj.get h4 h;refine⟨a',b',c',d',fun j x hx=>?_,q2,q3⟩;rw [show (m+1)*4+j=(m*4+j)+1+1+1+1 by omega];simp only [List.getElem?_cons_succ];exact q1 j x hx
theorem Hk.get {w:World} {P:Nat->Prop}:∀{es:List (List Bs×Bz)} {l:List Value} {m:Nat} {ks:List Bs} {v:Bz},Hk w P es l->es[m]?=some (ks,v)->
  ∃a b c d,(∀(j:Nat) (x:Value),[a,b,c,d][j]?=some x->l[m*4+j]?=some x)/\Ik w P v a b c/\RS w P d ks
 | [],_,_,_,_,_,h=>by simp at h
 | (ks',u)::vs,l,0,ks,v,hn,h=>by
  simp only [Hk] at hn;obtain⟨a,b,c,d,r,rfl,h2,h3,h4⟩:=hn;simp only [List.getElem?_cons_zero,Yb,Prod.mk.injEq] at h;obtain⟨rfl,rfl⟩:=h;refine⟨a,b,c,d,fun j x hx=>?_,h2,h3⟩;have hj:=(Yc.1 hx).1;simp only [Ya,List.length_nil] at hj;rw [show 0*4+j=j by omega,show a::b::c::d::r=[a,b,c,d]++r from rfl,Yf (by simp;omega)];exact hx
 | u::vs,l,m+1,ks,v,hn,h=>by
  obtain⟨ks',u⟩:=u;simp only [Hk] at hn;obtain⟨a,b,c,d,r,rfl,h2,h3,h4⟩:=hn;rw [List.getElem?_cons_succ] at h;obtain⟨a',b',c',d',q1,q2,q3⟩:=Hk.get h4 h;refine⟨a',b',c',d',fun j x hx=>?_,q2,q3⟩;rw [show (m+1)*4+j=(m*4+j)+1+1+1+1 by omega];simp only [List.getElem?_cons_succ];exact q1 j x hx
theorem Hj.snoc {w:World} {P:Nat->Prop}:∀{vs:List Bz} {l:List Value} {v:Bz} {a b c d:Value},Hj w P vs l->l.length=vs.length*4->Ik w P v a b c->RS w P d []->Hj w P (vs++[v]) (l++[a,b,c,d])
 | [],l,v,a,b,c,d,_,hl,h1,h2=>by
  have:l=[]:=List.eq_nil_of_length_eq_zero (by simpa using hl);subst this;simp only [List.nil_append,Hj];exact⟨a,b,c,d,[],rfl,h1,h2,trivial⟩
 | u::vs,l,v,a,b,c,d,hn,hl,h1,h2=>by
  simp only [Hj] at hn;obtain⟨a',b',c',d',r,rfl,q1,q2,q3⟩:=hn;simp only [List.cons_append,Hj];exact⟨a',b',c',d',r++[a,b,c,d],rfl,q1,q2,Hj.snoc q3 (by simp at hl;omega) h1 h2⟩
theorem Hk.snoc {w:World} {P:Nat->Prop}:∀{es:List (List Bs×Bz)} {l:List Value} {ks:List Bs} {v:Bz} {a b c d:Value},Hk w P es l->l.length=es.length*4->Ik w P v a b c->RS w P d ks->Hk w P (es++[(ks,v)]) (l++[a,b,c,d])
 | [],l,ks,v,a,b,c,d,_,hl,h1,h2=>by
  have:l=[]:=List.eq_nil_of_length_eq_zero (by simpa using hl);subst this;simp only [List.nil_append,Hk];exact⟨a,b,c,d,[],rfl,h1,h2,trivial⟩
 | (ks',u)::vs,l,ks,v,a,b,c,d,hn,hl,h1,h2=>by
  simp only [Hk] at hn;obtain⟨a',b',c',d',r,rfl,q1,q2,q3⟩:=hn;simp only [List.cons_append,Hk];exact⟨a',b',c',d',r++[a,b,c,d],rfl,q1,q2,Hk.snoc q3 (by simp at hl;omega) h1 h2⟩
theorem Ik.one {w:World} {P:Nat->Prop} {v:Bz} {a b c:Value} (h:Ik w P v a b c):Bp a=true/\Bp b=true/\Bp c=true/\jY c:=by
 cases v with
 | sc kind text=>
  simp only [Ik] at h;obtain⟨rfl,rfl,ad,cap,rfl⟩:=h;exact⟨Z,Z,Z,V⟩
 | arr vs=>
  simp only [Ik] at h;obtain⟨rfl,rfl,ad,cap,rfl,_⟩:=h;exact⟨Z,Z,Z,V⟩
 | tbl es=>
  simp only [Ik] at h;obtain⟨rfl,rfl,ad,cap,rfl,_⟩:=h;exact⟨Z,Z,Z,V⟩
theorem Hj.more {w:World} {P:Nat->Prop}:∀{vs:List Bz} {l:List Value} (r:List Value),Hj w P vs l->Hj w P vs (l++r)
 | [],_,_,_=>trivial
 | v::vs,l,r,h=>by
  simp only [Hj] at h ⊢;obtain⟨a,b,c,d,l',rfl,h2,h3,h4⟩:=h;exact⟨a,b,c,d,l'++r,rfl,h2,h3,Hj.more r h4⟩
theorem Hk.more {w:World} {P:Nat->Prop}:∀{es:List (List Bs×Bz)} {l:List Value} (r:List Value),Hk w P es l->Hk w P es (l++r)
 | [],_,_,_=>trivial
 | (ks,v)::es,l,r,h=>by
  simp only [Hk] at h ⊢;obtain⟨a,b,c,d,l',rfl,h2,h3,h4⟩:=h;exact⟨a,b,c,d,l'++r,rfl,h2,h3,Hk.more r h4⟩
theorem ik_arr {w:World} {P:Nat->Prop} {B:Nat} {ev:Value} {vs:List Bz} {xs:List Value} (hO:w.ownsRow B 129 4 ev vs.length xs) (hN:Hj w P vs xs) (hP:∀g,B<=g->P g):Ik w P (.arr vs) (.int .i64 8) (Bm []) ev:=by
 rw [Ik];refine⟨rfl,rfl,?_⟩;by_cases hz:vs.length=0
 ·rcases hO.2 with ⟨rfl,_⟩|⟨g,cap,cur,rfl,_⟩
  ·exact⟨none,0,by rw [hz],fun h=>absurd (List.eq_nil_of_length_eq_zero hz) h⟩
  ·exact⟨_,cap,rfl,fun h=>absurd (List.eq_nil_of_length_eq_zero hz) h⟩
 ·obtain⟨g,cap,cur,rfl,hg,a⟩:=Kx hO hz;exact⟨_,cap,rfl,fun _=>⟨g,xs++cur,hP g hg,rfl,a,Hj.more cur hN⟩⟩
theorem ik_tbl {w:World} {P:Nat->Prop} {B:Nat} {ev:Value} {es:List (List Bs×Bz)} {xs:List Value} (hO:w.ownsRow B 129 4 ev es.length xs) (hN:Hk w P es xs) (hP:∀g,B<=g->P g):Ik w P (.tbl es) (.int .i64 9) (Bm []) ev:=by
 rw [Ik];refine⟨rfl,rfl,?_⟩;by_cases hz:es.length=0
 ·rcases hO.2 with ⟨rfl,_⟩|⟨g,cap,cur,rfl,_⟩
  ·exact⟨none,0,by rw [hz],fun h=>absurd (List.eq_nil_of_length_eq_zero hz) h⟩
  ·exact⟨_,cap,rfl,fun h=>absurd (List.eq_nil_of_length_eq_zero hz) h⟩
 ·obtain⟨g,cap,cur,rfl,hg,a⟩:=Kx hO hz;exact⟨_,cap,rfl,fun _=>⟨g,xs++cur,hP g hg,rfl,a,Hk.more cur hN⟩⟩
theorem KT.le {ns:List Be} {ks:List Bs} {h:Nat} (hK:KT ns ks h):h<=ns.length:=by
 cases ks with
 | nil=>have:h=0:=hK;omega
 | cons s l=>
  obtain⟨i,a,rfl,h1,_⟩:=hK;exact (Yc.1 h1).1
theorem Qd (k m:Nat) (w:World) (h:(k<8/\m=Db k)∨(m=6/\k=8)∨(m=7/\k=9)):
  Calls PP 98 #[.int .i64 (m:Int)] w fun e w'=>e=.returned (.int .i64 (k:Int))/\w'=w:=by
 have hm:(k=0/\m=8)∨(k=1/\m=11)∨(k=2/\m=10)∨(k=3/\m=9)∨(k=4/\m=15)∨(k=5/\m=14)∨(k=6/\m=12)∨(k=7/\m=13)∨(k=8/\m=6)∨(k=9/\m=7):=by
  rcases h with ⟨h1,h2⟩|h|h
  ·have hk:k=0∨k=1∨k=2∨k=3∨k=4∨k=5∨k=6∨k=7:=(by omega);rcases hk with rfl|rfl|rfl|rfl|rfl|rfl|rfl|rfl<;>simp [Db] at h2<;>omega
  ·omega
  ·omega
 rcases hm with ⟨rfl,rfl⟩|⟨rfl,rfl⟩|⟨rfl,rfl⟩|⟨rfl,rfl⟩|⟨rfl,rfl⟩|⟨rfl,rfl⟩|⟨rfl,rfl⟩|⟨rfl,rfl⟩|⟨rfl,rfl⟩|⟨rfl,rfl⟩;all_goals
  refine Bf (L:=[(0,.int .i64 _)]) Tryz.func98 Z Z Z ⟨Z,V⟩ ?_;(repeat first|refine Aa Z ?_|apply Ab|apply Ac|refine Ao Z (by first|omega|decide) ?_|refine Aj Z (by first|omega|decide) ?_|apply Ad|apply Ag|apply Bl|apply Bv|apply Ai);exact Ak Z Z ⟨rfl,rfl⟩
theorem bsS1' (k:Bs) (w:World):(Instr.buildSlice 34 1 ⟨[(0,Bm k)]⟩).run PP w=.ok (.slice (F w.heap.size) 1 1) (w.alloc (.cells ⟨[Bm k]⟩ 9 (0,0))):=lE k w
theorem Nc (pp g i:Nat) (ns:List Be) (n:Be) (ks:List Bs) (w:World) (hA:AR w pp g ns) (hw:Wf ns) (hn:ns[i]?=some n) (hk:n.kind=5/\n.child≠0∨n.kind=3∨n.kind=4) (hK:KT ns ks (Hx ns n)) (hm:ks.length<=1000000000):
  Calls PP 68 #[.pointer (some ⟨g,i*7,none⟩)] w fun e w'=>∃v,e=.returned v/\RS w' (fun b=>w.heap.size<=b) v ks/\Up w.heap.size w w':=by
 refine Bf (L:=[(0,.pointer (some ⟨g,i*7,none⟩))]) Tryz.func68 Z Z Z ⟨Z,V⟩ ?_;repeat first|refine Aa Z ?_|apply Ab|apply Ac
 refine Ae Z Z Z (Oy pp g i ns n w hA hw hn hk) ?_;rintro e w1 ⟨rfl,q⟩;refine T2 Z Z ?_;refine Dk Z Z Z (fun w2 r=>?_);refine Bx Z Z Z (by simp [Bp,Gm]) r.at_ (by simp) Z (fun w3 t=>?_);have x:w.heap.size<=w1.heap.size:=q.size;have y:Up w.heap.size w w3:=(q.trans (r.up x)).trans (t.up x);have ac:Io w3 w1.heap.size g ns (Hx ns n):=.inl t.at_;have ad:AR w3 pp g ns:=hA.fm (B:=0) (T:=[]) (y.fm Y O) (by simp) (by simp) (by simp);generalize ah:w1.heap.size=it at *;generalize ax:w.heap.size=K at *;clear t r q hA ah;repeat first|apply Ab|apply Ad|apply Ag
 refine Bg (σ:=Nat×List Bs×List Bs×Value) (I:=fun s w'=>Io w' it g ns s.1/\KT ns s.2.2.1 s.1/\s.2.1++s.2.2.1=ks/\w'.ownsRow K 9 1 s.2.2.2 s.2.1.length (s.2.1.map Bm)/\AR w' pp g ns/\Up K w w')
  (m:=fun s=>s.2.2.1.length) (Lf:=fun s=>[(3,s.2.2.2),(4,.pointer (F it))])
  (Hx ns n,[],ks,.slice none 0 0) ⟨ac,hK,rfl,World.ownsRow_nil _ _ _ _,ad,y⟩ ⟨Z,Z,V⟩ ?_
 clear ac hK ad y;rintro⟨h,dn,rest,v⟩ w4 ⟨hI,hK,a,hO,hA,hU⟩;dsimp only at hI hK a hO ⊢;repeat first|apply Ac|apply Ad
 refine Ae Z Z Z (Ih pp g h it ns w4 hA hw hK.le hI) ?_;rintro e w5 ⟨rfl,wm,z,⟨om,ai,ae⟩,aa⟩;have p:=Kd z ae ai aa rfl;have ab:Up K w w5:=hU.trans (z.up.trans (aa.up x));have af:=Cd hO p (by simp);have ag:=hA.fm p (by simp) (by simp) (by simp);have c:=aa.at_;clear hI hO hA hU z ae;cases rest with
 | nil=>
  have h0:h=0:=hK;rw [Ew (show ¬h≠0 by omega)];refine T2 Z Z ?_;rw [List.append_nil] at a;subst a;(repeat first|refine Aa Z ?_|apply Ab|apply Ac|refine Bb Z (by first|with_reducible rfl|exact Bool.not_true) ?_|apply An|apply Cn|apply Ci|apply Ba|apply Ai);exact Ak Z Z ⟨v,rfl,RS.own af,ab⟩
 | cons k rest=>
  obtain⟨j,m,rfl,hj,ay,aj,ak⟩:=hK;rw [Fj (show j+1≠0 by omega)];refine T2 Z Z ?_;rw [Fe] at c;(repeat first|refine Aa Z ?_|apply Ab|refine Bn Z (by first|with_reducible rfl|exact Bool.not_false) ?_|apply Am|apply Ag|apply An|apply Af);refine Ae Z Z Z (Gc _ _ it w5 c) ?_;rintro e w6 ⟨rfl,rfl⟩;refine T2 Z Z ?_;obtain⟨cur,al,am⟩:=ag.cells;obtain⟨d,an,az,ao⟩:=(am j m hj).data;have ap:=(ao k aj).rx;have c3:w6.cell? ⟨g,j*7+2+1,none⟩=some d:=Ar al (by simpa using an);have c3':w6.cell? ⟨g,j*7+3,none⟩=some d:=c3;have ba:dn.length<=ks.length:=(by rw [<-a,Ye];omega);(repeat first|refine Aa Z ?_|refine Aw Z Z c3 Z ?_|refine Tg k Z Z ap Z ?_);refine Ec Z Z (bsS1' k) Z (fun w7 l=>?_);have aq:w7.ownsRow K 9 1 v dn.length (dn.map Bm):=Bi af (fun k o hk h=>l.keep h);have bb:=ab.size;refine Md (m:=1) [Bm k] Z Z (rfl:Fx 34=some (9,1)) aq Z (fun j u hu=>by rw [Dw];exact Ar l.at_ (by simpa using hu)) (fun u hu=>by simp only [List.mem_singleton] at hu;rw [hu];rfl) (by omega) (by rw [l.size];omega) (fun v' w8 ar au _=>?_);refine⟨_,rfl,?_⟩;have f:Fm K [9] w6 w8:=(l.fm (by omega)).trans au;have av:Up K w w8:=ab.trans f.up;have aw:Io w8 it g ns m.next:=Io.keep (.inr ⟨j,m,hj,rfl,by rw [Fe];exact c⟩) (fun o ht ho=>f.keep _ _ ho (by rw [ht];simp));(repeat first|refine Aa Z ?_|apply Aq|apply Bj);refine Ap (m.next,dn++[k],rest,v') ⟨aw,ak,by rw [<-a];simp,?_,ag.fm f (by simp) (by simp) (by simp),av⟩ (by simp) ⟨Z,Z,V⟩;dsimp only;rw [Ye,List.map_append];exact ar
theorem nP (k:Int) (w:World):(Instr.build 129 ⟨[(0,.int .i64 k)]⟩).run PP w=.ok (.agg ⟨[.int .i64 k,Bm [],.slice none 0 0,.slice none 0 0]⟩) w:=by kernel_rfl
theorem iO (a b c d:Value) (w:World):(Instr.buildSlice 127 1 ⟨[(0,.agg ⟨[a,b,c,d]⟩)]⟩).run PP w=.ok (.slice (F w.heap.size) 1 1) (w.alloc (.cells ⟨[a,b,c,d]⟩ 129 (0,0))):=by kernel_rfl
def Uc (v:Bz):Prop:=∀(pp g i:Nat) (ns:List Be) (w:World),AR w pp g ns->Wf ns->NT ns v i->Pw v->
 Calls PP 69 #[.pointer (some ⟨g,i*7,none⟩)] w fun e w'=>∃a b c,e=.returned (.agg ⟨[a,b,c,.slice none 0 0]⟩)/\Ik w' (fun b=>w.heap.size<=b) v a b c/\Up w.heap.size w w'
theorem NT.kind {ns:List Be} {v:Bz} {i:Nat} (h:NT ns v i) (hm:Pw v):∃a,ns[i]?=some a/\a.kind≠1:=by
 cases v with
 | sc k t=>
  simp only [NT] at h;simp only [Pw] at hm;obtain⟨a,h1,h2,_⟩:=h;refine⟨a,h1,?_⟩;have hk:k=0∨k=1∨k=2∨k=3∨k=4∨k=5∨k=6∨k=7:=(by omega);rcases hk with rfl|rfl|rfl|rfl|rfl|rfl|rfl|rfl<;>simp [Db] at h2<;>omega
 | arr vs=>
  simp only [NT] at h;obtain⟨a,h1,h2,_⟩:=h;exact⟨a,h1,by omega⟩
 | tbl es=>
  simp only [NT] at h;obtain⟨a,h1,h2,_⟩:=h;exact⟨a,h1,by omega⟩
theorem Dh.ap {P:Nat->Prop} {w w':World} {nb:Nat} {ev ev':Value} (h1:∀(k:Nat),k<w.heap.size->ev.ownBlock≠some k->w'.heap[k]?=w.heap[k]?) (h2:ev'.ownBlock=ev.ownBlock∨ev'.ownBlock=some w.heap.size)
  (hp:∀b,P b->nb<b/\ev.ownBlock≠some b):Dh P (fun b=>nb<b/\ev'.ownBlock≠some b) w w':=fun b o hb ho _=>by
 obtain⟨q1,q2⟩:=hp b hb;have a:=Ah ho;refine⟨by rw [h1 b a q2];exact ho,q1,?_⟩;rcases h2 with e|e
 ·rw [e];exact q2
 ·rw [e];intro h;simp only [Yb] at h;omega
theorem Dh.st {P:Nat->Prop} {w w':World} {nb:Nat} {o:Obj} (hS:St w nb o w') (hp:∀b,P b->nb<b):Dh P P w w':=fun b _ hb ho _=>
 ⟨hS.keep ho (by have:=hp b hb;omega),hb⟩
theorem Dh.up {P P':Nat->Prop} {w w':World} (hu:Up w.heap.size w w') (hp:∀b,P b->b<w.heap.size->P' b):Dh P P' w w':=fun b o hb ho _=>
 ⟨hu.at (Ah ho) ho,hp b hb (Ah ho)⟩
theorem Dh.trans {P P' P'':Nat->Prop} {a b c:World} (h:Dh P P' a b) (g:Dh P' P'' b c):Dh P P'' a c:=fun k o hp ho ht=>
 let ⟨q1,q2⟩:=h k o hp ho ht
 g k o q2 q1 ht
theorem Dh.fm {P P':Nat->Prop} {w w':World} {B:Nat} {T:List Nat} (hf:Fm B T w w') (h9:9∉T) (a:129∉T) (hp:∀b,P b->P' b):Dh P P' w w':=fun b o hb ho ht=>
 ⟨hf.keep _ _ ho (by rcases ht with h|h<;>rw [h]<;>assumption),hp b hb⟩
theorem AR.up {w w':World} {pp g:Nat} {ns:List Be} (h:AR w pp g ns) (hu:Up w.heap.size w w'):AR w' pp g ns:=h.fm (B:=0) (T:=[]) (hu.fm Y O) (by simp) (by simp) (by simp)
theorem nodeSc (k:Nat) (t:Bs):Uc (.sc k t):=by
 intro pp g i ns w hA hw hN hM;simp only [NT] at hN;obtain⟨a,ha,r,s⟩:=hN;simp only [Pw] at hM;refine Bf (L:=[(0,.pointer (some ⟨g,i*7,none⟩))]) Tryz.func69 Z Z Z ⟨Z,V⟩ ?_;repeat (apply Ac)
 refine Dk Z Z Z (fun w1 c=>?_);have f:AR w1 pp g ns:=hA.up (c.up Y);obtain⟨cur,h2,h3⟩:=f.cells;have c0:w1.cell? ⟨g,i*7,none⟩=some (.int .i64 a.kind):=Ar h2 (by simpa using (h3 i a ha).kind);have h:=c.at_;have ad:=c.size;have n:Up w.heap.size w w1:=c.up Y;generalize hK:w.heap.size=K at *;clear c hA h2 h3;repeat first|refine Aa Z ?_|apply Ab|apply Ac|refine Aw Z Z c0 Z ?_
 refine Ae Z Z Z (Qd k a.kind w1 (.inl ⟨hM,r⟩)) ?_;rintro e w2 ⟨rfl,rfl⟩;refine T2 Z Z ?_;refine Cx Z Z (nP _) Z ?_;refine Dk Z Z Z (fun w3 j=>?_);refine Bx Z Z Z (by simp [Bp]) j.at_ (by simp) Z (fun w4 l=>?_);have o:w4.heap[w2.heap.size]?=some (.cells ⟨[.int .i64 (k:Int),Bm [],.slice none 0 0,.slice none 0 0]⟩ 129 (0,0)):=by simpa using l.at_
 have b:Up w2.heap.size w2 w4:=(j.up Y).trans (l.up Y);have u:=b.at (Ah h) h;have v:=f.up b;have x:=n.trans (b.mono (by omega));clear j l b n h f c0;obtain⟨cur,h2,h3⟩:=v.cells;obtain⟨d,y,ae,z⟩:=(h3 i a ha).data;have aa:=(z t s).rx;have c3:w4.cell? ⟨g,i*7+2+1,none⟩=some d:=Ar h2 (by simpa using y);have c3':w4.cell? ⟨g,i*7+3,none⟩=some d:=c3;repeat first|refine Aa Z ?_|apply Ab|apply Ac|refine Ao Z (by first|omega|decide) ?_|refine Av Z Z o Z Z ?_|refine Aw Z Z c3 Z ?_|refine Tg t Z Z aa Z ?_|apply Ad
 refine Bk Z Z Z o Z Z (fun w5 m=>?_);have ab:w5.heap[w2.heap.size]?=some (.cells ⟨[.int .i64 (k:Int),Bm t,.slice none 0 0,.slice none 0 0]⟩ 129 (0,0)):=m.at_;have ac:=m.keep u (by omega);repeat first|apply Ab|apply Ac|refine Fz Z Z ab Z Z ?_
 refine Bx Z Z Z (by simp [Bp]) ac (by simp) Z (fun w6 p=>?_);have q:St w5 K (.cells ⟨[.int .i64 (k:Int),Bm t,.slice none 0 0,.slice none 0 0]⟩ 129 (0,0)) w6:=by simpa using p
 repeat first|apply Ab|apply Bl|apply Ai
 refine Ch Z Z Z q.at_ Z ⟨_,_,_,rfl,?_,(x.trans (m.up (by omega))).trans (p.up Y)⟩;simp only [Ik];exact⟨trivial,trivial,none,0,rfl⟩
theorem nodeArr (vs:List Bz) (co:∀v∈vs,Uc v):Uc (.arr vs):=by
 intro pp g i ns w hA hw hN hM;simp only [NT] at hN;obtain⟨a,ha,cp,p⟩:=hN;simp only [Pw] at hM;obtain⟨dc,cq⟩:=hM;have cr:=(hw i a ha).2.2.2;refine Bf (L:=[(0,.pointer (some ⟨g,i*7,none⟩))]) Tryz.func69 Z Z Z ⟨Z,V⟩ ?_;repeat (apply Ac)
 refine Dk Z Z Z (fun w1 aj=>?_);have bc:AR w1 pp g ns:=hA.up (aj.up Y);obtain⟨cur,h2,h3⟩:=bc.cells;have c0:w1.cell? ⟨g,i*7,none⟩=some (.int .i64 a.kind):=Ar h2 (by simpa using (h3 i a ha).kind);have bd:=aj.at_;have cz:=aj.size;have bq:Up w.heap.size w w1:=aj.up Y;generalize hK:w.heap.size=K at *;clear aj hA h2 h3;repeat first|refine Aa Z ?_|apply Ab|apply Ac|refine Aw Z Z c0 Z ?_
 refine Ae Z Z Z (Qd 8 a.kind w1 (.inr (.inl ⟨cp,rfl⟩))) ?_;rintro e w2 ⟨rfl,rfl⟩;refine T2 Z Z ?_;refine Cx Z Z (nP _) Z ?_;refine Dk Z Z Z (fun w3 ar=>?_);refine Bx Z Z Z (by simp [Bp]) ar.at_ (by simp) Z (fun w4 au=>?_);have av:w4.heap[w2.heap.size]?=some (.cells ⟨[.int .i64 8,Bm [],.slice none 0 0,.slice none 0 0]⟩ 129 (0,0)):=by simpa using au.at_
 have ad:Up w2.heap.size w2 w4:=(ar.up Y).trans (au.up Y);have ag:=ad.at (Ah bd) bd;have ah:=bc.up ad;have aw:=bq.trans (ad.mono (by omega));have br:w4.heap.size=w2.heap.size+1:=by rw [au.size,ar.size]
 generalize dd:w2.heap.size=nb at *;clear ar au ad bq bd bc c0;repeat first|refine Aa Z ?_|apply Ab|apply Ac|refine Aj Z (by first|omega|decide) ?_|refine Av Z Z av Z Z ?_|apply Ad|apply An|apply Af
 refine Ae Z Z Z (Kz pp g i ns a w4 ah ha cr) ?_;rintro e w5 ⟨rfl,l⟩;refine T2 Z Z ?_;have ae:=l.size;refine Dk Z Z Z (fun w6 be=>?_);refine Bx Z Z Z (by simp [Bp,Gm]) be.at_ (by simp) Z (fun w7 bf=>?_);have ab:Up w4.heap.size w4 w7:=(l.trans (be.up ae)).trans (bf.up ae);have bs:Io w7 w5.heap.size g ns a.child:=.inl bf.at_;have bt:=ah.up ab;have bu:=ab.at (Ah av) av;have bv:=ab.at (Ah ag) ag;have bw:=aw.trans (ab.mono (by omega));generalize cs:w5.heap.size=it at *;have da:nb<it:=by omega
 have de:K<nb:=by omega
 clear be bf ab l av ag aw ah cs;repeat first|apply Ab|apply Ad|apply Ag
 refine Bg (σ:=Nat×List Bz×List Bz×Value) (I:=fun s w'=>Io w' it g ns s.1/\NTs ns s.2.2.1 s.1/\s.2.1++s.2.2.1=vs/\(∃xs,w'.ownsRow (it+1) 129 4 s.2.2.2 s.2.1.length xs/\Hj w' (fun b=>nb<b/\s.2.2.2.ownBlock≠some b) s.2.1 xs)/\
   w'.heap[nb]?=some (.cells ⟨[.int .i64 8,Bm [],s.2.2.2,.slice none 0 0]⟩ 129 (0,0))/\w'.heap[K]?=some (.cells ⟨[.int .i64 0,Bm [],.slice none 0 0,.slice none 0 0]⟩ 129 (0,0))/\AR w' pp g ns/\Up K w w')
  (m:=fun s=>s.2.2.1.length) (Lf:=fun s=>[(2,pt K),(3,pt nb),(4,.pointer (F it))])
  (a.child,[],vs,.slice none 0 0) ⟨bs,p,rfl,⟨[],World.ownsRow_nil _ _ _ _,by simp [Hj]⟩,bu,bv,bt,bw⟩ ⟨Z,Z,Z,V⟩ ?_
 clear bs p bu bv bt bw br;rintro⟨h,dn,rest,ev⟩ w8 ⟨hI,p,ai,⟨xs,hO,bg⟩,hn,hr,hA,hU⟩;dsimp only at hI p ai hO bg hn ⊢;have ct:h<=ns.length:=by
  cases rest with
  | nil=>have:h=0:=p;omega
  | cons v rest=>
   simp only [NTs] at p;obtain⟨j,b,rfl,hj,_⟩:=p;exact (Yc.1 hj).1
 repeat first|apply Ac|apply Ad
 refine Ae Z Z Z (Ih pp g h it ns w8 hA hw ct hI) ?_;rintro e w9 ⟨rfl,wm,bh,⟨om,bx,bz⟩,ax⟩;have t:=Kd bh bz bx ax rfl;have bi:Up K w w9:=hU.trans (bh.up.trans (ax.up (by omega)));have aa:=Cd hO t (by simp);have ak:=hA.fm t (by simp) (by simp) (by simp);have al:=Hj.move (Dh.fm (P':=fun b=>nb<b/\ev.ownBlock≠some b) t (by simp) (by simp) (fun b h=>h)) _ _ bg;have ay:=t.keep _ _ hn (by simp [Ce]);have am:=t.keep _ _ hr (by simp [Ce]);have q:=ax.at_;clear hI hO hA hU bh bz bg hn hr t ax bx;cases rest with
 | nil=>
  simp only [NTs] at p;rw [Ew (show ¬h≠0 by omega)];refine T2 Z Z ?_;rw [List.append_nil] at ai;subst ai;have cu:=Jg aa;(repeat first|apply Ab|apply Ac|refine Bb Z (by first|with_reducible rfl|exact Bool.not_true) ?_|refine Fz (b:=nb) Z Z ay Z Z ?_|apply An|apply Cn|apply Ci|apply Ba);refine Bx Z Z Z (by simpa [Bp] using cu) am (by simp) Z (fun d f=>?_);have bj:St w9 K (.cells ⟨[.int .i64 8,Bm [],ev,.slice none 0 0]⟩ 129 (0,0)) d:=(by simpa using f);(repeat first|apply Ab|apply Ai);refine Ch Z Z Z bj.at_ Z ⟨_,_,_,rfl,?_,bi.trans (f.up Y)⟩;have ca:d.ownsRow (it+1) 129 4 ev dn.length xs:=Bi aa (fun g o hg h=>f.keep h (by have:=(aa.lt g hg).1;omega));have cb:Hj d (fun g=>K<=g) dn xs:=Hj.move (P':=fun g=>K<=g) (fun b o hb ho _=>⟨f.keep ho (by have:=hb.1;omega),by have:=hb.1;omega⟩) _ _ al;exact ik_arr ca cb (fun g hg=>by omega)
 | cons v rest=>
  simp only [NTs] at p;obtain⟨j,m,rfl,hj,cc,bk⟩:=p;rw [Fj (show j+1≠0 by omega)];refine T2 Z Z ?_;rw [Fe] at q;have cd:v∈vs:=(by rw [<-ai];simp);have ce:=cq.mem v cd;(repeat first|apply Ab|apply Ac|refine Bn Z (by first|with_reducible rfl|exact Bool.not_false) ?_|apply Ag|apply An|apply Af);refine Ae Z Z Z (Gc _ _ it w9 q) ?_;rintro e d ⟨rfl,rfl⟩;refine T2 Z Z ?_;obtain⟨m',cf,df⟩:=cc.kind ce;rw [hj] at cf;cases cf;obtain⟨cur,cg,ch⟩:=ak.cells;have c0:d.cell? ⟨g,j*7,none⟩=some (.int .i64 m.kind):=Ar cg (by simpa using (ch j m hj).kind);(repeat first|refine Aa Z ?_|apply Ab|apply Ac|refine Aj Z (by first|omega|decide) ?_|refine Aw Z Z c0 Z ?_|refine Av (b:=nb) Z Z ay Z Z ?_|apply Ad|apply An|apply Af);refine Hi (fun _=>True) ?_;have bl:Sm d d.drew:=(Sm.refl _).drew;have az:Fm 0 [] d d.drew:=bl.fm;have bm:=Cd aa az (by simp);have cv:=Hj.move (Dh.fm (P':=fun b=>nb<b/\ev.ownBlock≠some b) az (by simp) (by simp) (fun b h=>h)) _ _ al;have af:d.drew.heap[nb]?=_:=ay;have ag:d.drew.heap[K]?=_:=am;have ba:d.drew.heap[it]?=_:=q;have ah:=ak.fm az (by simp) (by simp) (by simp);have aw:Up K w d.drew:=bi.trans bl.up;clear az aa al ay am bl ak bi c0 cg ch q;generalize d.drew=w4 at *;have ci:∀g,ev.ownBlock=some g->g<w4.heap.size:=fun g hg=>(bm.lt g hg).2;have an:=co v cd pp g j ns w4 ah hw cc ce;have dg:=Ah ag;have cw:=Ah af;have dh:=Ah ba;have di:dn.length<=vs.length:=(by rw [<-ai,Ye];omega);have put:∀(w5:World) (x y z:Value),Ik w5 (fun g=>w4.heap.size<=g) v x y z->Up w4.heap.size w4 w5->∀(w8:World),Al w5 (.cells ⟨[x,y,z,.slice none 0 0]⟩ 129 (0,0)) w8->
    ∃ev' w9 d,(Builtin.append_ #[127,127] 127 #[ev,.slice (F w5.heap.size) 1 1]).run PP w8=.ok ev' w9/\Bp ev'=true/\w9.heap[nb]?=some (.cells ⟨[.int .i64 8,Bm [],ev,.slice none 0 0]⟩ 129 (0,0))/\w9.setCell ⟨nb,2,none⟩ ev'=d/\
     Io d it g ns m.next/\(∃xs',d.ownsRow (it+1) 129 4 ev' (dn++[v]).length xs'/\Hj d (fun b=>nb<b/\ev'.ownBlock≠some b) (dn++[v]) xs')/\
     d.heap[nb]?=some (.cells ⟨[.int .i64 8,Bm [],ev',.slice none 0 0]⟩ 129 (0,0))/\d.heap[K]?=some (.cells ⟨[.int .i64 0,Bm [],.slice none 0 0,.slice none 0 0]⟩ 129 (0,0))/\AR d pp g ns/\Up K w d:=by
   intro w5 x y z n l w8 k;obtain⟨o1,o2,o3,_⟩:=n.one;have ae:=l.size;have r:Up w4.heap.size w4 w8:=l.trans (k.up ae);have cj:w8.ownsRow (it+1) 129 4 ev dn.length xs:=Bi bm (fun g o hg h=>r.at (Ah h) h);have db:=r.size;obtain⟨ev',w9,ck,aa,t,cl,cx⟩:=iR (m:=1) (c:=1) 127 [x,y,z,.slice none 0 0] (rfl:Fx 127=some (129,4)) cj rfl (fun j u hu=>by
    rw [Dw];exact Ar k.at_ (by simpa using hu)) (fun u hu=>by
    simp only [List.mem_cons,List.not_mem_nil,or_false] at hu;rcases hu with rfl|rfl|rfl|rfl<;>first|assumption|rfl) (by omega) (by omega)
   have bn:=Jg aa;have old:∀b,b<=it->w9.heap[b]?=w4.heap[b]?:=fun b hb=>by
    have cy:b<w4.heap.size:=(by omega);rw [cl b (by omega) (fun h=>by have:=(cj.lt b h).1;omega)];exact r.old b cy
   have ao:w9.heap[nb]?=some (.cells ⟨[.int .i64 8,Bm [],ev,.slice none 0 0]⟩ 129 (0,0)):=(by rw [old nb (by omega)];exact af);have am:w9.heap[K]?=some (.cells ⟨[.int .i64 0,Bm [],.slice none 0 0,.slice none 0 0]⟩ 129 (0,0)):=(by rw [old K (by omega)];exact ag);have q:w9.heap[it]?=_:=(old it Y).trans ba;have f:=Ev (i:=2) ev' ao;have cm:Fm (it+1) [129] w8 w9:=t;have ak:=(ah.up r).fm cm (by simp) (by simp) (by simp);have cn:AR (w9.setCell ⟨nb,2,none⟩ ev') pp g ns:=ak.fm (B:=0) (T:=[129]) (f.fm ao O (by simp [Ce]) rfl) (by simp) (by simp) (by simp);have bo:Up nb w4 (w9.setCell ⟨nb,2,none⟩ ev'):=(r.mono (by omega)).trans ((t.up.mono (by omega)).trans (f.up Y));have mvA:∀(P:Nat->Prop) (w7:World),Dh P P w7 w8->(∀b,P b->nb<b/\ev.ownBlock≠some b)->Dh P (fun b=>nb<b/\ev'.ownBlock≠some b) w7 (w9.setCell ⟨nb,2,none⟩ ev'):=fun P w7 h7 hP=>(h7.trans (Dh.ap cl cx hP)).trans (Dh.st f (fun b h=>h.1));refine⟨ev',w9,_,ck,bn,ao,rfl,.inr ⟨j,m,hj,rfl,by rw [Fe];exact f.keep q (by omega)⟩,⟨xs++[x,y,z,.slice none 0 0],?_,?_⟩,f.at_,f.keep am (by omega),cn,aw.trans (bo.mono (by omega))⟩
   ·rw [Ye];exact Bi aa (fun g o hg h=>f.keep h (by have:=(aa.lt g hg).1;omega))
   ·refine Hj.snoc (Hj.move (mvA _ w4 (Dh.up r (fun b h _=>h)) (fun b h=>h)) _ _ cv) (by rw [bm.1]) (Ik.move (mvA _ w5 (Dh.up (k.up Y) (fun b h _=>h)) (fun b h=>⟨by omega,fun e=>by have:=ci b e;omega⟩)) _ _ _ _ n)
     (RS.nil _ _)
  have bp:∀w':World,w'.heap[nb]?=some (.cells ⟨[.int .i64 8,Bm [],ev,.slice none 0 0]⟩ 129 (0,0))->w'.cell? ⟨nb,2,none⟩=some ev:=fun w' h=>Ar h rfl;have aq:(dn++[v])++rest=vs:=(by rw [<-ai];simp);refine Bw 0 Z (by kernel_rfl) De.ok trivial Z ?_;refine Bw 2 Z (by kernel_rfl) De.ok trivial Z ?_;refine Im 1 3 (by kernel_rfl) ?_ ?_
  ·refine Cy Z Z (fun a hf=>Dz hf Z (bp w4 af)) trivial Z ?_;refine Ep 3 (by kernel_rfl) ?_;refine Hs Z Z Z Z an ?_;rintro e w5 ⟨x,y,z,rfl,n,l⟩;refine⟨_,_,rfl,rfl,trivial,?_⟩;refine Ep 4 (by kernel_rfl) ?_;refine Cy Z Z (fun ac hf=>by rw [Dn hf rfl];simp only [Sem.run_bind,iO,Result.andThen_ok,Sem.run_pure];rfl) trivial Z ?_;have k:=Br w5 (.cells ⟨[x,y,z,.slice none 0 0]⟩ 129 (0,0));generalize w5.alloc (.cells ⟨[x,y,z,.slice none 0 0]⟩ 129 (0,0))=w8 at k;obtain⟨ev',w9,d,q1,q2,q3,q4,q5,q6,q7,q8,q9,q10⟩:=put w5 x y z n l w8 k;refine Ep 5 (by kernel_rfl) ?_;refine Cy Z Z (fun ac hf=>by rw [Gi hf rfl];simp only [Sem.run_bind,q1,Result.andThen_ok,Sem.run_pure];rfl) trivial Z ?_;refine Bw 6 Z (by kernel_rfl) De.ok trivial Z ?_;refine Jr 7 (by kernel_rfl) Z Z (fun ac hf=>Gr hf rfl q2 q3 rfl) trivial Z ?_;rw [q4];refine Eg (by kernel_rfl) ?_;(repeat (apply Bj));exact Ap (m.next,dn++[v],rest,ev') ⟨q5,bk,aq,q6,q7,q8,q9,q10⟩ (by simp) ⟨Z,Z,Z,V⟩
  ·refine Hs Z Z Z Z an ?_;rintro e w5 ⟨x,y,z,rfl,n,l⟩;refine⟨_,_,rfl,rfl,trivial,?_⟩;have bb:=l.at cw af;refine Im 1 4 (by kernel_rfl) ?_ ?_
   ·refine Cy Z Z (fun a hf=>Dz hf Z (bp w5 bb)) trivial Z ?_;refine Ep 4 (by kernel_rfl) ?_;refine Cy Z Z (fun ac hf=>by rw [Dn hf rfl];simp only [Sem.run_bind,iO,Result.andThen_ok,Sem.run_pure];rfl) trivial Z ?_;have k:=Br w5 (.cells ⟨[x,y,z,.slice none 0 0]⟩ 129 (0,0));generalize w5.alloc (.cells ⟨[x,y,z,.slice none 0 0]⟩ 129 (0,0))=w8 at k;obtain⟨ev',w9,d,q1,q2,q3,q4,q5,q6,q7,q8,q9,q10⟩:=put w5 x y z n l w8 k;refine Ep 5 (by kernel_rfl) ?_;refine Cy Z Z (fun ac hf=>by rw [Gi hf rfl];simp only [Sem.run_bind,q1,Result.andThen_ok,Sem.run_pure];rfl) trivial Z ?_;refine Bw 6 Z (by kernel_rfl) De.ok trivial Z ?_;refine Jr 7 (by kernel_rfl) Z Z (fun ac hf=>Gr hf rfl q2 q3 rfl) trivial Z ?_;rw [q4];refine Eg (by kernel_rfl) ?_;(repeat (apply Bj));exact Ap (m.next,dn++[v],rest,ev') ⟨q5,bk,aq,q6,q7,q8,q9,q10⟩ (by simp) ⟨Z,Z,Z,V⟩
   ·refine Cy Z Z (fun ac hf=>by rw [Dn hf rfl];simp only [Sem.run_bind,iO,Result.andThen_ok,Sem.run_pure];rfl) trivial Z ?_;have k:=Br w5 (.cells ⟨[x,y,z,.slice none 0 0]⟩ 129 (0,0));generalize w5.alloc (.cells ⟨[x,y,z,.slice none 0 0]⟩ 129 (0,0))=w8 at k;refine Ep 1 (by kernel_rfl) ?_;refine Cy Z Z (fun a hf=>Dz hf Z (bp w8 (k.keep bb))) trivial Z ?_;obtain⟨ev',w9,d,q1,q2,q3,q4,q5,q6,q7,q8,q9,q10⟩:=put w5 x y z n l w8 k;refine Ep 5 (by kernel_rfl) ?_;refine Cy Z Z (fun ac hf=>by rw [Gi hf rfl];simp only [Sem.run_bind,q1,Result.andThen_ok,Sem.run_pure];rfl) trivial Z ?_;refine Bw 6 Z (by kernel_rfl) De.ok trivial Z ?_;refine Jr 7 (by kernel_rfl) Z Z (fun ac hf=>Gr hf rfl q2 q3 rfl) trivial Z ?_;rw [q4];refine Eg (by kernel_rfl) ?_;(repeat (apply Bj));exact Ap (m.next,dn++[v],rest,ev') ⟨q5,bk,aq,q6,q7,q8,q9,q10⟩ (by simp) ⟨Z,Z,Z,V⟩
theorem nodeTbl (vs:List (List Bs×Bz)) (dv:∀ks v,(ks,v)∈vs->Uc v):Uc (.tbl vs):=by
 intro pp g i ns w hA hw hN hM;simp only [NT] at hN;obtain⟨a,ha,dw,n⟩:=hN;simp only [Pw] at hM;obtain⟨eq,dx⟩:=hM;have dy:=(hw i a ha).2.2.2;refine Bf (L:=[(0,.pointer (some ⟨g,i*7,none⟩))]) Tryz.func69 Z Z Z ⟨Z,V⟩ ?_;repeat (apply Ac)
 refine Dk Z Z Z (fun w1 aq=>?_);have bv:AR w1 pp g ns:=hA.up (aq.up Y);obtain⟨cur,h2,h3⟩:=bv.cells;have c0:w1.cell? ⟨g,i*7,none⟩=some (.int .i64 a.kind):=Ar h2 (by simpa using (h3 i a ha).kind);have bw:=aq.at_;have eo:=aq.size;have cq:Up w.heap.size w w1:=aq.up Y;generalize hK:w.heap.size=K at *;clear aq hA h2 h3;repeat first|refine Aa Z ?_|apply Ab|apply Ac|refine Aw Z Z c0 Z ?_
 refine Ae Z Z Z (Qd 9 a.kind w1 (.inr (.inr ⟨dw,rfl⟩))) ?_;rintro e w2 ⟨rfl,rfl⟩;refine T2 Z Z ?_;refine Cx Z Z (nP _) Z ?_;refine Dk Z Z Z (fun w3 bh=>?_);refine Bx Z Z Z (by simp [Bp]) bh.at_ (by simp) Z (fun w4 bi=>?_);have bj:w4.heap[w2.heap.size]?=some (.cells ⟨[.int .i64 9,Bm [],.slice none 0 0,.slice none 0 0]⟩ 129 (0,0)):=by simpa using bi.at_
 have af:Up w2.heap.size w2 w4:=(bh.up Y).trans (bi.up Y);have bx:=af.at (Ah bw) bw;have bz:=bv.up af;have cr:=cq.trans (af.mono (by omega));have cs:w4.heap.size=w2.heap.size+1:=by rw [bi.size,bh.size]
 generalize er:w2.heap.size=nb at *;clear bh bi af cq bw bv c0;repeat first|refine Aa Z ?_|apply Ab|apply Ac|refine Aj Z (by first|omega|decide) ?_|refine Av Z Z bj Z Z ?_|apply Ad|apply An|apply Af
 refine Ae Z Z Z (Kz pp g i ns a w4 bz ha dy) ?_;rintro e w5 ⟨rfl,ca⟩;refine T2 Z Z ?_;have bo:=ca.size;refine Dk Z Z Z (fun w6 cb=>?_);refine Bx Z Z Z (by simp [Bp,Gm]) cb.at_ (by simp) Z (fun w7 cc=>?_);have t:Up w4.heap.size w4 w7:=(ca.trans (cb.up bo)).trans (cc.up bo);have ct:Io w7 w5.heap.size g ns a.child:=.inl cc.at_;have cu:=bz.up t;have cv:=t.at (Ah bj) bj;have cw:=t.at (Ah bx) bx;have cx:=cr.trans (t.mono (by omega));generalize dz:w5.heap.size=it at *;have ep:nb<it:=by omega
 have es:K<nb:=by omega
 clear cb cc t ca bj bx cr bz dz;repeat first|apply Ab|apply Ad|apply Ag
 refine Bg (σ:=Nat×List (List Bs×Bz)×List (List Bs×Bz)×Value) (I:=fun s w'=>Io w' it g ns s.1/\NEs ns s.2.2.1 s.1/\s.2.1++s.2.2.1=vs/\(∃xs,w'.ownsRow (it+1) 129 4 s.2.2.2 s.2.1.length xs/\Hk w' (fun b=>nb<b/\s.2.2.2.ownBlock≠some b) s.2.1 xs)/\
   w'.heap[nb]?=some (.cells ⟨[.int .i64 9,Bm [],s.2.2.2,.slice none 0 0]⟩ 129 (0,0))/\w'.heap[K]?=some (.cells ⟨[.int .i64 0,Bm [],.slice none 0 0,.slice none 0 0]⟩ 129 (0,0))/\AR w' pp g ns/\Up K w w')
  (m:=fun s=>s.2.2.1.length) (Lf:=fun s=>[(2,pt K),(3,pt nb),(4,.pointer (F it))])
  (a.child,[],vs,.slice none 0 0) ⟨ct,n,rfl,⟨[],World.ownsRow_nil _ _ _ _,by simp [Hk]⟩,cv,cw,cu,cx⟩ ⟨Z,Z,Z,V⟩ ?_
 clear ct n cv cw cu cx cs;rintro⟨h,dn,rest,ev⟩ w8 ⟨hI,n,am,⟨xs,hO,cd⟩,hn,hr,hA,hU⟩;dsimp only at hI n am hO cd hn ⊢;have ea:h<=ns.length:=by
  cases rest with
  | nil=>have:h=0:=n;omega
  | cons v rest=>
   obtain⟨ks,v⟩:=v;simp only [NEs] at n;obtain⟨j,b,c,d,rfl,hj,_⟩:=n;exact (Yc.1 hj).1
 repeat first|apply Ac|apply Ad
 refine Ae Z Z Z (Ih pp g h it ns w8 hA hw ea hI) ?_;rintro e w9 ⟨rfl,wm,ce,⟨om,cy,cz⟩,bk⟩;have an:=Kd ce cz cy bk rfl;have cf:Up K w w9:=hU.trans (ce.up.trans (bk.up (by omega)));have ar:=Cd hO an (by simp);have bl:=hA.fm an (by simp) (by simp) (by simp);have au:=Hk.move (Dh.fm (P':=fun b=>nb<b/\ev.ownBlock≠some b) an (by simp) (by simp) (fun b h=>h)) _ _ cd;have bm:=an.keep _ _ hn (by simp [Ce]);have cg:=an.keep _ _ hr (by simp [Ce]);have ag:=bk.at_;clear hI hO hA hU ce cz cd hn hr an bk cy;cases rest with
 | nil=>
  simp only [NEs] at n;rw [Ew (show ¬h≠0 by omega)];refine T2 Z Z ?_;rw [List.append_nil] at am;subst am;have eb:=Jg ar;(repeat first|apply Ab|apply Ac|refine Bb Z (by first|with_reducible rfl|exact Bool.not_true) ?_|refine Fz (b:=nb) Z Z bm Z Z ?_|apply An|apply Cn|apply Ci|apply Ba);refine Bx Z Z Z (by simpa [Bp] using eb) cg (by simp) Z (fun ab ah=>?_);have ch:St w9 K (.cells ⟨[.int .i64 9,Bm [],ev,.slice none 0 0]⟩ 129 (0,0)) ab:=(by simpa using ah);(repeat first|apply Ab|apply Ai);refine Ch Z Z Z ch.at_ Z ⟨_,_,_,rfl,?_,cf.trans (ah.up Y)⟩;have da:ab.ownsRow (it+1) 129 4 ev dn.length xs:=Bi ar (fun g o hg h=>ah.keep h (by have:=(ar.lt g hg).1;omega));have db:Hk ab (fun g=>K<=g) dn xs:=Hk.move (P':=fun g=>K<=g) (fun b o hb ho _=>⟨ah.keep ho (by have:=hb.1;omega),by have:=hb.1;omega⟩) _ _ au;exact ik_tbl da db (fun g hg=>by omega)
 | cons x rest=>
  obtain⟨ks,v⟩:=x;simp only [NEs] at n;obtain⟨j,m,c,b,rfl,hj,av,dc,ec,ed,ee,ef⟩:=n;rw [Fj (show j+1≠0 by omega)];refine T2 Z Z ?_;rw [Fe] at ag;have dd:(ks,v)∈vs:=(by rw [<-am];simp);obtain⟨⟨et,eg⟩,eh⟩:=dx.mem ks v dd;have de:=(hw j m hj).2.2.2;have df:Hx ns m=b.next:=(by simp [Hx,av,dc,ec]);have eu:dn.length<=vs.length:=(by rw [<-am,Ye];omega);(repeat first|apply Ab|apply Ac|refine Bn Z (by first|with_reducible rfl|exact Bool.not_false) ?_|apply Ag|apply An|apply Af);refine Ae Z Z Z (Gc _ _ it w9 ag) ?_;rintro e ab ⟨rfl,rfl⟩;refine T2 Z Z ?_;obtain⟨cur,dg,dh⟩:=bl.cells;have c0:ab.cell? ⟨g,j*7,none⟩=some (.int .i64 m.kind):=Ar dg (by simpa using (dh j m hj).kind);rw [av] at c0;(repeat first|refine Aa Z ?_|apply Ab|apply Ac|refine Ao Z (by first|omega|decide) ?_|refine Aj Z (by first|omega|decide) ?_|refine Aw Z Z c0 Z ?_|refine Av (b:=nb) Z Z bm Z Z ?_|apply Ad|apply An|apply Af);refine Ae Z Z Z (Ns pp g j ns m ab bl hj de) ?_;rintro e f ⟨rfl,aw⟩;rw [dc,Fe];refine T2 Z Z ?_;have k:Fm 0 [] ab f:=aw.fm;have ax:=Cd ar k (by simp);have di:=Hk.move (Dh.fm (P':=fun b=>nb<b/\ev.ownBlock≠some b) k (by simp) (by simp) (fun b h=>h)) _ _ au;have ay:=k.keep _ _ bm (by simp);have bp:=k.keep _ _ cg (by simp);have az:=k.keep _ _ ag (by simp);have ba:=bl.fm k (by simp) (by simp) (by simp);have dj:Up K w f:=cf.trans aw.up;clear k ar au bm cg aw bl cf c0 dg dh ag;have bq:∀g,ev.ownBlock=some g->g<f.heap.size:=fun g hg=>(ax.lt g hg).2;have ew:=Ah bp;have ei:=Ah ay;have ex:=Ah az;skip;refine Ae Z Z Z (dv ks v dd pp g c ns f ba hw ed eh) ?_;rintro e p ⟨x,y,z,rfl,ac,bb⟩;refine T2 Z Z ?_;obtain⟨o1,o2,o3,_⟩:=ac.one;have ci:=bb.size;refine Dk Z Z Z (fun ey ai=>?_);refine Bx Z Z Z (by simp [o1,o2,o3,show Bp (.slice none 0 0)=true from rfl]) ai.at_ (by simp) Z (fun ad aj=>?_);have bc:ad.heap[p.heap.size]?=some (.cells ⟨[x,y,z,.slice none 0 0]⟩ 129 (0,0)):=(by simpa using aj.at_);have r:Up p.heap.size p ad:=(ai.up Y).trans (aj.up Y);have bd:Up f.heap.size f ad:=bb.trans (r.mono ci);have be:Ik ad (fun b=>f.heap.size<=b/\b<p.heap.size) v x y z:=Ik.move (Dh.up r (fun b h hl=>⟨h,hl⟩)) _ _ _ _ ac;have ej:ad.heap.size=p.heap.size+1:=(by rw [aj.size,ai.size]);clear ai aj r bb ac;(repeat first|refine Aa Z ?_|apply Ab|apply Ac);refine Ae Z Z Z (Nc pp g j ns m ks ad (ba.up bd) hw hj (.inl ⟨av,by omega⟩) (by rw [df];exact ee) eg) ?_;rintro e ek ⟨kv,rfl,cj,aa⟩;refine T2 Z Z ?_;have br:=aa.at (Ah bc) bc;have ok4:=cj.one;have el:=aa.size;(repeat (refine Aa Z ?_));refine Bk Z Z ok4 br Z Z (fun ae ak=>?_);have dk:ae.heap[p.heap.size]?=some (.cells ⟨[x,y,z,kv]⟩ 129 (0,0)):=ak.at_;have bf:Up f.heap.size f ae:=(bd.trans (aa.mono (by omega))).trans (ak.up (by omega));have mv16:∀(P:Nat->Prop),(∀b,P b->b≠p.heap.size)->Dh P P ek ae:=fun P hP b o hb ho _=>⟨ak.keep ho (hP b hb),hb⟩;have ck:Ik ae (fun b=>f.heap.size<=b/\b<p.heap.size) v x y z:=Ik.move (Dh.trans (Dh.up (P':=fun b=>f.heap.size<=b/\b<p.heap.size) aa (fun b h _=>h)) (mv16 _ (fun b h=>by omega))) _ _ _ _ be;have cl:RS ae (fun b=>ad.heap.size<=b) kv ks:=RS.move9 (mv16 _ (fun b h=>by omega)) cj;have dl:=bf.at ei ay;have cm:=bf.size;clear be bd aa ak br cj mv16 bc;(repeat first|refine Aa Z ?_|apply Ab|apply Ac|refine Av (b:=nb) (i:=2) Z Z dl Z Z ?_|refine Fz (b:=p.heap.size) Z Z dk Z Z ?_);refine Ec Z Z (iO _ _ _ _) Z (fun cn al=>?_);have q:Up f.heap.size f cn:=bf.trans (al.up cm);have bs:cn.ownsRow (it+1) 129 4 ev dn.length xs:=Bi ax (fun g o hg h=>q.at (Ah h) h);have em:=q.size;refine Qo (m:=1) [x,y,z,kv] Z Z (rfl:Fx 127=some (129,4)) bs Z (fun j u hu=>?_) (fun u hu=>?_) (by omega) (by omega) (fun ev' bn bg bt dm en=>?_)
  ·rw [Dw];exact Ar al.at_ (by simpa using hu)
  ·simp only [List.mem_cons,List.not_mem_nil,or_false] at hu;rcases hu with rfl|rfl|rfl|rfl<;>assumption
  have co:=Jg bg;have old:∀b,b<=it->bn.heap[b]?=f.heap[b]?:=fun b hb=>by
   rw [dm b (by omega) (fun h=>by have:=(bs.lt b h).1;omega)];exact q.old b (by omega)
  have bu:bn.heap[nb]?=some (.cells ⟨[.int .i64 9,Bm [],ev,.slice none 0 0]⟩ 129 (0,0)):=(by rw [old nb (by omega)];exact ay);have dp:bn.heap[K]?=some (.cells ⟨[.int .i64 0,Bm [],.slice none 0 0,.slice none 0 0]⟩ 129 (0,0)):=(by rw [old K (by omega)];exact bp);have cp:bn.heap[it]?=_:=(old it Y).trans az;refine⟨_,rfl,?_⟩;(repeat (refine Aa Z ?_));refine Bk Z Z co bu Z Z (fun ao l=>?_);have dq:AR ao pp g ns:=((ba.up q).fm bt (by simp) (by simp) (by simp)).fm (B:=0) (T:=[129]) (l.fm bu O (by simp [Ce]) rfl) (by simp) (by simp) (by simp);have dr:Up nb f ao:=(q.mono (by omega)).trans ((bt.up.mono (by omega)).trans (l.up Y));have mvA:∀(P:Nat->Prop) (w7:World),Dh P P w7 cn->(∀b,P b->nb<b/\ev.ownBlock≠some b)->Dh P (fun b=>nb<b/\ev'.ownBlock≠some b) w7 ao:=fun P w7 h7 hP=>(h7.trans (Dh.ap dm en hP)).trans (Dh.st l (fun b h=>h.1));have ds:Io ao it g ns m.next:=.inr ⟨j,m,hj,rfl,by rw [Fe];exact l.keep cp (by omega)⟩;have dt:ao.ownsRow (it+1) 129 4 ev' (dn++[(ks,v)]).length (xs++[x,y,z,kv]):=by
   rw [Ye];exact Bi bg (fun g o hg h=>l.keep h (by have:=(bg.lt g hg).1;omega))
  have du:Hk ao (fun b=>nb<b/\ev'.ownBlock≠some b) (dn++[(ks,v)]) (xs++[x,y,z,kv]):=
   Hk.snoc (Hk.move (mvA _ f (Dh.up q (fun b h _=>h)) (fun b h=>h)) _ _ di) (by rw [ax.1]) (Ik.move (mvA _ ae (Dh.up (al.up Y) (fun b h _=>h)) (fun b h=>⟨by omega,fun e=>by have:=bq b e;omega⟩)) _ _ _ _ ck)
    (RS.move9 (mvA _ ae (Dh.up (al.up Y) (fun b h _=>h)) (fun b h=>⟨by omega,fun e=>by have:=bq b e;omega⟩)) cl)
  (repeat first|apply Ab|apply Cn|apply Ci|apply Ba);exact Ap (m.next,dn++[(ks,v)],rest,ev') ⟨ds,ef,by rw [<-am];simp,⟨_,dt,du⟩,l.at_,l.keep dp (by omega),dq,dj.trans (dr.mono (by omega))⟩ (by simp) ⟨Z,Z,Z,V⟩
mutual
theorem Vn:∀(v:Bz),Uc v
 | .sc k t=>nodeSc k t
 | .arr vs=>nodeArr vs (node_allI vs)
 | .tbl es=>nodeTbl es (node_allE es)
theorem node_allI:∀(vs:List Bz),∀v∈vs,Uc v
 | [],v,hv=>by simp at hv
 | u::us,v,hv=>by
  rcases List.mem_cons.1 hv with e|hv
  ·rw [e];exact Vn u
  ·exact node_allI us v hv
theorem node_allE:∀(es:List (List Bs×Bz)),∀ks v,(ks,v)∈es->Uc v
 | [],ks,v,hv=>by simp at hv
 | (ks',u)::us,ks,v,hv=>by
  rcases List.mem_cons.1 hv with e|hv
  ·simp only [Prod.mk.injEq] at e;rw [e.2];exact Vn u
  ·exact node_allE us ks v hv
end
theorem RX.keep {w w':World} {v:Value} {l:Bs} (h:RX w v l) (hk:∀(b:Nat) (o:Obj),w.heap[b]?=some o->w'.heap[b]?=some o):RX w' v l:=by
 obtain⟨ad,cap,h1,h2⟩:=h;refine⟨ad,cap,h1,fun a=>?_⟩;obtain⟨b,o,dc,e,fz,q1,q2,q3⟩:=h2 a;exact⟨b,o,dc,e,fz,q1,hk _ _ q2,q3⟩
theorem Qk (v:Value) (l:Bs) (w:World) (hv:RX w v l) (hm:l.length<=100000000):
  Calls PP 20 #[v] w fun e w'=>∃v',e=.returned v'/\Nj w.heap.size l w' v'/\Fm w.heap.size [5] w w':=by
 obtain⟨ad,cap,rfl,hc⟩:=hv;refine Bf (L:=[(0,.slice ad l.length cap)]) Tryz.func20 Z Z Z ⟨Z,V⟩ ?_;cases ad with
 | none=>
  have hl:l=[]:=by
   apply Classical.byContradiction;intro h;obtain⟨_,_,_,_,_,h2,_⟩:=hc h;cases h2
  subst hl;(repeat first|refine Aa Z ?_|apply Ab|apply Ac|refine Bn Z (by first|with_reducible rfl|exact Bool.not_false) ?_|refine iV Z Z Z Z ?_|apply Ad|apply Bl|apply Ai);exact Ak Z Z ⟨_,rfl,.inl ⟨rfl,_,_,rfl⟩,Fm.refl _ _ _⟩
 | some a=>
  (repeat first|refine Aa Z ?_|apply Ab|apply Ac|refine Bb Z (by first|with_reducible rfl|exact Bool.not_true) ?_|refine iV Z Z Z Z ?_|apply Ad|apply An|apply Af);refine Ec Z Z bs0 Z (fun w1 hA=>?_);have hO:Ob w.heap.size w1 (.slice (F w.heap.size) 0 0) []:=Ob.lit hA Z Z Y (by omega);(repeat (refine Aa Z ?_));refine Md (l.map u8) Z Z (rfl:Fx 23=some (5,1)) hO (by simp) (fun j u hu=>?_) (fun u hu=>?_) (by simp;omega) (by rw [hA.size];omega) (fun v' w2 d f _=>?_)
  ·rw [List.getElem?_map] at hu;cases hx:l[j]? with
   | none=>simp [hx] at hu
   | some x=>
    simp only [hx,Option.map_some,Yb] at hu;subst hu;have hl:l≠[]:=(by rintro rfl;simp at hx);obtain⟨b,o,dc,e,fz,h1,h2,h3⟩:=hc hl;cases h1;rw [Ij];exact Ar (hA.keep h2) (h3 j x hx)
  ·obtain⟨x,_,rfl⟩:=List.mem_map.1 hu;rfl
  ·refine⟨_,rfl,?_⟩;(repeat first|refine Aa Z ?_|apply Ab|apply Ai);refine Ak Z Z ⟨_,rfl,?_,(hA.fm Y).trans f⟩;have c:Ob w.heap.size w2 v' l:=by
    unfold Ob;simpa using d
   by_cases hl:l=[]
   ·subst hl;obtain⟨ad',c',h1,_⟩:=c.slice;exact .inl ⟨rfl,ad',c',h1⟩
   ·exact .inr ⟨hl,c.suf hl hm⟩
theorem Pq (v:Value) (l:Bs) (es:List Ex) (w:World) (hv:RX w v l) (hd:Lr l es) (hm:l.length<=100000000):
  Calls PP 10 #[v] w fun e w'=>e=.returned (.int .i64 (Fo (Et es)))/\Up w.heap.size w w':=by
 have bb:=hd.len;have bc:=Se es hd.ks;refine Bf (L:=[(0,v)]) Tryz.func10 Z Z Z ⟨Z,V⟩ ?_;repeat first|refine Aa Z ?_|apply Ab|apply Ac
 refine Dk Z Z Z (fun w1 a=>?_);generalize ag:w.heap.size=pp at *;have aw:RX w1 v l:=hv.keep (fun b o h=>a.keep h);repeat first|refine Aa Z ?_|apply Ab|apply Ac
 refine Ae Z Z Z (Qk v l w1 aw hm) ?_;rintro e w2 ⟨v2,rfl,d,j⟩;refine T2 Z Z ?_;have q:=a.at_;rw [ag] at q;have ah:=j.keep _ _ q (by simp [Ce]);have az:w1.heap.size=pp+1:=by rw [a.size,ag]
 have ai:Up pp w w2:=(a.up (by omega)).trans (j.upB (by omega));clear j q a;obtain⟨ad2,n2,c2,aj⟩:=d.slice;rw [aj] at d;subst aj;skip;refine Ae Z Z Z (Mu pp ad2 n2 c2 _ _ w2 ah) ?_;rintro e w3 ⟨rfl,ak,r⟩;refine T2 Z Z ?_;have al:=Ot d hd r ak;have f:=ai.trans (r.upB Y);clear d ah ai r ak;repeat first|apply Ab|apply Ac
 refine Dk Z Z Z (fun w4 i=>?_);have am:=TS.new i.at_;have an:Fm pp [52] w3 w4:=i.fm (by have:=f.size;omega);have ao:=al.fm (i.fm (B:=0) (T:=[]) O) (by simp) (by simp) (by simp);have ap:=f.trans (an.upB Y);have ba:pp<=w3.heap.size:=by have:=f.size;omega
 generalize bd:w3.heap.size=tb at *;clear al f an i;repeat first|refine Aa Z ?_|apply Ab|apply Ac|apply Ad|apply Ag
 refine Bg (σ:=List Ex×Ju×Int×Nat) (I:=fun s w'=>(∃ns,Qq l.length pp s.1 ns w')/\TS w' tb s.2.1/\gO s.2.1/\Up pp w w'/\s.2.1.begun.ents.length+wX s.1<=1+3*l.length/\jE s.2.2.1 s.2.1 s.1 s.2.2.2 (Et es)/\s.2.2.2+s.1.length=es.length)
  (m:=fun s=>s.1.length) (Lf:=fun s=>[(3,.pointer (F pp)),(4,.pointer (F tb)),(5,.int .i64 s.2.2.1),(6,.int .i64 (s.2.2.2:Int))])
  (es,⟨[],0⟩,-1,0) ⟨⟨_,ao⟩,am,.inl rfl,ap,by simp only [Ju.begun];simp;omega,.inl ⟨rfl,rfl⟩,by simp⟩ ⟨Z,Z,Z,Z,V⟩ ?_
 clear ao am ap;rintro⟨rest,t,first,n⟩ w5 ⟨⟨ns,hX⟩,hT,hp,hU,hb,c,hn⟩;dsimp only at hX hT hp hb c hn ⊢;repeat first|apply Ac|apply Ad
 refine Ae Z Z Z (Qu hm hX) ?_;rintro e w6 ⟨y,h6⟩;have ax:=hX.ks;rcases h6 with ⟨rfl,rfl,data,left,z⟩|⟨x,rest',rfl,rfl,aq,be⟩
 ·refine T2 Z Z ?_;(repeat first|apply Ab|apply Ac|refine Bb Z (by first|with_reducible rfl|exact Bool.not_true) ?_|apply Ad|apply An|apply Cn|apply Ci|apply Ba);refine Ae Z Z Z (Pa pp data left 0 [] w6 z) ?_;rintro e w7 ⟨rfl,rfl⟩;refine T2 Z Z ?_;(repeat first|refine Aa Z ?_|apply Ab|apply Ac|refine Bb Z (by first|with_reducible rfl|exact Bool.not_true) ?_|apply An|apply Af|apply Ai);refine Ak Z Z ⟨?_,hU.trans (y.upB Y)⟩;rcases c with ⟨rfl,h⟩|⟨k,rfl,h⟩
  ·rw [<-h];rfl
  ·rw [h];rfl
 ·refine T2 Z Z ?_;obtain⟨data,left,z⟩:=aq.ps;obtain⟨g,hg,au⟩:=z.ar (Kk x) (by omega);have aa:=ax x (by simp);have ay:=hT.fm y (by simp) (by simp) (by simp) (by simp) (by simp);simp only [wX] at hb;have bf:=Ww t;(repeat first|apply Ab|apply Ac|refine Bn Z (by first|with_reducible rfl|exact Bool.not_false) ?_|apply Ad|apply Ag|apply An|apply Af);refine Ae Z Z Z (Jm pp g _ w6 au (Kk x)) ?_;rintro e w7 ⟨rfl,rfl⟩;refine T2 Z Z ?_;skip;refine Ae Z Z Z (Tc tb pp g x _ t w7 ay au (Uv x aa) (Uu x aa) aa hp (by omega)) ?_;rintro e w8 ⟨b,u,rfl,hu,ab,av⟩;refine T2 Z Z ?_;obtain⟨ac,bg⟩:=bR hp x;have ad:=aq.fm av (by simp) (by simp) (by simp);have ae:=(hU.trans (y.upB Y)).trans (av.upB (by omega));simp only [Ya] at hn;rcases hu with ⟨af,rfl⟩|⟨af,p,rfl⟩
  ·(repeat first|refine Aa Z ?_|apply Ab|apply Ac|refine Bb Z (by first|with_reducible rfl|exact Bool.not_true) ?_|refine Au Z ?_|apply Am|apply Aq|apply An|apply Bj|apply Af|refine Ay Z Z (by omega) Z ?_);refine Ap (rest',(Xt t x).1,first,n+1) ⟨⟨_,ad⟩,ab,ac,ae,by dsimp only;omega,?_,by dsimp only;omega⟩ (by simp) ⟨Z,Z,Z,Z,V⟩;rcases c with ⟨h1,h2⟩|h
   ·refine .inl ⟨h1,?_⟩;rw [<-h2];simp only [Eo,af,if_true]
   ·exact .inr h
  ·by_cases bh:first<0
   ·(repeat first|refine Aa Z ?_|apply Ab|apply Ac|refine Ao Z (by first|omega|decide) ?_|refine Au Z ?_|apply Am|apply Aq|apply Bj|refine Ay Z Z (by omega) Z ?_);refine Ap (rest',(Xt t x).1,(n:Int),n+1) ⟨⟨_,ad⟩,ab,ac,ae,by dsimp only;omega,?_,by dsimp only;omega⟩ (by simp) ⟨Z,Z,Z,Z,V⟩;rcases c with ⟨h1,h2⟩|⟨k,rfl,h⟩
    ·refine .inr ⟨n,rfl,?_⟩;rw [<-h2];simp only [Eo,af,Bool.false_eq_true,if_false]
    ·omega
   ·(repeat first|refine Aa Z ?_|apply Ab|apply Ac|refine Aj Z (by first|omega|decide) ?_|refine Au Z ?_|apply Am|apply Aq|apply An|apply Bj|apply Af|refine Ay Z Z (by omega) Z ?_);refine Ap (rest',(Xt t x).1,first,n+1) ⟨⟨_,ad⟩,ab,ac,ae,by dsimp only;omega,?_,by dsimp only;omega⟩ (by simp) ⟨Z,Z,Z,Z,V⟩;rcases c with ⟨h1,h2⟩|h
    ·omega
    ·exact .inr h
theorem Pv (v:Value) (l:Bs) (es:List Ex) (w:World) (hv:RX w v l) (hd:Lr l es) (hm:l.length<=100000000):
  Calls PP 16 #[v] w fun e w'=>e=.returned (.bool (Et es).isNone)/\Up w.heap.size w w':=by
 refine Bf (L:=[(0,v)]) Tryz.func16 Z Z Z ⟨Z,V⟩ ?_;repeat first|refine Aa Z ?_|apply Ab|apply Ac
 refine Ae Z Z Z (Qk v l w hv hm) ?_;rintro e w2 ⟨v2,rfl,d,c⟩;refine T2 Z Z ?_;skip;refine Ae Z Z Z (cJ _ v2 l es w2 d hd hm) ?_;rintro e w3 ⟨a,u,rfl,hu,f⟩;refine T2 Z Z ?_;have hU:Up w.heap.size w w3:=c.up.trans (f.mono c.size);rcases hu with ⟨b,rfl⟩|⟨b,p,rfl⟩
 ·rw [b];(repeat first|refine Aa Z ?_|apply Ab|apply Ac|apply Ai);exact Ak Z Z ⟨rfl,hU⟩
 ·rw [b];(repeat first|refine Aa Z ?_|apply Ab|apply Ac|apply Ai);exact Ak Z Z ⟨rfl,hU⟩
end
end Go.Proofs.YtaccphdkapmdhaaGreat
