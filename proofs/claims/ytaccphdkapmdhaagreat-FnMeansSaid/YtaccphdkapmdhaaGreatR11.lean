/- The parser's arena and keys do as the grammar says. No condition. -/
import Derived.Test.YtaccphdkapmdhaaGreatR10
namespace Go.Proofs.YtaccphdkapmdhaaGreat
set_option maxRecDepth 100000
set_option maxHeartbeats 64000000
set_option linter.all false
section
section
attribute [local semireducible] WL WC X WD
variable {all:List Oper} {Q:Exit->Act->World->Prop} {N:Nat} {L L':Env} {o:Oper} {rest:List Oper} {w:World} {S:World->Prop} {fuel:Nat} {listed:Array Bool}
theorem Bu (L':Env) (ha:Px L' L) (k:WD all Q N S fuel listed L' w):WD all Q N S fuel listed L w:=fun a hf=>k a (hf.weaken ha)
theorem WD.br {i j:Nat} {oi oj:Oper} {vi vj:Value} {wi wj:World} {Li Lj:Env} (hr:Region.ready .any all.toArray listed=[i,j]) (hi:all[i]?=some oi) (hj:all[j]?=some oj)
  (gi:Ez all L oi=some true) (gj:Ez all L oj=some true) (ri:∀a,Fr N L a->(execOp a.eval oi).run PP w=.ok (.value vi) wi) (rj:∀a,Fr N L a->(execOp a.eval oj).run PP w=.ok (.value vj) wj)
  (si:S wi) (sj:S wj) (di:Cu N oi vi L=some Li) (dj:Cu N oj vj L=some Lj)
  (ki:WD all Q N S fuel (listed.setIfInBounds i true) Li wi) (kj:WD all Q N S fuel (listed.setIfInBounds j true) Lj wj):WD all Q N S (fuel+1) listed L w:=fun a hf=>by
 refine wpAnyH_all hr (by simp) fun m hm=>?_;have b:m=i∨m=j:=by simpa using hm
 rcases b with rfl|rfl
 ·unfold wpOp;have c:(all.toArray)[m]?=some oi:=(by simpa using hi);simp only [c,Hq hf gi,if_true];refine .inl ?_;unfold Oper.wp;rw [ri a hf];exact⟨si,ki _ (Ge hf di)⟩
 ·unfold wpOp;have d:(all.toArray)[m]?=some oj:=(by simpa using hj);simp only [d,Hq hf gj,if_true];refine .inl ?_;unfold Oper.wp;rw [rj a hf];exact⟨sj,kj _ (Ge hf dj)⟩
end
def jY:Value->Prop
 | .slice _ _ _=>True
 | _=>False
structure Ni (w:World) (pp:Nat) (n:Be) (xs:List Value) (k:Nat):Prop where
 kind:xs[k]?=some (.int .i64 n.kind)
 raw:∃a b:Int,xs[k+1]?=some (.int .u32 a)/\xs[k+2]?=some (.int .u32 b)
 data:∃d,xs[k+3]?=some d/\jY d/\∀s,n.data=some s->RB w d s
 parser:xs[k+4]?=some (.pointer (F pp))
 next:xs[k+5]?=some (.int .i32 n.next)
 child:xs[k+6]?=some (.int .i32 n.child)
def NL (w:World) (pp:Nat) (ns:List Be) (xs:List Value):Prop:=∀(i:Nat) (n:Be),ns[i]?=some n->Ni w pp n xs (i*7)
theorem Ni.fm {B T w w' pp n xs k} (h:Ni w pp n xs k) (hf:Fm B T w w') (hT:5∉T):Ni w' pp n xs k:=by
 obtain⟨d,h1,h2,h3⟩:=h.data;exact⟨h.kind,h.raw,⟨d,h1,h2,fun s hs=>(h3 s hs).fm hf hT⟩,h.parser,h.next,h.child⟩
theorem NL.fm {B T w w' pp ns xs} (h:NL w pp ns xs) (hf:Fm B T w w') (hT:5∉T):NL w' pp ns xs:=fun i n hn=>(h i n hn).fm hf hT
theorem Ni.app {w pp n xs ys k} (h:Ni w pp n xs k):Ni w pp n (xs++ys) k:=by
 have key:∀(j:Nat) (v:Value),xs[j]?=some v->(xs++ys)[j]?=some v:=fun j v hj=>by
  rw [Yf (Yc.1 hj).1];exact hj
 obtain⟨a,b,h1,h2⟩:=h.raw;obtain⟨d,h3,h4,h5⟩:=h.data;exact⟨key _ _ h.kind,⟨a,b,key _ _ h1,key _ _ h2⟩,⟨d,key _ _ h3,h4,h5⟩,key _ _ h.parser,key _ _ h.next,key _ _ h.child⟩
theorem NL.snoc {w pp ns xs n ys} (h:NL w pp ns xs) (hl:xs.length=ns.length*7) (hn:Ni w pp n ys 0):NL w pp (ns++[n]) (xs++ys):=by
 intro i m hm;by_cases hi:i<ns.length
 ·rw [Yf hi] at hm;exact (h i m hm).app
 ·have c:i=ns.length:=by
   have:=(Yc.1 hm).1;simp at this;omega
  subst c;rw [Yg Y,Nat.sub_self] at hm;simp only [List.getElem?_cons_zero,Yb] at hm;subst hm;have key:∀(j:Nat) (v:Value),ys[j]?=some v->(xs++ys)[ns.length*7+j]?=some v:=fun j v hj=>by
   rw [Yg (by omega),hl,Nat.add_sub_cancel_left];exact hj
  obtain⟨a,b,h1,h2⟩:=hn.raw;obtain⟨d,h3,h4,h5⟩:=hn.data;simp only [Yi] at h1 h2 h3;have h6:=hn.parser;have h7:=hn.next;have h8:=hn.child;simp only [Yi] at h6 h7 h8;exact⟨key 0 _ hn.kind,⟨a,b,key 1 _ h1,key 2 _ h2⟩,⟨d,key 3 _ h3,h4,h5⟩,key 4 _ h6,key 5 _ h7,key 6 _ h8⟩
theorem NL.one {w pp ns xs} (h:NL w pp ns xs) (hl:xs.length=ns.length*7):∀u∈xs,Bp u=true:=by
 intro u hu;obtain⟨j,hj,rfl⟩:=List.getElem_of_mem hu;have hi:j/7<ns.length:=by omega
 have hn:=h (j/7) ns[j/7] (Yd hi);have c:xs[j]?=some xs[j]:=Yd hj;have key:∀(k:Nat) (v:Value),j%7=k->xs[j/7*7+k]?=some v->xs[j]=v:=fun k v hk hv=>by
  have e:j/7*7+k=j:=(by omega);rw [e,c] at hv;simpa using hv
 obtain⟨a,b,h1,h2⟩:=hn.raw;obtain⟨d,h3,h4,h5⟩:=hn.data;have hm:j%7=0∨j%7=1∨j%7=2∨j%7=3∨j%7=4∨j%7=5∨j%7=6:=by omega
 rcases hm with e|e|e|e|e|e|e
 ·rw [key 0 _ e hn.kind];rfl
 ·rw [key 1 _ e h1];rfl
 ·rw [key 2 _ e h2];rfl
 ·rw [key 3 _ e h3];cases d<;>first|rfl|(exact h4.elim)
 ·rw [key 4 _ e hn.parser];rfl
 ·rw [key 5 _ e hn.next];rfl
 ·rw [key 6 _ e hn.child];rfl
theorem Bq {xs:List Value} {i j k f:Nat} {v u:Value} (hk:k<7) (hf:f<7) (a:i≠j∨k≠f) (h:xs[i*7+k]?=some u):(xs.set (j*7+f) v)[i*7+k]?=some u:=by
 rw [List.getElem?_set_ne (by omega)];exact h
theorem NL.setNext {w pp ns xs} (h:NL w pp ns xs) (j v:Nat) {n:Be} (hj:ns[j]?=some n):NL w pp (ns.set j { n with next:=v }) (xs.set (j*7+5) (.int .i32 v)):=by
 intro i m hm;by_cases c:i=j
 ·subst c;have e:=(Yc.1 hj).1;rw [List.getElem?_set_self e] at hm;simp only [Yb] at hm;subst hm;have h0:=h i n hj;obtain⟨a,b,h1,h2⟩:=h0.raw;obtain⟨d,h3,h4,h5⟩:=h0.data;refine⟨Bq (k:=0) (by omega) (by omega) (.inr (by omega)) h0.kind,⟨a,b,Bq (by omega) (by omega) (.inr (by omega)) h1,Bq (by omega) (by omega) (.inr (by omega)) h2⟩,
   ⟨d,Bq (by omega) (by omega) (.inr (by omega)) h3,h4,h5⟩,Bq (by omega) (by omega) (.inr (by omega)) h0.parser,?_,Bq (by omega) (by omega) (.inr (by omega)) h0.child⟩
  rw [List.getElem?_set_self (Yc.1 h0.next).1]
 ·rw [List.getElem?_set_ne (Ne.symm c)] at hm;have h0:=h i m hm;obtain⟨a,b,h1,h2⟩:=h0.raw;obtain⟨d,h3,h4,h5⟩:=h0.data;exact⟨Bq (k:=0) (by omega) (by omega) (.inl c) h0.kind,⟨a,b,Bq (by omega) (by omega) (.inl c) h1,Bq (by omega) (by omega) (.inl c) h2⟩,
   ⟨d,Bq (by omega) (by omega) (.inl c) h3,h4,h5⟩,Bq (by omega) (by omega) (.inl c) h0.parser,Bq (by omega) (by omega) (.inl c) h0.next,Bq (by omega) (by omega) (.inl c) h0.child⟩
theorem NL.setChild {w pp ns xs} (h:NL w pp ns xs) (j v:Nat) {n:Be} (hj:ns[j]?=some n):NL w pp (ns.set j { n with child:=v }) (xs.set (j*7+6) (.int .i32 v)):=by
 intro i m hm;by_cases c:i=j
 ·subst c;have e:=(Yc.1 hj).1;rw [List.getElem?_set_self e] at hm;simp only [Yb] at hm;subst hm;have h0:=h i n hj;obtain⟨a,b,h1,h2⟩:=h0.raw;obtain⟨d,h3,h4,h5⟩:=h0.data;refine⟨Bq (k:=0) (by omega) (by omega) (.inr (by omega)) h0.kind,⟨a,b,Bq (by omega) (by omega) (.inr (by omega)) h1,Bq (by omega) (by omega) (.inr (by omega)) h2⟩,
   ⟨d,Bq (by omega) (by omega) (.inr (by omega)) h3,h4,h5⟩,Bq (by omega) (by omega) (.inr (by omega)) h0.parser,Bq (by omega) (by omega) (.inr (by omega)) h0.next,?_⟩
  rw [List.getElem?_set_self (Yc.1 h0.child).1]
 ·rw [List.getElem?_set_ne (Ne.symm c)] at hm;have h0:=h i m hm;obtain⟨a,b,h1,h2⟩:=h0.raw;obtain⟨d,h3,h4,h5⟩:=h0.data;exact⟨Bq (k:=0) (by omega) (by omega) (.inl c) h0.kind,⟨a,b,Bq (by omega) (by omega) (.inl c) h1,Bq (by omega) (by omega) (.inl c) h2⟩,
   ⟨d,Bq (by omega) (by omega) (.inl c) h3,h4,h5⟩,Bq (by omega) (by omega) (.inl c) h0.parser,Bq (by omega) (by omega) (.inl c) h0.next,Bq (by omega) (by omega) (.inl c) h0.child⟩
theorem NL.setRaw {w pp ns xs} (h:NL w pp ns xs) (j:Nat) (a b:Int) {n:Be} (hj:ns[j]?=some n):NL w pp ns ((xs.set (j*7+1) (.int .u32 a)).set (j*7+2) (.int .u32 b)):=by
 intro i m hm;have h0:=h i m hm;obtain⟨a',b',h1,h2⟩:=h0.raw;obtain⟨d,h3,h4,h5⟩:=h0.data;have two:∀{k:Nat} {u:Value},k<7->k≠1->k≠2->xs[i*7+k]?=some u->((xs.set (j*7+1) (.int .u32 a)).set (j*7+2) (.int .u32 b))[i*7+k]?=some u:=fun hk h1 h2 h=>
  Bq hk (by omega) (.inr h2) (Bq hk (by omega) (.inr h1) h)
 refine⟨two (k:=0) (by omega) (by omega) (by omega) h0.kind,?_,⟨d,two (by omega) (by omega) (by omega) h3,h4,h5⟩,two (by omega) (by omega) (by omega) h0.parser,two (by omega) (by omega) (by omega) h0.next,two (by omega) (by omega) (by omega) h0.child⟩;by_cases c:i=j
 ·subst c;refine⟨a,b,?_,?_⟩
  ·rw [List.getElem?_set_ne (by omega),List.getElem?_set_self (Yc.1 h1).1]
  ·rw [List.getElem?_set_self (by rw [List.length_set];exact (Yc.1 h2).1)]
 ·exact⟨a',b',Bq (by omega) (by omega) (.inl c) (Bq (by omega) (by omega) (.inl c) h1),Bq (by omega) (by omega) (.inl c) (Bq (by omega) (by omega) (.inl c) h2)⟩
def PS (w:World) (pp:Nat) (data left:Value) (nest:Int) (ns:List Be):Prop:=
 ∃nv xs,w.heap[pp]?=some (.cells ⟨[.bool false,data,left,nv,.nilIface,.int .i64 nest]⟩ 52 (0,0))/\w.ownsRow (pp+1) 104 7 nv ns.length xs/\NL w pp ns xs
theorem Bi {w w':World} {B e s n:Nat} {v:Value} {xs:List Value} (h:w.ownsRow B e s v n xs) (hk:∀k o,v.ownBlock=some k->w.heap[k]?=some o->w'.heap[k]?=some o):w'.ownsRow B e s v n xs:=by
 refine⟨h.1,?_⟩;rcases h.2 with hn|⟨g,cap,cur,rfl,hb,a,rest⟩
 ·exact .inl hn
 ·exact .inr ⟨g,cap,cur,rfl,hb,hk g _ rfl a,rest⟩
theorem PS.fm {B T w w' pp data left nest ns} (h:PS w pp data left nest ns) (hf:Fm B T w w') (h5:5∉T) (b:52∉T) (a:104∉T):PS w' pp data left nest ns:=by
 obtain⟨nv,xs,h1,h2,h3⟩:=h;refine⟨nv,xs,hf.keep _ _ h1 b,?_,h3.fm hf h5⟩;refine⟨h2.1,?_⟩;rcases h2.2 with hn|⟨g,cap,cur,rfl,hb,c,rest⟩
 ·exact .inl hn
 ·exact .inr ⟨g,cap,cur,rfl,hb,hf.keep _ _ c a,rest⟩
theorem PS.sm {w w' pp data left nest ns} (h:PS w pp data left nest ns) (hs:Sm w w'):PS w' pp data left nest ns:=h.fm (B:=0) (T:=[]) hs.fm (by simp) (by simp) (by simp)
theorem PS.up {w w' pp data left nest ns} (h:PS w pp data left nest ns) (hs:Up w.heap.size w w'):PS w' pp data left nest ns:=h.fm (B:=0) (T:=[]) (hs.fm Y O) (by simp) (by simp) (by simp)
theorem Fm.stN {B T w w1 w' b o} (h:Fm B T w w1) (hS:St w1 b o w') (hb:w.heap.size<=b) (hB:B<=b):Fm B T w w':=
 ⟨hS.os.trans h.os,hS.tape.trans h.tape,hS.output.trans h.output,by rw [hS.size];exact h.size,fun k hk=>(hS.oth k (by omega)).trans (h.old k hk),
  fun k o ho ht=>hS.keep (h.keep k o ho ht) (by have:=Ah ho;omega),fun k o ho=>by
   obtain⟨o',h1,h2⟩:=h.tags k o ho;exact⟨o',hS.keep h1 (by have:=Ah ho;omega),h2⟩⟩
theorem PS.lt {w pp data left nest ns} (h:PS w pp data left nest ns):pp<w.heap.size:=by
 obtain⟨nv,xs,h1,_⟩:=h;exact Ah h1
theorem PS.open {w pp data left nest ns} (h:PS w pp data left nest ns) (h0:0<ns.length):
  ∃g cap cur xs,w.heap[pp]?=some (.cells ⟨[.bool false,data,left,.slice (F g) ns.length cap,.nilIface,.int .i64 nest]⟩ 52 (0,0))/\pp<g/\w.heap[g]?=some (.cells cur 104 (0,0))/\
   ns.length<=cap/\cap<=maxLen/\cur.size=cap*7/\cur.toList.take (ns.length*7)=xs/\xs.length=ns.length*7/\NL w pp ns xs:=by
 obtain⟨nv,xs,h1,h2,h3⟩:=h;rcases h2.2 with ⟨_,hn⟩|⟨g,cap,cur,rfl,hb,hg,hc,hm,hs,ht⟩
 ·omega
 ·exact⟨g,cap,cur,xs,h1,hb,hg,hc,hm,hs,ht,h2.1,h3⟩
theorem Mg {cur:Array Value} {n i:Nat} {v:Value}:(cur.setIfInBounds i v).toList.take n=(cur.toList.take n).set i v:=by
 rw [Array.toList_setIfInBounds,List.take_set]
theorem PS.stored {w w':World} {pp:Nat} {data left:Value} {nest:Int} {ns ns':List Be} {g cap:Nat} {cur cur':Array Value} (h1:w.heap[pp]?=some (.cells ⟨[.bool false,data,left,.slice (F g) ns.length cap,.nilIface,.int .i64 nest]⟩ 52 (0,0)))
  (hg:pp<g) (a:w.heap[g]?=some (.cells cur 104 (0,0))) (hc:ns.length<=cap) (hm:cap<=maxLen) (hs:cur'.size=cap*7) (hl:ns'.length=ns.length)
  (hS:St w g (.cells cur' 104 (0,0)) w') (hN:NL w pp ns' (cur'.toList.take (ns.length*7))):PS w' pp data left nest ns':=by
 have hf:Fm 0 [104] w w':=hS.fm a O (by simp [Ce]) rfl;refine⟨_,cur'.toList.take (ns.length*7),hS.keep h1 (by omega),⟨?_,.inr ⟨g,cap,cur',?_,hg,hS.at_,by omega,hm,hs,?_⟩⟩,hN.fm hf (by decide)⟩
 ·have e:cur'.toList.length=cap*7:=(by simpa using hs);have:=Nat.mul_le_mul_right 7 hc;rw [List.length_take,hl,e];omega
 ·rw [hl]
 ·rw [hl]
end
section
attribute [local irreducible] binOp IntKind.wrap Sem.run
theorem bsNode (a b c d e f g:Value) (w:World):(Instr.buildSlice 48 1 ⟨[(0,.agg ⟨[a,b,c,d,e,f,g]⟩)]⟩).run PP w=.ok (.slice (F w.heap.size) 1 1) (w.alloc (.cells ⟨[a,b,c,d,e,f,g]⟩ 104 (0,0))):=by kernel_rfl
section
attribute [local semireducible] WL WC X WD Sem.run
variable {all:List Oper} {Q:Exit->Act->World->Prop} {N:Nat} {L L':Env} {o:Oper} {rest:List Oper} {w:World}
theorem WL.cpn {t e s g dl dc n c:Nat} {ad:Addr} {cur:Array Value} (m:Nat) (cs:List Value) (hg:Ez all L o=some true) (h:cpA L o.op=some (t,t,.slice (F g) dl dc,.slice (some ad) n c)) (ht:Fx t=some (e,s))
  (b:w.heap[g]?=some (.cells cur e (0,0))) (hm:Nat.min n dl=m) (hn:cs.length=m*s) (p:∀j u,cs[j]?=some u->w.cell? (ad.add j)=some u) (d:cs.length<=cur.size) (h1:∀u∈cs,Bp u=true)
  (hd:Cu N o (.int .i64 (m:Int)) L=some L')
  (k:∀w',St w g (.cells (cs++cur.toList.drop cs.length).toArray e (0,0)) w'->WL all Q N L' rest w'):WL all Q N L (o::rest) w:=by
 obtain⟨i,z,hu,hi,hz,q,r,v,h0⟩:=Ga ht;have f:∀u∈cs,u.oneCell'=true:=fun u hu=>by
  have:=h1 u hu;cases u<;>first|rfl|(simp [Bp] at this)
 have hf:=run_firstCells_some (P:=PP) w s m ad n c cs hn p;have l:=run_storeCells_at PP g 0 e cs 0 cur w b (by simpa using d) f;simp only [Nat.add_zero,Yi,List.take_zero,List.nil_append] at l;have hr:∀ty,(Builtin.copy_ #[t,t] ty #[.slice (F g) dl dc,.slice (some ad) n c]).run PP w=.ok (goInt m) (w.setRow g (cs++cur.toList.drop cs.length).toArray):=fun ty=>by
  simp [Builtin.copy_,run_underlying hu,Builtin.lenOf,sizeOf,typeInfo,hi,q,hm,hf,l]
 refine Ca (w':=w.setRow g (cs++cur.toList.drop cs.length).toArray) hg (fun a hf=>?_) hd (k _ ⟨rfl,rfl,rfl,by simp,setRow_heap w g cur _ e (0,0) b,fun k hk=>setRow_other w g k _ hk⟩);obtain⟨dst,op,ty,Gh,after,guard⟩:=o;simp only at h;unfold cpA at h;split at h
 ·rename_i x y t1 t2;split at h
  ·rename_i v' u' hx hy;simp only [Yb,Prod.mk.injEq] at h;obtain⟨rfl,rfl,rfl,rfl⟩:=h;simp [execOp,resolve,invoke,builtin,hf.eval hx,hf.eval hy,hr,goInt]
  ·cases h
 ·cases h
theorem WL.cp0 {t e s g dl dc:Nat} (hg:Ez all L o=some true) (h:cpA L o.op=some (t,t,.slice (F g) dl dc,.slice none 0 0)) (ht:Fx t=some (e,s))
  (hd:Cu N o (.int .i64 0) L=some L') (k:WL all Q N L' rest w):WL all Q N L (o::rest) w:=by
 obtain⟨i,z,hu,hi,hz,b,c,d,h0⟩:=Ga ht;have hr:∀ty,(Builtin.copy_ #[t,t] ty #[.slice (F g) dl dc,.slice none 0 0]).run PP w=.ok (goInt 0) w:=fun ty=>
  run_copy_nil (P:=PP) w t t ty e ⟨g,0,none⟩ dl dc hu (by rw [hi];rfl)
 refine Ca hg (fun a hf=>?_) hd k;obtain⟨dst,op,ty,Gh,after,guard⟩:=o;simp only at h;unfold cpA at h;split at h
 ·rename_i x y t1 t2;split at h
  ·rename_i v' u' hx hy;simp only [Yb,Prod.mk.injEq] at h;obtain⟨rfl,rfl,rfl,rfl⟩:=h;simp [execOp,resolve,invoke,builtin,hf.eval hx,hf.eval hy,hr,goInt]
  ·cases h
 ·cases h
end
theorem apRoom {B t e s n m c g cap:Nat} {xs:List Value} {ad:Addr} {w:World} (ty:TypeId) (news:List Value)
  (ht:Fx t=some (e,s)) (b:w.ownsRow B e s (.slice (F g) n cap) n xs) (hl:news.length=m*s) (f:∀j u,news[j]?=some u->w.cell? (ad.add j)=some u) (h1:∀u∈news,Bp u=true)
  (a:n+m<=cap):
  ∃w' cur',(Builtin.append_ #[t,t] ty #[.slice (F g) n cap,.slice (some ad) m c]).run PP w=.ok (.slice (F g) (n+m) cap) w'/\w'.ownsRow B e s (.slice (F g) (n+m) cap) (n+m) (xs++news)/\St w g (.cells cur' e (0,0)) w':=by
 obtain⟨i,z,hu,hi,hz,p,y,aa,h0⟩:=Ga ht;have l:∀u∈news,u.oneCell'=true:=fun u hu=>by
  have:=h1 u hu;cases u<;>first|rfl|(simp [Bp] at this)
 rcases b.2 with ⟨hn,_⟩|⟨g',cap',cur,hn,q,h,ab,r,v,x⟩
 ·simp at hn
 ·simp only [Value.slice.injEq,Yb,Addr.mk.injEq] at hn;obtain⟨⟨rfl,-,-⟩,-,rfl⟩:=hn;subst p;have o:n*i.size+news.length<=cur.size:=(by rw [hl,v,<-Nat.add_mul];exact Nat.mul_le_mul_right _ a);have hr:=run_append_room (P:=PP) w t ty e i hu hi g n cap cur h ad m c news hl f l a o;have d:(xs++news).length=(n+m)*i.size:=(by rw [Ye,b.1,hl,Nat.add_mul]);refine⟨_,_,hr,⟨d,.inr ⟨g,cap,_,rfl,q,setRow_heap w g cur _ e _ h,a,r,?_,?_⟩⟩,⟨rfl,rfl,rfl,by simp,setRow_heap w g cur _ e _ h,fun k hk=>setRow_other w g k _ hk⟩⟩
  ·simp only [List.size_toArray,Ye,List.length_take,Yh,Array.length_toList];omega
  ·rw [x,<-d];exact List.take_left
theorem mF {w:World} {pp:Nat} {kind nx ch:Nat} {a b:Int} {d:Value} {data:Option Bs} (hd:jY d) (hr:∀s,data=some s->RB w d s):
  Ni w pp ⟨kind,data,nx,ch⟩ [.int .i64 kind,.int .u32 a,.int .u32 b,d,.pointer (F pp),.int .i32 nx,.int .i32 ch] 0:=
 ⟨rfl,⟨a,b,rfl,rfl⟩,⟨d,rfl,hd,hr⟩,rfl,rfl,rfl⟩
theorem Ho (pp:Nat) (data left:Value) (nest:Int) (ns:List Be) (kind nx ch:Nat) (a b:Int) (d:Value) (dt:Option Bs) (w:World) (hP:PS w pp data left nest ns) (hd:jY d) (hr:∀s,dt=some s->RB w d s) (hm:ns.length<=400000000):
  Calls PP 43 #[.pointer (F pp),.agg ⟨[.int .i64 kind,.int .u32 a,.int .u32 b,d,.pointer none,.int .i32 nx,.int .i32 ch]⟩] w fun e w'=>
   e=.returned (.int .i32 ((ns.length+1:Nat):Int))/\PS w' pp data left nest (ns++[⟨kind,dt,nx,ch⟩])/\Fm pp [52,104] w w':=by
 obtain⟨nv,xs,h1,h2,h3⟩:=hP;have cl:=Ah h1;obtain⟨ad,cap,bo⟩:∃ad cap,nv=.slice ad ns.length cap:=by
  rcases h2.2 with ⟨rfl,hn⟩|⟨g,cap,cur,rfl,_⟩
  ·exact⟨none,0,by rw [hn]⟩
  ·exact⟨_,_,rfl⟩
 refine Bf (L:=[(0,.pointer (F pp)),(1,.agg ⟨[.int .i64 kind,.int .u32 a,.int .u32 b,d,.pointer none,.int .i32 nx,.int .i32 ch]⟩)]) Tryz.func43 Z Z Z ⟨Z,Z,V⟩ ?_;repeat (apply Ac)
 refine Gl Z Z Z (fun w1 hA=>?_);have av:=hA.at_;have bp:=hA.keep h1;have bq:w1.ownsRow (pp+1) 104 7 nv ns.length xs:=Bi h2 (fun k o _ h=>hA.keep h);have aw:Fm pp [52,104] w w1:=hA.fm (by omega);generalize ax:w.heap.size=bx at *;repeat first|refine Aa Z ?_|apply Ab|refine Cr (x:=.seq _ (.cond _ _ _)) (σ:=Value) (fun nv' w'=>∃g' cap',nv'=.slice (F g') ns.length cap'/\ns.length<cap'/\w'.heap[pp]?=some (.cells ⟨[.bool false,data,left,nv',.nilIface,.int .i64 nest]⟩ 52 (0,0))/\w'.ownsRow (pp+1) 104 7 nv' ns.length xs/\w'.heap[bx]?=some (.cells ⟨[.int .i64 kind,.int .u32 a,.int .u32 b,d,.pointer none,.int .i32 nx,.int .i32 ch]⟩ 104 (0,0))/\Fm pp [52,104] w w'/\nv'.ownBlock≠some bx) (fun _=>[(0,.pointer (F pp)),(3,.pointer (F bx))]) ?_ ?_|apply Ad
 ·refine Cp (fun w'=>w'.heap[pp]?=some (.cells ⟨[.bool false,data,left,nv,.nilIface,.int .i64 nest]⟩ 52 (0,0))) ?_;have ah:w1.drew.heap[pp]?=some (.cells ⟨[.bool false,data,left,nv,.nilIface,.int .i64 nest]⟩ 52 (0,0)):=bp;subst bo;(repeat first|refine Cg (by kernel_rfl) (by first|trivial|assumption) Z ?_|refine Cl (by kernel_rfl) (by assumption) Z Z (fun w' bs=>Ar bs rfl) Z ?_);refine Co ?_;have ay:=h3.one h2.1;by_cases az:ns.length=cap
  ·subst az;repeat first|refine Aa Z ?_|apply Ab|apply Ac|refine Ao Z (by first|omega|decide) ?_|refine Av (v:=.slice ad ns.length ns.length) Z Z ah Z Z ?_|refine iX Z Z (by omega) Z ?_|refine Cr (x:=.seq _ (.cond _ _ _)) (σ:=Nat) (fun c w'=>w'=w1.drew/\ns.length<c/\c<=800000064) (fun c=>[(0,.pointer (F pp)),(3,.pointer (F bx)),(5,.int .i64 (c:Int))]) ?_ ?_|apply An
   ·by_cases cm:ns.length<32
    ·(repeat first|refine Aa Z ?_|refine Ao Z (by first|omega|decide) ?_|apply Am|apply Aq);exact Bh 64 ⟨rfl,by omega,by omega⟩ ⟨Z,Z,Z,V⟩
    ·(repeat first|refine Aj Z (by first|omega|decide) ?_|apply Af);exact Bh (2*ns.length) ⟨rfl,by omega,by omega⟩ ⟨Z,Z,Z,V⟩
   ·rintro c w2 ⟨rfl,ak,cn⟩;(repeat first|refine Aa Z ?_|apply Ac|refine Av (v:=.slice ad ns.length ns.length) Z Z ah Z Z ?_);refine eQ ns.length c Z Z Z Z Z (by omega) (by omega) Z (fun w3 z co _ q=>?_);have ac:=q.keep ah;have ba:w1.drew.heap.size=bx+1:=(by rw [<-ax];exact hA.size);have aj:=q.keep (show w1.drew.heap[bx]?=some _ from av);have ae:Fm pp [52,104] w w3:=aw.drew.trans (q.fm (by omega));rcases h2.2 with ⟨aa,bb⟩|⟨g,cap',cur,af,al,hg,bt,bu,bv,am⟩
    ·simp only [Value.slice.injEq] at aa;obtain⟨rfl,-,-⟩:=aa;have bw:ns=[]:=List.eq_nil_of_length_eq_zero bb;subst bw;have bz:xs=[]:=List.eq_nil_of_length_eq_zero h2.1;subst bz;(repeat first|refine Aa Z ?_|apply Ab|apply Ac|refine Av (v:=.slice none 0 0) Z Z ac Z Z ?_|refine WL.cp0 Z Z Z Z ?_|apply Am);refine Bk Z Z Z ac Z Z (fun w4 p=>?_);(repeat (apply Aq));refine Bh _ ⟨_,_,rfl,ak,p.at_,⟨rfl,.inr ⟨_,c,_,rfl,by omega,p.keep q.at_ (by omega),Nat.zero_le _,by simp only [maxLen];omega,size_madeCells _ _,by simp⟩⟩,p.keep aj (by omega),ae.trans (p.fm ac Y (by simp [Ce]) rfl),?_⟩ ⟨Z,Z,V⟩;simp only [Value.ownBlock,ba,ne_eq,Yb];omega
    ·simp only [Value.slice.injEq] at af;obtain⟨rfl,-,rfl⟩:=af;have ca:=q.keep (show w1.drew.heap[g]?=some _ from hA.keep hg);have an:∀j u,xs[j]?=some u->w3.cell? ((⟨g,0,none⟩:Addr).add j)=some u:=fun j u hu=>by
      rw [Dw];refine Ar ca ?_;rw [<-am,List.getElem?_take] at hu;split at hu
      ·simpa using hu
      ·cases hu
     have cb:xs.length<=(madeCells z (c*7)).size:=by
      rw [size_madeCells,h2.1];exact Nat.mul_le_mul_right 7 (Nat.le_of_lt ak)
     (repeat first|refine Aa Z ?_|apply Ab|apply Ac|refine Av (v:=.slice (F g) ns.length ns.length) Z Z ac Z Z ?_);refine WL.cpn ns.length xs Z Z Z q.at_ (Nat.min_self _) h2.1 an cb ay Z (fun w4 p=>?_);have bc:=p.keep ac (by omega);(repeat first|refine Aa Z ?_|apply Ab|apply Am);refine Bk Z Z Z bc Z Z (fun w5 ai=>?_);(repeat (apply Aq));refine Bh _ ⟨_,_,rfl,ak,ai.at_,⟨h2.1,.inr ⟨_,c,_,rfl,by omega,ai.keep p.at_ (by omega),by omega,by simp only [maxLen];omega,?_,?_⟩⟩,ai.keep (p.keep aj (by omega)) (by omega),(ae.trans (p.fm q.at_ (by omega) (by simp [Ce]) rfl)).trans (ai.fm bc Y (by simp [Ce]) rfl),?_⟩ ⟨Z,Z,V⟩
     ·have:=size_madeCells z (c*7);simp only [List.size_toArray,Ye,Yh,Array.length_toList];omega
     ·rw [<-h2.1];simp
     ·simp only [Value.ownBlock,ba,ne_eq,Yb];omega
  ·(repeat first|refine Aj Z (by first|omega|decide) ?_|apply An|apply Af);rcases h2.2 with ⟨aa,bb⟩|⟨g,cap',cur,af,al,hg,bt,bu,bv,am⟩
   ·simp only [Value.slice.injEq] at aa;omega
   ·simp only [Value.slice.injEq] at af;obtain⟨rfl,-,rfl⟩:=af;exact Bh _ ⟨g,cap,rfl,by omega,ah,Bi bq (fun _ _ _ h=>h),av,aw.drew,fun e=>by
     have:=(h2.lt bx e).2;omega⟩ ⟨Z,Z,V⟩
 ·rintro nv2 w2 ⟨g2,cap2,rfl,ao,bd,be,ap,r,cc⟩;(repeat first|refine Aa Z ?_|apply Ac);refine Bk Z Z Z ap Z Z (fun w3 f=>?_);have bf:=f.keep bd (by omega);have bg:w3.ownsRow (pp+1) 104 7 (.slice (F g2) ns.length cap2) ns.length xs:=Bi be (fun k o hk h=>f.keep h (fun e=>cc (by rw [hk,e])));have bh:w3.heap[bx]?=some (.cells ⟨[.int .i64 kind,.int .u32 a,.int .u32 b,d,.pointer (F pp),.int .i32 nx,.int .i32 ch]⟩ 104 (0,0)):=f.at_;have ck:=Ah ap;have ae:Fm pp [52,104] w w3:=by
   refine⟨f.os.trans r.os,f.tape.trans r.tape,f.output.trans r.output,by rw [f.size];exact r.size,fun k hk=>(f.oth k (by omega)).trans (r.old k hk),fun k o ho ht=>f.keep (r.keep k o ho ht) (by have:=Ah ho;omega),fun k o ho=>?_⟩;obtain⟨o',h1,h2⟩:=r.tags k o ho;exact⟨o',f.keep h1 (by have:=Ah ho;omega),h2⟩
  clear f bd be ap;(repeat first|apply Ab|apply Ad);refine Hi (fun _=>True) ?_;generalize ag:w3.drew=w4;have aq:w4.heap[pp]?=some (.cells ⟨[.bool false,data,left,.slice (F g2) ns.length cap2,.nilIface,.int .i64 nest]⟩ 52 (0,0)):=(by subst ag;exact bf);have cd:w4.ownsRow (pp+1) 104 7 (.slice (F g2) ns.length cap2) ns.length xs:=(by subst ag;exact bg);have bi:w4.heap[bx]?=some (.cells ⟨[.int .i64 kind,.int .u32 a,.int .u32 b,d,.pointer (F pp),.int .i32 nx,.int .i32 ch]⟩ 104 (0,0)):=(by subst ag;exact bh);have ce:Fm pp [52,104] w w4:=(by subst ag;exact ae.drew);have am:bx<w4.heap.size:=Ah bi;clear bf bg bh ae ag;refine Bw 0 Z (by kernel_rfl) De.ok trivial Z ?_;refine Bw 1 Z (by kernel_rfl) De.ok trivial Z ?_;refine Bw 2 Z (by kernel_rfl) De.ok trivial Z ?_;refine Bw 3 Z (by kernel_rfl) De.ok trivial Z ?_;have r4:∀{N:Nat} {L:Env} {o:Oper} (a':Act),Fr N L a'->ldA L o.op=some ⟨pp,3,none⟩->(execOp a'.eval o).run PP w4=.ok (.value (.slice (F g2) ns.length cap2)) w4:=fun a' hf h=>Dz hf h (Ar aq rfl);have r5:∀{N:Nat} {L:Env} {o:Oper} (a':Act),Fr N L a'->lgA L o.op=some (7,⟨bx,0,none⟩)->(execOp a'.eval o).run PP w4=.ok (.value (.agg ⟨[.int .i64 kind,.int .u32 a,.int .u32 b,d,.pointer (F pp),.int .i32 nx,.int .i32 ch]⟩)) w4:=fun a' hf h=>Un (cs:=[.int .i64 kind,.int .u32 a,.int .u32 b,d,.pointer (F pp),.int .i32 nx,.int .i32 ch]) hf h Z (Gf bi rfl);have ab:=Br w4 (.cells ⟨[.int .i64 kind,.int .u32 a,.int .u32 b,d,.pointer (F pp),.int .i32 nx,.int .i32 ch]⟩ 104 (0,0));have r6:∀{N:Nat} {L:Env} {o:Oper} (a':Act),Fr N L a'->bsA L o.op=some (48,1,[(0,.agg ⟨[.int .i64 kind,.int .u32 a,.int .u32 b,d,.pointer (F pp),.int .i32 nx,.int .i32 ch]⟩)])->(execOp a'.eval o).run PP w4=.ok (.value (.slice (F w4.heap.size) 1 1)) (w4.alloc (.cells ⟨[.int .i64 kind,.int .u32 a,.int .u32 b,d,.pointer (F pp),.int .i32 nx,.int .i32 ch]⟩ 104 (0,0))):=fun a' hf h=>by
   rw [Dn hf h];simp [bsNode]
  generalize w4.alloc (.cells ⟨[.int .i64 kind,.int .u32 a,.int .u32 b,d,.pointer (F pp),.int .i32 nx,.int .i32 ch]⟩ 104 (0,0))=w5 at ab r6;have r4b:∀{N:Nat} {L:Env} {o:Oper} (a':Act),Fr N L a'->ldA L o.op=some ⟨pp,3,none⟩->(execOp a'.eval o).run PP w5=.ok (.value (.slice (F g2) ns.length cap2)) w5:=fun a' hf h=>Dz hf h (Ar (ab.keep aq) rfl);have bj:w5.ownsRow (pp+1) 104 7 (.slice (F g2) ns.length cap2) ns.length xs:=Bi cd (fun _ _ _ h=>ab.keep h);obtain⟨w6,cur6,cf,bk,bl⟩:=apRoom (B:=pp+1) (t:=48) (e:=104) (s:=7) (n:=ns.length) (m:=1) (c:=1) (w:=w5) (g:=g2) (cap:=cap2) (ad:=⟨w4.heap.size,0,none⟩) 48 [.int .i64 kind,.int .u32 a,.int .u32 b,d,.pointer (F pp),.int .i32 nx,.int .i32 ch] rfl bj rfl (fun j u hu=>by rw [Dw];exact Ar ab.at_ (by simpa using hu)) (by
    intro u hu;simp only [List.mem_cons,List.not_mem_nil,or_false] at hu;rcases hu with rfl|rfl|rfl|rfl|rfl|rfl|rfl<;>first|rfl|(cases u<;>first|rfl|exact hd.elim)) ao
  have bm:pp<g2/\∃cur2,w5.heap[g2]?=some (.cells cur2 104 (0,0)):=by
   rcases bj.2 with ⟨hn,_⟩|⟨g,cap,cur,hn,al,cg,_⟩
   ·simp at hn
   ·simp only [Value.slice.injEq,Yb,Addr.mk.injEq] at hn;obtain⟨⟨rfl,-,-⟩,-,rfl⟩:=hn;exact⟨al,cur,cg⟩
  obtain⟨bm,cur2,bn⟩:=bm;have r7:∀{N:Nat} {L:Env} {o:Oper} (a':Act),Fr N L a'->o.type=48->nR L o.op=some (48,.slice (F g2) ns.length cap2,.slice (F w4.heap.size) 1 1)->(execOp a'.eval o).run PP w5=.ok (.value (.slice (F g2) (ns.length+1) cap2)) w6:=fun a' hf ht h=>by
   rw [Gi hf h,ht];simp [cf]
  have ar:w6.heap[pp]?=some (.cells ⟨[.bool false,data,left,.slice (F g2) ns.length cap2,.nilIface,.int .i64 nest]⟩ 52 (0,0)):=bl.keep (ab.keep aq) (by omega);have y:=Ev (i:=3) (.slice (F g2) (ns.length+1) cap2) ar;have r10:∀{N:Nat} {L:Env} {o:Oper} (a':Act),Fr N L a'->Bp (.slice (F g2) (ns.length+1) cap2)=true->stA L o.op=some (⟨pp,3,none⟩,(.slice (F g2) (ns.length+1) cap2))->(execOp a'.eval o).run PP w6=.ok .skip (w6.setCell ⟨pp,3,none⟩ (.slice (F g2) (ns.length+1) cap2)):=fun a' hf h1 h=>Gr hf h h1 ar rfl;generalize cp:w6.setCell ⟨pp,3,none⟩ (.slice (F g2) (ns.length+1) cap2)=w7 at y r10;have l:PS w7 pp data left nest (ns++[⟨kind,dt,nx,ch⟩])/\Fm pp [52,104] w w7:=by
   have ci:Fm pp [52,104] w w5:=ce.trans (ab.fm (by omega));have cj:Fm pp [52,104] w5 w6:=bl.fm bn (by omega) (by simp [Ce]) rfl;have au:Fm pp [52,104] w w7:=(ci.trans cj).trans (y.fm ar Y (by simp [Ce]) rfl);refine⟨⟨(.slice (F g2) (ns.length+1) cap2),xs++[.int .i64 kind,.int .u32 a,.int .u32 b,d,.pointer (F pp),.int .i32 nx,.int .i32 ch],y.at_,?_,?_⟩,au⟩
   ·rw [Ye,List.length_singleton];refine Bi bk (fun k o hk h=>y.keep h (fun e=>?_));have:=(bk.lt k hk).1;omega
   ·exact (h3.fm au (by decide)).snoc h2.1 (mF hd (fun s hs=>(hr s hs).fm au (by decide)))
  refine WD.br (i:=4) (j:=5) (by kernel_rfl) Z Z Z Z (fun a' hf=>r4 a' hf rfl) (fun a' hf=>r5 a' hf rfl) trivial trivial Z Z ?_ ?_
  ·refine Ru 5 (by kernel_rfl) Z Z (fun a' hf=>r5 a' hf rfl) trivial Z ?_;refine Ru 6 (by kernel_rfl) Z Z (fun a' hf=>r6 a' hf rfl) trivial Z ?_;refine Bu (L':=[(49,.slice (F g2) ns.length cap2),(51,.slice (F w4.heap.size) 1 1),(45,.pointer (F pp)),(0,.pointer (F pp))]) ⟨Z,Z,Z,Z,V⟩ ?_;refine Ru 7 (by kernel_rfl) Z Z (fun a' hf=>r7 a' hf Z Z) trivial Z ?_;refine Bw 8 Z (by kernel_rfl) De.ok trivial Z ?_;refine Bw 9 Z (by kernel_rfl) De.ok trivial Z ?_;refine Jr 10 (by kernel_rfl) Z Z (fun a' hf=>r10 a' hf Z Z) trivial Z ?_;refine Eg (by kernel_rfl) ?_;(repeat first|refine Aa Z ?_|apply Ab|apply Ac|refine Av (v:=.slice (F g2) (ns.length+1) cap2) Z Z y.at_ Z Z ?_|apply An|apply Ai|refine Ff Z Z (Gu (by omega)) Z ?_);exact Ak Z Z ⟨rfl,l.1,l.2⟩
  ·refine WD.br (i:=4) (j:=6) (by kernel_rfl) Z Z Z Z (fun a' hf=>r4 a' hf rfl) (fun a' hf=>r6 a' hf rfl) trivial trivial Z Z ?_ ?_
   ·refine Ru 6 (by kernel_rfl) Z Z (fun a' hf=>r6 a' hf rfl) trivial Z ?_;refine Bu (L':=[(49,.slice (F g2) ns.length cap2),(51,.slice (F w4.heap.size) 1 1),(45,.pointer (F pp)),(0,.pointer (F pp))]) ⟨Z,Z,Z,Z,V⟩ ?_;refine Ru 7 (by kernel_rfl) Z Z (fun a' hf=>r7 a' hf Z Z) trivial Z ?_;refine Bw 8 Z (by kernel_rfl) De.ok trivial Z ?_;refine Bw 9 Z (by kernel_rfl) De.ok trivial Z ?_;refine Jr 10 (by kernel_rfl) Z Z (fun a' hf=>r10 a' hf Z Z) trivial Z ?_;refine Eg (by kernel_rfl) ?_;(repeat first|refine Aa Z ?_|apply Ab|apply Ac|refine Av (v:=.slice (F g2) (ns.length+1) cap2) Z Z y.at_ Z Z ?_|apply An|apply Ai|refine Ff Z Z (Gu (by omega)) Z ?_);exact Ak Z Z ⟨rfl,l.1,l.2⟩
   ·refine Ru 4 (by kernel_rfl) Z Z (fun a' hf=>r4b a' hf rfl) trivial Z ?_;refine Bu (L':=[(49,.slice (F g2) ns.length cap2),(51,.slice (F w4.heap.size) 1 1),(45,.pointer (F pp)),(0,.pointer (F pp))]) ⟨Z,Z,Z,Z,V⟩ ?_;refine Ru 7 (by kernel_rfl) Z Z (fun a' hf=>r7 a' hf Z Z) trivial Z ?_;refine Bw 8 Z (by kernel_rfl) De.ok trivial Z ?_;refine Bw 9 Z (by kernel_rfl) De.ok trivial Z ?_;refine Jr 10 (by kernel_rfl) Z Z (fun a' hf=>r10 a' hf Z Z) trivial Z ?_;refine Eg (by kernel_rfl) ?_;(repeat first|refine Aa Z ?_|apply Ab|apply Ac|refine Av (v:=.slice (F g2) (ns.length+1) cap2) Z Z y.at_ Z Z ?_|apply An|apply Ai|refine Ff Z Z (Gu (by omega)) Z ?_);exact Ak Z Z ⟨rfl,l.1,l.2⟩
end
section
section
attribute [local semireducible] WL WC X WD
theorem Ch {fn:Func} {R:Ending->World->Prop} {N:Nat} {L:Env} {w:World} {x b n:Nat} {t e:TypeId} {cs:List Value} {fz:Nat×Nat} (hr:fn.results=⟨[.cell x t]⟩) (hx:Ln L x=some (.pointer (F b))) (ht:Pe t=some n)
  (hb:w.heap[b]?=some (.cells ⟨cs⟩ e fz)) (hn:cs.length=n) (hR:R (.returned (.agg ⟨cs⟩)) w):X .ret (bodyPost PP fn R) N L w:=fun a hf=>by
 refine bodyPost_ret ?_ hf.defers hR;rw [Vi,hr];subst hn;obtain⟨h1,h2⟩:=cC ht w;have h3:=Pr (w:=w) (b:=b) (ofs:=0) cs (Gf hb (by simp));simp [List.mapM_toArray,resF,hf.getD hx,asAddr,loadVar,h1,h2,h3]
end
attribute [local irreducible] binOp IntKind.wrap Sem.run
theorem On (pp g n cap h i:Nat) (c0 data left err nest:Value) (w:World) (hb:w.heap[pp]?=some (.cells ⟨[c0,data,left,.slice (F g) n cap,err,nest]⟩ 52 (0,0))) (hi:h=i+1) (hn:i<n) (hm:n<=1000000000):
  Calls PP 102 #[.pointer (F pp),.int .i32 (h:Int)] w fun e w'=>e=.returned (.pointer (some ⟨g,i*7,none⟩))/\w'=w:=by
 refine Bf (L:=[(0,.pointer (F pp)),(1,.int .i32 (h:Int))]) Tryz.func102 Z Z Z ⟨Z,Z,V⟩ ?_;repeat first|refine Aa Z ?_|apply Ab|apply Ac|refine Av (v:=.slice (F g) n cap) Z Z hb Z Z ?_|refine WL.su32 Z Z (by omega) Z ?_|refine Ax (i:=i) Z Z (by omega) hn Z ?_|apply Ai
 refine Ak Z Z ⟨?_,rfl⟩;simp [cZ]
theorem iP (a b:Int) (w:World):(Instr.build 101 ⟨[(0,.int .u32 a),(1,.int .u32 b)]⟩).run PP w=.ok (.agg ⟨[.int .u32 a,.int .u32 b]⟩) w:=by kernel_rfl
theorem Jw (pp E C:Nat) (ad:Option Addr) (c0 v left nv err nest:Value) (w:World) (hb:w.heap[pp]?=some (.cells ⟨[c0,.slice ad E C,left,nv,err,nest]⟩ 52 (0,0))) (hv:Rg C E v) (hC:C<=9223372036854775807) (hE:E<=100000000):
  Calls PP 44 #[.pointer (F pp),v] w fun e w'=>∃a b:Int,e=.returned (.agg ⟨[.int .u32 a,.int .u32 b]⟩)/\Up w.heap.size w w':=by
 obtain⟨ad',n,cap,rfl,h1,h2⟩:=hv;refine Bf (L:=[(0,.pointer (F pp)),(1,.slice ad' n cap)]) Tryz.func44 Z Z Z ⟨Z,Z,V⟩ ?_;repeat (apply Ac)
 refine Dk Z Z Z (fun w1 hA=>?_);have c:=hA.keep hb;repeat first|refine Aa Z ?_|apply Ab|apply Ac|refine Aj Z (by first|omega|decide) ?_|refine Av (v:=.slice ad E C) Z Z c Z Z ?_|refine Au Z ?_|apply Ad|apply An|apply Af|refine Ay Z Z (by omega) Z ?_|refine Fs Z Z (by omega) Z ?_|refine Az Z Z (by first|omega|decide) ?_|refine Ff Z Z (Hl (by omega)) Z ?_
 refine Cx Z Z (iP _ _) Z ?_;refine Bx Z Z Z (by simp [Bp]) hA.at_ (by simp) Z (fun w2 hS=>?_);repeat first|apply Ab|apply Ai
 exact Ch Z Z Z hS.at_ Z ⟨_,_,rfl,(hA.up Y).trans (hS.up Y)⟩
theorem Qz (pp E C n cap:Nat) (ad ad':Option Addr) (c0 left nv err nest:Value) (w:World) (hb:w.heap[pp]?=some (.cells ⟨[c0,.slice ad E C,left,nv,err,nest]⟩ 52 (0,0))) (hC:C<=9223372036854775807) (hc:cap<=9223372036854775807):
  Calls PP 47 #[.pointer (F pp),.slice ad' n cap] w fun e w'=>e=.returned (.int .i64 ((C:Int)-cap))/\w'=w:=by
 refine Bf (L:=[(0,.pointer (F pp)),(1,.slice ad' n cap)]) Tryz.func47 Z Z Z ⟨Z,Z,V⟩ ?_;repeat first|refine Aa Z ?_|apply Ab|apply Ac|refine Av (v:=.slice ad E C) Z Z hb Z Z ?_|apply Ai|refine Fs Z Z (by omega) Z ?_
 exact Ak Z Z ⟨rfl,rfl⟩
theorem Xn (pp E C n cap n2 cap2:Nat) (ad ad' ad2:Option Addr) (c0 left nv err nest:Value) (w:World) (hb:w.heap[pp]?=some (.cells ⟨[c0,.slice ad E C,left,nv,err,nest]⟩ 52 (0,0))) (hC:C<=9223372036854775807) (hc:cap<=9223372036854775807) (d:cap2<=9223372036854775807):
  Calls PP 105 #[.pointer (F pp),.slice ad' n cap,.slice ad2 n2 cap2] w fun e w'=>∃a b:Int,e=.returned (.agg ⟨[.int .u32 a,.int .u32 b]⟩)/\Up w.heap.size w w':=by
 refine Bf (L:=[(0,.pointer (F pp)),(1,.slice ad' n cap),(2,.slice ad2 n2 cap2)]) Tryz.func105 Z Z Z ⟨Z,Z,Z,V⟩ ?_;repeat (apply Ac)
 refine Dk Z Z Z (fun w1 hA=>?_);have c:=hA.keep hb;repeat first|refine Aa Z ?_|apply Ab|apply Ac
 refine Ae Z Z Z (Qz pp E C n cap ad ad' c0 left nv err nest w1 c hC hc) ?_;rintro e w2 ⟨rfl,rfl⟩;refine T2 Z Z ?_;repeat first|refine Aa Z ?_|apply Ab|apply Ac
 refine Ae Z Z Z (Qz pp E C n2 cap2 ad ad2 c0 left nv err nest w2 c hC d) ?_;rintro e w3 ⟨rfl,rfl⟩;refine T2 Z Z ?_;repeat first|refine Aa Z ?_|apply Ab|apply Ac|refine WL.cw Z Z Z ?_|refine Fs Z Z (by omega) Z ?_
 refine Cx Z Z (iP _ _) Z ?_;refine Bx Z Z Z (by simp [Bp]) hA.at_ (by simp) Z (fun w4 hS=>?_);repeat first|apply Ab|apply Ai
 exact Ch Z Z Z hS.at_ Z ⟨_,_,rfl,(hA.up Y).trans (hS.up Y)⟩
theorem Td (k a b:Int) (ad:Option Addr) (n c:Nat) (w:World):(Instr.build 104 ⟨[(0,.int .i64 k),(1,.agg ⟨[.int .u32 a,.int .u32 b]⟩),(2,.slice ad n c)]⟩).run PP w =
  .ok (.agg ⟨[.int .i64 k,.int .u32 a,.int .u32 b,.slice ad n c,.pointer none,.int .i32 0,.int .i32 0]⟩) w:=by kernel_rfl
theorem Uz (k:Int) (w:World):(Instr.build 104 ⟨[(0,.int .i64 k)]⟩).run PP w =
  .ok (.agg ⟨[.int .i64 k,.int .u32 0,.int .u32 0,.slice none 0 0,.pointer none,.int .i32 0,.int .i32 0]⟩) w:=by kernel_rfl
theorem iQ (k a b:Int) (w:World):(Instr.build 104 ⟨[(0,.int .i64 k),(1,.agg ⟨[.int .u32 a,.int .u32 b]⟩)]⟩).run PP w =
  .ok (.agg ⟨[.int .i64 k,.int .u32 a,.int .u32 b,.slice none 0 0,.pointer none,.int .i32 0,.int .i32 0]⟩) w:=by kernel_rfl
section
variable {bd C E:Nat} {dc:Array Value} {fz:Nat×Nat}
theorem Es.capLe {v l} (h:Es bd C E dc v l):∃ad n cap,v=.slice ad n cap/\cap<=9223372036854775807:=by
 obtain⟨ad,h1,_⟩:=h.ex;exact⟨ad,_,_,h1,by have:=h.C63;omega⟩
theorem Xm (pp:Nat) (ad0:Option Addr) (left:Value) (nest:Int) (ns:List Be) (v:Value) (b k r:Bs) (w:World) (hv:Es bd C E dc v b) (hE:E<=100000000) (hk:KP b k r) (hD:w.heap[bd]?=some (.cells dc 5 fz))
  (hP:PS w pp (.slice ad0 E C) left nest ns) (hm:ns.length<=400000000):
  Calls PP 115 #[.pointer (F pp),v] w fun e w'=>∃v',e=.returned (.tuple #[.int .i32 ((ns.length+1:Nat):Int),v',.nilIface])/\Es bd C E dc v' r/\PS w' pp (.slice ad0 E C) left nest (ns++[⟨2,some k,0,0⟩])/\Fm pp [52,104] w w':=by
 have hC:=hv.C63;have l:=hP.lt;refine Bf (L:=[(0,.pointer (F pp)),(1,v)]) Tryz.func115 Z Z Z ⟨Z,Z,V⟩ ?_;repeat first|refine Aa Z ?_|apply Ab|apply Ac
 refine Ae Z Z Z (cW _ v b k r w hv hE hk hD) ?_;rintro e w1 ⟨v1,v2,v3,rfl,h1,h2,h3,c⟩;refine T2 Z Z ?_;repeat first|refine Aa Z ?_|apply Ab|apply Ac|refine Bb Z (by first|with_reducible rfl|exact Bool.not_true) ?_|apply Ad|apply An|apply Af
 obtain⟨nv,xs,f,_,_⟩:=hP.up c;refine Ae Z Z Z (Jw pp E C ad0 _ v1 left nv .nilIface _ w1 f h1 hC hE) ?_;rintro e w2 ⟨a,b2,rfl,d⟩;refine T2 Z Z ?_;have g:=h2.upS d;obtain⟨ad2,cap2,rfl,-⟩:=h2;repeat (refine Aa Z ?_)
 refine Cx Z Z (Td _ _ _ _ _ _) Z ?_;have h:=(hP.up c).up d;refine Ae Z Z Z (Ho pp _ left nest ns 2 0 0 a b2 _ (some k) w2 h trivial (fun s hs=>by cases hs;exact g) hm) ?_;rintro e w3 ⟨rfl,i,j⟩;refine T2 Z Z ?_;repeat first|refine Aa Z ?_|apply Ab|apply Ac|apply Ai
 exact Ak Z Z ⟨_,rfl,h3,i,((c.fm Y (by omega)).trans (d.fm Y (by have:=c.size;omega))).trans j⟩
end
end
section
attribute [local irreducible] binOp IntKind.wrap Sem.run
theorem Ps:∀(ds:List Bs) (k:Nat) (s:Bs),ds≠[]->∃u,(Ck k ds)[ds.length-1]?=some ⟨2,some u,0,0⟩/\
  (Ck k ds++[(⟨2,some s,0,0⟩:Be)]).set (ds.length-1) ⟨2,some u,k+ds.length+1,0⟩=Ck k (ds++[s])
 | [],_,_,h=>absurd rfl h
 | [x],k,s,_=>⟨x,rfl,rfl⟩
 | x::y::l,k,s,_=>by
  obtain⟨u,h1,h2⟩:=Ps (y::l) (k+1) s (by simp);refine⟨u,?_,?_⟩
  ·simp only [Ck,Ya,Nat.add_sub_cancel] at h1 ⊢;rw [List.getElem?_cons_succ];simpa using h1
  ·simp only [Ck,Ya,Nat.add_sub_cancel,List.cons_append] at h2 ⊢;rw [List.set_cons_succ];have e:k+(l.length+1+1)+1=k+1+(l.length+1)+1:=(by omega);rw [e,h2]
theorem ns_snoc (ns:List Be) (ds:List Bs) (s:Bs) (h:ds≠[]):∃u,(ns++Ck ns.length ds++[(⟨2,some s,0,0⟩:Be)])[ns.length+ds.length-1]?=some ⟨2,some u,0,0⟩/\
  (ns++Ck ns.length ds++[(⟨2,some s,0,0⟩:Be)]).set (ns.length+ds.length-1) ⟨2,some u,ns.length+ds.length+1,0⟩=ns++Ck ns.length (ds++[s]):=by
 obtain⟨u,h1,h2⟩:=Ps ds ns.length s h;have a:0<ds.length:=List.length_pos_iff.2 h;have e:ns.length+ds.length-1-ns.length=ds.length-1:=by omega
 refine⟨u,?_,?_⟩
 ·rw [List.append_assoc,Yg (by omega),e,Yf (by rw [Cf];omega)];exact h1
 ·rw [List.append_assoc,List.set_append_right _ _ (by omega),e,h2]
section
variable {bd C E:Nat} {dc:Array Value} {fz:Nat×Nat}
theorem Es.skip {v l} (h:Es bd C E dc v l) {w:World} (hD:w.heap[bd]?=some (.cells dc 5 fz)):Calls PP 39 #[v] w fun e w'=>∃v',e=.returned v'/\Es bd C E dc v' (Bd l)/\w'=w:=lS v l w h hD
theorem aL (pp:Nat) (ad0:Option Addr) (left:Value) (nest:Int) (ns:List Be) (v:Value) (b r:Bs) (ks:List Bs) (w:World) (hv:Es bd C E dc v (Bd b)) (hE:E<=100000000) (hk:Ks b ks r) (hD:w.heap[bd]?=some (.cells dc 5 fz))
  (hP:PS w pp (.slice ad0 E C) left nest ns) (hm:ns.length+ks.length<=400000000):
  Calls PP 101 #[.pointer (F pp),v] w fun e w'=>∃v',e=.returned (.tuple #[.int .i32 ((ns.length+1:Nat):Int),v',.nilIface])/\Es bd C E dc v' r/\PS w' pp (.slice ad0 E C) left nest (ns++Ck ns.length ks)/\Fm pp [52,104] w w':=by
 have hC:=hv.C63;refine Bf (L:=[(0,.pointer (F pp)),(1,v)]) Tryz.func101 Z Z Z ⟨Z,Z,V⟩ ?_;repeat first|refine Aa Z ?_|apply Ab|apply Ac|apply Ag
 refine Bg (σ:=Value×Bs×List Bs×List Bs) (I:=fun s w'=>Ks s.2.1 s.2.2.2 r/\s.2.2.1++s.2.2.2=ks/\Es bd C E dc s.1 (Bd s.2.1)/\PS w' pp (.slice ad0 E C) left nest (ns++Ck ns.length s.2.2.1)/\Fm pp [52,104] w w')
  (m:=fun s=>s.2.2.2.length) (Lf:=fun s=>[(0,.pointer (F pp)),(1,s.1),(7,.int .i32 ((if s.2.2.1=[] then 0 else ns.length+1:Nat):Int)),(8,.int .i32 ((if s.2.2.1=[] then 0 else ns.length+s.2.2.1.length:Nat):Int))])
  (v,b,[],ks) ⟨hk,rfl,hv,by simpa [Ck] using hP,Fm.refl _ _ _⟩ ⟨Z,Z,Z,Z,V⟩ ?_
 clear hP hv hk;rintro⟨v1,b1,ds,kc⟩ w1 ⟨hk,o,hv,hP,hF⟩;dsimp only at hk o hv hP hF ⊢;have ae:w1.heap[bd]?=some (.cells dc 5 fz):=hF.keep _ _ hD (by simp [Ce]);have l:(ns++Ck ns.length ds).length=ns.length+ds.length:=by rw [Ye,Cf]
 have y:=congrArg List.length o;rw [Ye] at y;have step:∀(k:Bs) (rest:List Bs) (r1:Bs),kc=k::rest->KP (Bd b1) k r1->Calls PP 115 #[.pointer (F pp),v1] w1 fun e w'=>∃v',e=.returned (.tuple #[.int .i32 ((ns.length+ds.length+1:Nat):Int),v',.nilIface])/\Es bd C E dc v' r1/\
   PS w' pp (.slice ad0 E C) left nest (ns++Ck ns.length ds++[⟨2,some k,0,0⟩])/\Fm pp [52,104] w1 w':=fun k rest r1 ba aa=>by
  have:=Xm pp ad0 left nest (ns++Ck ns.length ds) v1 (Bd b1) k r1 w1 hv hE aa ae hP (by rw [l];omega);rw [l] at this;exact this
 obtain⟨k,rest,r1,rfl,aa,ab⟩:∃k rest r1,kc=k::rest/\KP (Bd b1) k r1/\((rest=[]/\(Bd r1).head?≠some 46/\r=Bd r1)∨(∃r',Bd r1=46::r'/\Ks r' rest r)):=by
  cases hk with
  | one h1 h2=>exact⟨_,_,_,rfl,h1,.inl ⟨rfl,h2,rfl⟩⟩
  | dot h1 h2 h3=>exact⟨_,_,_,rfl,h1,.inr ⟨_,h2,h3⟩⟩
 clear hk;simp only [Ya] at y;repeat first|refine Aa Z ?_|apply Ac|apply Ag
 refine Ae Z Z Z (step k rest r1 rfl aa) ?_;rintro e w2 ⟨v2,rfl,am,af,ag⟩;refine T2 Z Z ?_;have bb:w2.heap[bd]?=some (.cells dc 5 fz):=ag.keep _ _ ae (by simp [Ce]);have z:=hF.trans ag;repeat first|refine Aa Z ?_|apply Ab|apply Ac|refine Bb Z (by first|with_reducible rfl|exact Bool.not_true) ?_|refine Cr (x:=.seq _ (.cond (.tmp 23) _ _)) (σ:=Unit) (fun _ w'=>PS w' pp (.slice ad0 E C) left nest (ns++Ck ns.length (ds++[k]))/\Fm pp [52,104] w w') (fun _=>[(0,.pointer (F pp)),(7,.int .i32 ((ns.length+1:Nat):Int)),(9,.int .i32 ((ns.length+ds.length+1:Nat):Int)),(10,v2)]) ?_ ?_|apply Ad|apply An|apply Af
 ·by_cases f:ds=[]
  ·rw [if_pos f,if_pos f];(repeat first|refine Aa Z ?_|refine Ao Z (by first|omega|decide) ?_|apply Am|apply Aq);refine Bh () ⟨?_,z⟩ ⟨rfl,?_,rfl,rfl,trivial⟩
   ·subst f;simpa [Ck] using af
   ·subst f;rfl
  ·rw [if_neg f,if_neg f];have ay:0<ds.length:=List.length_pos_iff.2 f;obtain⟨u,an,ao⟩:=ns_snoc ns ds k f;obtain⟨g,cap,cur,xs,hb,ap,ac,aq,ar,ah,au,bc,hN⟩:=af.open (by simp;omega);have n:(ns++Ck ns.length ds++[(⟨2,some k,0,0⟩:Be)]).length=ns.length+ds.length+1:=(by rw [Ye,l];rfl);(repeat first|refine Aa Z ?_|refine Aj Z (by first|omega|decide) ?_|apply Am);refine Ae Z Z Z (On pp g _ cap (ns.length+ds.length) (ns.length+ds.length-1) _ _ _ _ _ w2 hb (by omega) (by rw [n];omega) (by rw [n];omega)) ?_;rintro e w3 ⟨rfl,rfl⟩;refine T2 Z Z ?_;(repeat (refine Aa Z ?_));have ai:(ns.length+ds.length-1)*7+5<cur.size:=(by rw [ah];omega);refine Bk Z Z Z ac (Array.getElem?_eq_getElem ai) Z (fun w4 hS=>?_);(repeat (apply Aq));refine Bh () ⟨?_,z.trans (hS.fm ac (by omega) (by simp [Ce]) rfl)⟩ ⟨Z,Z,Z,Z,V⟩;rw [<-ao];refine PS.stored hb ap ac aq ar (by simpa using ah) (by simp) hS ?_;have:=hN.setNext (ns.length+ds.length-1) (ns.length+ds.length+1) an;rw [Mg,au];exact this
 ·rintro _ w3 ⟨p,q⟩;have t:w3.heap[bd]?=some (.cells dc 5 fz):=q.keep _ _ hD (by simp [Ce]);(repeat first|refine Aa Z ?_|apply Ab|apply Ac);refine Ae Z Z Z (am.skip t) ?_;rintro e w4 ⟨v4,rfl,a,rfl⟩;refine T2 Z Z ?_;rcases ab with ⟨rfl,hh,rfl⟩|⟨r',av,aj⟩
  ·rw [o] at p;cases ak:Bd r1 with
   | nil=>
    rw [ak] at a;obtain⟨ad4,rfl,be⟩:=a.nil;(repeat first|refine Aa Z ?_|apply Ab|apply Ac|refine Bb Z (by first|with_reducible rfl|exact Bool.not_true) ?_|refine Au Z ?_|apply Ad|apply An|apply Bl|apply Bv|apply Af|apply Ai|refine Az Z Z (by first|omega|decide) ?_);refine Ak Z Z ⟨_,rfl,a,p,q⟩
   | cons c r2=>
    rw [ak] at a hh;have az:c.toNat≠46:=fun e=>hh (by
     have:c=46:=UInt8.toNat_inj.1 e;rw [this];rfl)
    have h:=a.cell t;have d:=a;have j:=a.cons;subst j;have ad:=d.le;simp only [Ya] at ad;(repeat first|refine Aa Z ?_|apply Ab|apply Ac|refine Aj Z (by first|omega|decide) ?_|refine Ax (i:=0) Z Z Z (by omega) Z ?_|refine Aw Z Z h Z ?_|refine Au Z ?_|apply Ad|apply An|apply Bl|apply Bv|apply Af|apply Ai|refine Bc Z Z (by first|omega|decide) ?_);exact Ak Z Z ⟨_,rfl,d,p,q⟩
  ·rw [av] at a;have h:=a.cell t;have d:=a;have j:=a.cons;subst j;have ad:=d.le;have bf:=d.EC;simp only [Ya] at ad;(repeat first|refine Aa Z ?_|apply Ab|apply Ac|refine Ao Z (by first|omega|decide) ?_|refine Ax (i:=0) Z Z Z (by omega) Z ?_|refine Aw Z Z h Z ?_|refine Au Z ?_|apply Ad|refine Bc Z Z (by first|omega|decide) ?_);refine Fw r'.length 1 Z Z (Sf.mk _ _ _) Z (by simp;omega) (by omega) (fun _=>rfl) (fun ad' aw=>?_);skip;refine Ae Z Z Z ((d.tail aw).skip t) ?_;rintro e w5 ⟨v5,rfl,ax,rfl⟩;refine T2 Z Z ?_;(repeat first|refine Aa Z ?_|apply Ab|apply Cn|apply Ci|apply Ba);have al:ds++[k]≠[]:=(by simp);refine Ap (v5,r',ds++[k],rest) ⟨aj,by simpa using o,ax,p,q⟩ (by simp) ⟨rfl,rfl,?_,?_,trivial⟩
   ·rw [if_neg al];rfl
   ·rw [if_neg al,Ye];rfl
end
def Uf (ns:List Be) (ar lc h:Nat):List Be:=
 if lc=0 then ns.modify (ar-1) (fun a=>{ a with child:=h }) else ns.modify (lc-1) (fun a=>{ a with next:=h })
theorem Lm:∀{ns:List Be} {i:Nat} {a:Be} (f:Be->Be),ns[i]?=some a->ns.modify i f=ns.set i (f a)
 | [],i,a,f,h=>by simp at h
 | b::l,0,a,f,h=>by
  simp only [List.getElem?_cons_zero,Yb] at h;subst h;simp
 | b::l,i+1,a,f,h=>by
  rw [List.getElem?_cons_succ] at h;simp only [List.modify_succ_cons,List.set_cons_succ];rw [Lm f h]
theorem dR (fn:Nat) (t:fn=132∨fn=133) (pp b1 b2 b3 lc ar h:Nat) (data left:Value) (nest:Int) (ns:List Be) (w:World) (hP:PS w pp data left nest ns) (hm:ns.length<=400000000)
  (h1:w.heap[b1]?=some (.cells ⟨[.int .i32 lc]⟩ 21 (0,0))) (h2:w.heap[b2]?=some (.cells ⟨[.pointer (F pp)]⟩ 92 (0,0))) (h3:w.heap[b3]?=some (.cells ⟨[.int .i32 ar]⟩ 21 (0,0)))
  (y:0<ar/\ar<=ns.length) (z:lc<=ns.length):
  Calls PP fn #[.int .i32 h,.pointer (F b1),.pointer (F b2),.pointer (F b3)] w fun e w'=>e=.returned (.tuple #[])/\∃w1,PS w1 pp data left nest (Uf ns ar lc h)/\Fm pp [104] w w1/\St w1 b1 (.cells ⟨[.int .i32 h]⟩ 21 (0,0)) w':=by
 obtain⟨g,cap,cur,xs,hb,n,c,o,p,j,q,aa,hN⟩:=hP.open (by omega);have r:b1≠g:=fun e=>by subst e;rw [h1] at c;simp at c
 have main:∀(i f:Nat) (u:Value),i<ns.length->5<=f->f<7->(f=6↔lc=0)->(lc=0->ar=i+1)->(lc≠0->lc=i+1)->∃hc:i*7+f<cur.size,∀w2,St w g (.cells (cur.setIfInBounds (i*7+f) (.int .i32 h)) 104 (0,0)) w2->PS w2 pp data left nest (Uf ns ar lc h)/\Fm pp [104] w w2:=by
  intro i f u hi ab ac hf hA hB;refine⟨by rw [j];omega,fun w2 hS=>⟨?_,hS.fm c (by omega) (by simp [Ce]) rfl⟩⟩;obtain⟨a,ha⟩:∃a,ns[i]?=some a:=⟨_,Yd hi⟩;by_cases h0:lc=0
  ·have x:=hf.2 h0;have:=hA h0;have e:Uf ns ar lc h=ns.set i { a with child:=h }:=by
    unfold Uf;rw [if_pos h0,show ar-1=i by omega,Lm _ ha]
   rw [e];subst x;refine PS.stored hb n c o p (by simpa using j) (by simp) hS ?_;rw [Mg,q];exact hN.setChild i h ha
  ·have s:f=5:=by
    rcases Nat.lt_or_ge f 6 with h'|h'
    ·omega
    ·exact absurd (hf.1 (by omega)) h0
   have:=hB h0;have e:Uf ns ar lc h=ns.set i { a with next:=h }:=by
    unfold Uf;rw [if_neg h0,show lc-1=i by omega,Lm _ ha]
   rw [e];subst s;refine PS.stored hb n c o p (by simpa using j) (by simp) hS ?_;rw [Mg,q];exact hN.setNext i h ha
 rcases t with rfl|rfl;all_goals
  by_cases h0:lc=0
  ·obtain⟨hc,d⟩:=main (ar-1) 6 (.int .i32 0) (by omega) (by omega) (by omega) ⟨fun _=>h0,fun _=>rfl⟩ (by omega) (by omega);first
    | refine Bf (L:=[(0,.int .i32 h),(1,.pointer (F b1)),(2,.pointer (F b2)),(3,.pointer (F b3))]) Tryz.func132 Z Z Z ⟨Z,Z,Z,Z,V⟩ ?_
    | refine Bf (L:=[(0,.int .i32 h),(1,.pointer (F b1)),(2,.pointer (F b2)),(3,.pointer (F b3))]) Tryz.func133 Z Z Z ⟨Z,Z,Z,Z,V⟩ ?_
   (repeat first|refine Aa Z ?_|apply Ab|apply Ac|refine Ao Z (by first|omega|decide) ?_|refine Av (b:=b1) (v:=.int .i32 lc) Z Z h1 Z Z ?_|refine Av (b:=b2) (v:=.pointer (F pp)) Z Z h2 Z Z ?_|refine Av (b:=b3) (v:=.int .i32 ar) Z Z h3 Z Z ?_|apply Ad|apply Am);refine Ae Z Z Z (On pp g _ cap ar (ar-1) _ _ _ _ _ w hb (by omega) (by omega) (by omega)) ?_;rintro e w1 ⟨rfl,rfl⟩;refine T2 Z Z ?_;(repeat (refine Aa Z ?_));refine Bk Z Z Z c (Array.getElem?_eq_getElem hc) Z (fun w2 hS=>?_);obtain⟨k,l⟩:=d w2 hS;(repeat first|refine Aa Z ?_|apply Ab|apply Am);refine Bk Z Z Z (hS.keep h1 r) Z Z (fun w3 m=>?_);(repeat (apply Aq));exact Kt Z Z ⟨rfl,w2,k,l,m⟩
  ·obtain⟨hc,d⟩:=main (lc-1) 5 (.int .i32 0) (by omega) (by omega) (by omega) ⟨fun h=>by omega,fun h=>absurd h h0⟩ (by omega) (by omega);first
    | refine Bf (L:=[(0,.int .i32 h),(1,.pointer (F b1)),(2,.pointer (F b2)),(3,.pointer (F b3))]) Tryz.func132 Z Z Z ⟨Z,Z,Z,Z,V⟩ ?_
    | refine Bf (L:=[(0,.int .i32 h),(1,.pointer (F b1)),(2,.pointer (F b2)),(3,.pointer (F b3))]) Tryz.func133 Z Z Z ⟨Z,Z,Z,Z,V⟩ ?_
   (repeat first|refine Aa Z ?_|apply Ab|apply Ac|refine Aj Z (by first|omega|decide) ?_|refine Av (b:=b1) (v:=.int .i32 lc) Z Z h1 Z Z ?_|refine Av (b:=b2) (v:=.pointer (F pp)) Z Z h2 Z Z ?_|apply Ad|apply Am);refine Ae Z Z Z (On pp g _ cap lc (lc-1) _ _ _ _ _ w hb (by omega) (by omega) (by omega)) ?_;rintro e w1 ⟨rfl,rfl⟩;refine T2 Z Z ?_;(repeat (refine Aa Z ?_));refine Bk Z Z Z c (Array.getElem?_eq_getElem hc) Z (fun w2 hS=>?_);obtain⟨k,l⟩:=d w2 hS;(repeat first|refine Aa Z ?_|apply Ab|apply Am);refine Bk Z Z Z (hS.keep h1 r) Z Z (fun w3 m=>?_);(repeat (apply Aq));exact Kt Z Z ⟨rfl,w2,k,l,m⟩
theorem Dc (c:UInt8) (w:World):Calls PP 135 #[u8 c] w fun e w'=>e=.returned (.bool (Dj c))/\w'=w:=by
 refine Bf (L:=[(0,u8 c)]) Tryz.func135 Z Z Z ⟨Z,V⟩ ?_;have key:c.toNat<48∨(48<=c.toNat/\c.toNat<=57)∨57<c.toNat:=by omega
 rcases key with h|h|h;all_goals
  (repeat first|refine Aa Z ?_|apply Ab|apply Ac|refine Au Z ?_|apply Ai|refine Bc Z Z (by first|omega|decide) ?_|refine Az Z Z (by first|omega|decide) ?_);refine Ak Z Z ⟨?_,rfl⟩;refine congrArg Ending.returned (congrArg Value.bool ?_);first
   | (rw [Fj (by omega)];simp only [Dj];symm;rw [decide_eq_true_eq];omega)
   | (rw [Ew (by omega)];simp only [Dj];symm;rw [decide_eq_false_iff_not];omega)
   | (simp only [Dj];symm;rw [decide_eq_false_iff_not];omega)
section
variable {bd C E:Nat} {dc:Array Value} {fz:Nat×Nat}
theorem Es.c1 {v a c l} (h:Es bd C E dc v (a::c::l)) {w:World} (hD:w.heap[bd]?=some (.cells dc 5 fz)):w.cell? ⟨bd,E-((c::l).length+1)+1*1,none⟩=some (u8 c):=h.at hD (i:=1) rfl
end
end
end Go.Proofs.YtaccphdkapmdhaaGreat
