/- How texts read (the grammar), and the rules by which functions are walked: each rule is shown of the model. No condition. -/
import Derived.Test.YtaccphdkapmdhaaGreatR5
namespace Go.Proofs.YtaccphdkapmdhaaGreat
set_option maxRecDepth 100000
set_option maxHeartbeats 64000000
set_option linter.all false
section
attribute [local semireducible] WL WC X
def Sf (bd o c:Nat) (ad:Option Addr):Prop:=∃a,ad=some a/\(0<c->a=⟨bd,o,none⟩)
theorem Sf.mk (bd o c:Nat):Sf bd o c (some ⟨bd,o,none⟩):=⟨_,rfl,fun _=>rfl⟩
theorem Sf.addr {bd o c:Nat} {ad:Option Addr} (h:Sf bd o c ad) (hc:0<c):ad=some ⟨bd,o,none⟩:=by
 obtain⟨a,rfl,h2⟩:=h;rw [h2 hc]
theorem Sf.sl {bd ofs c:Nat} {ad:Option Addr} (hs:Sf bd ofs c ad) (l:Nat):Sf bd (ofs+l) (c-l) (if c=l then ad else ad.map (·.add (l*1))):=by
 obtain⟨a,rfl,ha⟩:=hs;split
 ·rename_i e;exact⟨a,rfl,fun h=>by omega⟩
 ·rename_i e;refine⟨a.add (l*1),rfl,fun h=>?_⟩;rw [ha (by omega),Ij,Nat.mul_one]
section steps
variable {all:List Oper} {Q:Exit->Act->World->Prop} {N:Nat} {L L':Env} {o:Oper} {rest:List Oper} {w:World}
def mE (L:Env):Option Operand->Option (Option Int)
 | none=>some none
 | some x=>match ev L x with
  | some (.int _ n)=>some (some n)
  | _=>none
def slA (L:Env) (op:Op):Option (Nat×Option Addr×Nat×Nat×Option Int×Option Int):=
 match op with
 | .slice t x lo hi none=>match Oj t,ev L x,mE L lo,mE L hi with
  | some n,some (.slice a len cap),some l,some h=>some (n,a,len,cap,l,h)
  | _,_,_,_=>none
 | _=>none
theorem dG {N:Nat} {L:Env} {a:Act} (hf:Fr N L a) {x:Option Operand} {r:Option Int} (h:mE L x=some r):
  (x.map a.eval=none/\r=none)∨∃k n,x.map a.eval=some (.int k n)/\r=some n:=by
 cases x with
 | none=>simp [mE] at h;exact .inl ⟨rfl,h.symm⟩
 | some y=>
  simp only [mE] at h;split at h
  ·rename_i k n hy;simp only [Yb] at h;exact .inr ⟨k,n,by simp [hf.eval hy],h.symm⟩
  ·cases h
theorem Ke {k:IntKind} {n:Int} {y:Nat} {code:BoundsCode} {i:Nat} (hn:n=(i:Int)) (h:i<=y) (w:World):(Instr.sliceBound (.int k n) y code).run PP w=.ok i w:=by
 subst hn;simp [Instr.sliceBound,asIntOf,h]
theorem Qw {N:Nat} {L:Env} {a:Act} {sz len cap:Nat} {ad:Option Addr} {lo hi:Option Int} {l h':Nat} (hf:Fr N L a) (h:slA L o.op=some (sz,ad,len,cap,lo,hi))
  (c:lo.getD 0=(l:Int)) (d:hi.getD len=(h':Int)) (h1:l<=h') (h2:h'<=cap) (w:World):
  (execOp a.eval o).run PP w=.ok (.value (.slice (if cap=l then ad else ad.map (·.add (l*sz))) (h'-l) (cap-l))) w:=by
 obtain⟨dst,op,ty,Gh,after,guard⟩:=o;simp only at h;unfold slA at h;split at h
 ·rename_i t x olo ohi;split at h
  ·rename_i n a' len' cap' l' hh hn hx hl j;simp only [Yb,Prod.mk.injEq] at h;obtain⟨rfl,rfl,rfl,rfl,rfl,rfl⟩:=h;have b:=Rk t n hn;unfold Wh at b;split at b
   ·rename_i e hu;split at b
    ·rename_i inf i;simp only [beq_iff_eq] at b;have k:∀w,(sizeOf e).run PP w=.ok n w:=fun w=>(by simp [sizeOf,typeInfo,i,b]);have core:∀w,(Instr.sliceBounds true len' cap' (olo.map a.eval) (ohi.map a.eval) none).run PP w=.ok (l,h',cap') w:=by
      intro w;rcases dG hf hl with ⟨e1,rfl⟩|⟨k1,n1,e1,rfl⟩<;>rcases dG hf j with ⟨e2,rfl⟩|⟨k2,n2,e2,rfl⟩
      ·have f:l=0:=(by simp at c;omega);have g:h'=len':=(by simp at d;omega);subst f;subst g;simp [Instr.sliceBounds,e1,e2]
      ·have f:l=0:=(by simp at c;omega);subst f;simp [Instr.sliceBounds,e1,e2,Ke (show n2=(h':Int) by simpa using d) h2]
      ·have g:h'=len':=(by simp at d;omega);subst g;simp [Instr.sliceBounds,e1,e2,Ke (show n1=(l:Int) by simpa using c) h1]
      ·simp [Instr.sliceBounds,e1,e2,Ke (show n2=(h':Int) by simpa using d) h2,Ke (show n1=(l:Int) by simpa using c) h1]
     simp only [execOp,hf.eval hx,Instr.sliceAt,Instr.slice,Sem.run_bind,run_underlying hu,Result.andThen_ok,Option.map_none,core,k,Sem.run_pure]
    ·simp at b
   ·simp at b
  ·cases h
 ·cases h
theorem Fw {bd ofs c len:Nat} {ad:Option Addr} {lo hi:Option Int} {L':Option Addr->Env} (n' l:Nat) (hg:Ez all L o=some true) (h:slA L o.op=some (1,ad,len,c,lo,hi)) (hs:Sf bd ofs c ad)
  (b:lo.getD 0=(l:Int)) (d:hi.getD len=((l+n':Nat):Int)) (hc:l+n'<=c)
  (hd:∀ad',Cu N o (.slice ad' n' (c-l)) L=some (L' ad')) (k:∀ad',Sf bd (ofs+l) (c-l) ad'->WL all Q N (L' ad') rest w):WL all Q N L (o::rest) w:=by
 have e:Sf bd (ofs+l) (c-l) (if c=l then ad else ad.map (·.add (l*1))):=by
  exact hs.sl l
 refine Ca hg (fun a hf=>?_) (hd _) (k _ e);have:=Qw hf h b d (by omega) hc w;rw [this];congr 3;omega
theorem Ub {sz len cap:Nat} {ad:Option Addr} {hi:Option Int} (n':Nat) (hg:Ez all L o=some true) (h:slA L o.op=some (sz,ad,len,cap,none,hi)) (b:hi.getD len=(n':Int)) (hc:n'<=cap)
  (hd:Cu N o (.slice ad n' cap) L=some L') (k:WL all Q N L' rest w):WL all Q N L (o::rest) w:=by
 refine Ca hg (fun a hf=>?_) hd k;have:=Qw hf h (l:=0) rfl b (by omega) hc w;rw [this];have hz:∀a:Addr,a.add 0=a:=fun a=>rfl;cases ad<;>simp [hz]
def Pe:Nat->Option Nat
 | 37=>some 4|40=>some 6|104=>some 7|101=>some 2|129=>some 4|132=>some 6|145=>some 4|120=>some 3|108=>some 3|147=>some 2
 | _=>none
noncomputable def iS (t n:Nat):Bool:=
 (match PP.underlying t with|some (.struct _)=>true|_=>false) && (match PP.info? t with|some i=>i.size==n|none=>false)
theorem eN:∀t n,Pe t=some n->iS t n=true:=by
 intro t n h;unfold Pe at h;split at h<;>first
  | (cases h;done)
  | (simp only [Yb] at h;subst h;kernel_rfl)
theorem cC {t n:Nat} (h:Pe t=some n) (w:World):(isAgg t).run PP w=.ok true w/\(sizeOf t).run PP w=.ok n w:=by
 have:=eN t n h;unfold iS at this;simp only [Bool.and_eq_true] at this;obtain⟨h1,h2⟩:=this;constructor
 ·unfold isAgg;split at h1
  ·rename_i fs hu;simp only [Sem.run_bind,run_underlying hu,Result.andThen_ok,Sem.run_pure]
  ·simp at h1
 ·split at h2
  ·rename_i i hi;simp only [beq_iff_eq] at h2;simp [sizeOf,typeInfo,hi,h2]
  ·simp at h2
theorem Lv {w:World} {b ofs:Nat}:∀(cs:List Value) (i:Nat) (acc:Array Value),(∀j v,cs[j]?=some v->w.cell? ⟨b,ofs+(i+j),none⟩=some v)->
  (loadCellsFrom ⟨b,ofs,none⟩ i cs.length acc).run PP w=.ok (acc++cs.toArray) w
 | [],i,acc,_=>by simp [loadCellsFrom]
 | v::cs,i,acc,h=>by
  have h0:=h 0 v rfl;simp only [Nat.add_zero] at h0;have ih:=Lv cs (i+1) (acc.push v) (fun j u hu=>by
   have:=h (j+1) u (by simpa using hu);rw [show ofs+(i+1+j)=ofs+(i+(j+1)) by omega];exact this)
  simp only [Ya,loadCellsFrom,Sem.run_bind,Ij,run_load,h0,Result.andThen_ok,ih];simp
theorem Pr {w:World} {b ofs:Nat} (cs:List Value) (h:∀j v,cs[j]?=some v->w.cell? ⟨b,ofs+j,none⟩=some v):
  (loadCells ⟨b,ofs,none⟩ cs.length).run PP w=.ok cs.toArray w:=by
 have:=Lv cs 0 #[] (by simpa using h);simpa [loadCells] using this
def lgA (L:Env) (op:Op):Option (Nat×Addr):=
 match op with
 | .load t x=>match Pe t,ev L x with
  | some n,some (.pointer (some a))=>some (n,a)
  | _,_=>none
 | _=>none
theorem Un {N:Nat} {L:Env} {a:Act} {n b ofs:Nat} {cs:List Value} (hf:Fr N L a) (h:lgA L o.op=some (n,⟨b,ofs,none⟩)) (hn:cs.length=n)
  (hc:∀j v,cs[j]?=some v->w.cell? ⟨b,ofs+j,none⟩=some v):(execOp a.eval o).run PP w=.ok (.value (.agg cs.toArray)) w:=by
 obtain⟨dst,op,ty,Gh,after,guard⟩:=o;simp only at h;unfold lgA at h;split at h
 ·rename_i t x;split at h
  ·rename_i n' a' c hx;simp only [Yb,Prod.mk.injEq] at h;obtain⟨rfl,rfl⟩:=h;obtain⟨h1,h2⟩:=cC c w;subst hn;simp [execOp,hf.eval hx,Instr.loadAt,Instr.sureAddr,loadVar,h1,h2,Pr cs hc]
  ·cases h
 ·cases h
theorem Gf {w:World} {b ofs:Nat} {c:Array Value} {t:TypeId} {fz:Nat×Nat} {cs:List Value} (hb:w.heap[b]?=some (.cells c t fz)) (hx:(c.toList.drop ofs).take cs.length=cs):
  ∀j v,cs[j]?=some v->w.cell? ⟨b,ofs+j,none⟩=some v:=by
 intro j v hv;refine Ar hb ?_;rw [<-hx,List.getElem?_take] at hv;split at hv
 ·rw [List.getElem?_drop] at hv;simpa using hv
 ·cases hv
theorem Jv {n b ofs:Nat} {cs:List Value} (hg:Ez all L o=some true) (h:lgA L o.op=some (n,⟨b,ofs,none⟩)) (hn:cs.length=n)
  (hc:∀j v,cs[j]?=some v->w.cell? ⟨b,ofs+j,none⟩=some v) (hd:Cu N o (.agg cs.toArray) L=some L') (k:WL all Q N L' rest w):WL all Q N L (o::rest) w:=
 Ca hg (fun a hf=>Un hf h hn hc) hd k
theorem Fz {n b:Nat} {cs:List Value} {t:TypeId} {fz:Nat×Nat} (hg:Ez all L o=some true) (h:lgA L o.op=some (n,⟨b,0,none⟩)) (hb:w.heap[b]?=some (.cells ⟨cs⟩ t fz)) (hn:cs.length=n)
  (hd:Cu N o (.agg ⟨cs⟩) L=some L') (k:WL all Q N L' rest w):WL all Q N L (o::rest) w:=
 Jv hg h hn (Gf hb (by simp)) hd k
def sgA (L:Env) (op:Op):Option (Nat×Addr×List Value):=
 match op with
 | .store t x y=>match Pe t,ev L x,ev L y with
  | some n,some (.pointer (some a)),some (.agg ⟨cs⟩)=>some (n,a,cs)
  | _,_,_=>none
 | _=>none
theorem cU (c:List Value) (n:Nat) (v:Value) (vs:List Value) (h:n<c.length):
  (c.set n v).take (n+1)++vs++(c.set n v).drop (n+1+vs.length)=c.take n++v::vs++c.drop (n+1+vs.length):=by
 have hc:c=c.take n++c[n]::c.drop (n+1):=by simp
 have hl:(c.take n).length=n:=by simp;omega
 generalize c.take n=l1 at hc hl ⊢;generalize c.drop (n+1)=l2 at hc;generalize c[n]=x at hc;subst hc;subst hl;have e:l1.length+1+vs.length-l1.length=vs.length+1:=by omega
 simp [List.set_append_right,List.take_append,List.drop_append,e,List.take_of_length_le (Nat.le_succ l1.length)]
theorem Nv {b ofs:Nat} {t:TypeId}:∀(vs:List Value) (i:Nat) (c:List Value) (w:World),w.heap[b]?=some (.cells ⟨c⟩ t (0,0))->ofs+i+vs.length<=c.length->(∀v∈vs,Bp v=true)->
  ∃w',(storeCells ⟨b,ofs,none⟩ vs i).run PP w=.ok () w'/\St w b (.cells ⟨c.take (ofs+i)++vs++c.drop (ofs+i+vs.length)⟩ t (0,0)) w'
 | [],i,c,w,hb,hl,_=>by
  refine⟨w,by simp [storeCells],⟨rfl,rfl,rfl,rfl,?_,fun _ _=>rfl⟩⟩;rw [hb];simp
 | v::vs,i,c,w,hb,hl,hv=>by
  simp only [Ya] at hl;have g:ofs+i<c.length:=(by omega);(have h1:v.oneCell'=true:=by have:=hv v (by simp);cases v<;>first|rfl|(simp [Bp] at this));have d:w.cell? ⟨b,ofs+i,none⟩=some c[ofs+i]:=Ar hb (by simp [g]);have h:w.frozen? ⟨b,ofs+i,none⟩=false:=(by simp [World.frozen?,hb]);have e:=run_store PP w ⟨b,ofs+i,none⟩ v .plain h1;rw [d] at e;simp only [h] at e;have f:=Ev (i:=ofs+i) v hb;have j:(w.setCell ⟨b,ofs+i,none⟩ v).heap[b]?=some (.cells ⟨c.set (ofs+i) v⟩ t (0,0)):=(by rw [f.at_];simp);obtain⟨w',hr,a⟩:=Nv (ofs:=ofs) vs (i+1) (c.set (ofs+i) v) (w.setCell ⟨b,ofs+i,none⟩ v) j (by rw [List.length_set];omega) (fun u hu=>hv u (by simp [hu]));refine⟨w',?_,⟨a.os,a.tape,a.output,by rw [a.size,f.size],?_,fun k hk=>by rw [a.oth k hk,f.oth k hk]⟩⟩
  ·simp only [storeCells,Sem.run_bind,Ij,e,Bool.false_eq_true,if_false,Result.andThen_ok,hr]
  ·rw [a.at_];have e1:ofs+(i+1)=(ofs+i)+1:=(by omega);have e2:ofs+i+1+vs.length=ofs+i+(v::vs).length:=(by simp;omega);rw [e1,<-e2,cU c (ofs+i) v vs g]
theorem Zw {N:Nat} {L:Env} {n b ofs:Nat} {cs c:List Value} {t:TypeId} (h:sgA L o.op=some (n,⟨b,ofs,none⟩,cs)) (hn:cs.length=n)
  (hv:∀v∈cs,Bp v=true) (hb:w.heap[b]?=some (.cells ⟨c⟩ t (0,0))) (hl:ofs+n<=c.length):
  ∃w',(∀a,Fr N L a->(execOp a.eval o).run PP w=.ok .skip w')/\St w b (.cells ⟨c.take ofs++cs++c.drop (ofs+n)⟩ t (0,0)) w':=by
 obtain⟨w',hr,hs⟩:=Nv (b:=b) (ofs:=ofs) cs 0 c w hb (by omega) hv;refine⟨w',fun a hf=>?_,by simpa [hn] using hs⟩;obtain⟨dst,op,ty,Gh,after,guard⟩:=o;simp only at h;unfold sgA at h;split at h
 ·rename_i t x y;split at h
  ·rename_i n' a' cs' d hx hy;simp only [Yb,Prod.mk.injEq] at h;obtain⟨rfl,rfl,rfl⟩:=h;obtain⟨h1,h2⟩:=cC d w;simp [execOp,hf.eval hx,hf.eval hy,Instr.storeAt,Instr.sureAddr,storeVar,Value.cells,h2,hn,hr]
  ·cases h
 ·cases h
theorem Bx {n b ofs:Nat} {cs c:List Value} {t:TypeId} (hg:Ez all L o=some true) (h:sgA L o.op=some (n,⟨b,ofs,none⟩,cs)) (hn:cs.length=n)
  (hv:∀v∈cs,Bp v=true) (hb:w.heap[b]?=some (.cells ⟨c⟩ t (0,0))) (hl:ofs+n<=c.length) (hd:Cu N o undef L=some L')
  (k:∀w',St w b (.cells ⟨c.take ofs++cs++c.drop (ofs+n)⟩ t (0,0)) w'->WL all Q N L' rest w'):WL all Q N L (o::rest) w:=by
 obtain⟨w',hr,hs⟩:=Zw (N:=N) h hn hv hb hl;exact Qn hg hr hd (k w' hs)
def Qa (L:Env):List (Nat×Operand)->Option (List (Nat×Value))
 | []=>some []
 | (i,x)::r=>match ev L x with
  | some v=>match Qa L r with
   | some vs=>some ((i,v)::vs)
   | none=>none
  | none=>none
theorem Sn {N:Nat} {L:Env} {a:Act} (hf:Fr N L a):∀{ps:List (Nat×Operand)} {vs:List (Nat×Value)},Qa L ps=some vs->ps.map (fun (i,x)=>(i,a.eval x))=vs
 | [],vs,h=>by simp [Qa] at h;simp [h]
 | (i,x)::r,vs,h=>by
  simp only [Qa] at h;cases h1:ev L x with
  | none=>simp [h1] at h
  | some v=>
   cases h2:Qa L r with
   | none=>simp [h1,h2] at h
   | some us=>
    simp only [h1,h2,Yb] at h;subst h;have:=Sn hf h2;simp only [List.map_cons,hf.eval h1];rw [<-this]
def bdA (L:Env) (op:Op):Option (Nat×List (Nat×Value)):=
 match op with
 | .build t ⟨ps⟩=>match Qa L ps with
  | some vs=>some (t,vs)
  | none=>none
 | _=>none
theorem Ro {N:Nat} {L:Env} {a:Act} {t:Nat} {vs:List (Nat×Value)} (hf:Fr N L a) (h:bdA L o.op=some (t,vs)):execOp a.eval o=(do pure (.value (<-Instr.build t ⟨vs⟩))):=by
 obtain⟨dst,op,ty,Gh,after,guard⟩:=o;simp only at h;unfold bdA at h;split at h
 ·rename_i t' ps;split at h
  ·rename_i vs' b;simp only [Yb,Prod.mk.injEq] at h;obtain⟨rfl,rfl⟩:=h;have:=Sn hf b;simp only [execOp,List.map_toArray,this]
  ·cases h
 ·cases h
theorem Cx {t:Nat} {vs:List (Nat×Value)} {v:Value} (hg:Ez all L o=some true) (h:bdA L o.op=some (t,vs)) (hr:∀w,(Instr.build t ⟨vs⟩).run PP w=.ok v w)
  (hd:Cu N o v L=some L') (k:WL all Q N L' rest w):WL all Q N L (o::rest) w:=
 Ca hg (fun a hf=>by rw [Ro hf h];simp [hr]) hd k
def bsA (L:Env) (op:Op):Option (Nat×Nat×List (Nat×Value)):=
 match op with
 | .buildSlice t n ⟨ps⟩=>match Qa L ps with
  | some vs=>some (t,n,vs)
  | none=>none
 | _=>none
theorem Dn {N:Nat} {L:Env} {a:Act} {t n:Nat} {vs:List (Nat×Value)} (hf:Fr N L a) (h:bsA L o.op=some (t,n,vs)):execOp a.eval o=(do pure (.value (<-Instr.buildSlice t n ⟨vs⟩))):=by
 obtain⟨dst,op,ty,Gh,after,guard⟩:=o;simp only at h;unfold bsA at h;split at h
 ·rename_i t' n' ps;split at h
  ·rename_i vs' b;simp only [Yb,Prod.mk.injEq] at h;obtain⟨rfl,rfl,rfl⟩:=h;have:=Sn hf b;simp only [execOp,List.map_toArray,this]
  ·cases h
 ·cases h
theorem Ec {t n e:Nat} {vs:List (Nat×Value)} {c:Array Value} (hg:Ez all L o=some true) (h:bsA L o.op=some (t,n,vs))
  (hr:∀w,(Instr.buildSlice t n ⟨vs⟩).run PP w=.ok (.slice (F w.heap.size) n n) (w.alloc (.cells c e (0,0))))
  (hd:Cu N o (.slice (F w.heap.size) n n) L=some L') (k:∀w',Al w (.cells c e (0,0)) w'->WL all Q N L' rest w'):WL all Q N L (o::rest) w:=
 Ca hg (fun a hf=>by rw [Dn hf h];simp [hr]) hd (k _ (Br w _))
def boA (L:Env) (op:Op):Option (BinOp×Nat×Value×Value):=
 match op with
 | .binOp bop t x y _=>match ev L x,ev L y with
  | some (.int k a),some (.int k' b)=>some (bop,t,.int k a,.int k' b)
  | some (.string a),some (.string b)=>some (bop,t,.string a,.string b)
  | _,_=>none
 | _=>none
theorem Bo {bop:BinOp} {t:Nat} {x y v:Value} (hg:Ez all L o=some true) (h:boA L o.op=some (bop,t,x,y)) (hr:(binOp bop t x y).run PP w=.ok v w)
  (hd:Cu N o v L=some L') (k:WL all Q N L' rest w):WL all Q N L (o::rest) w:=by
 refine Ca hg (fun a hf=>?_) hd k;obtain⟨dst,op,ty,Gh,after,guard⟩:=o;simp only at h;unfold boA at h;split at h
 ·rename_i b2 t' ox oy t2;split at h
  ·rename_i k1 a1 k2 b1 hx hy;simp only [Yb,Prod.mk.injEq] at h;obtain⟨rfl,rfl,rfl,rfl⟩:=h;simp only [execOp,hf.eval hx,hf.eval hy,Sem.run_bind,Lz,Result.andThen_ok,hr,Sem.run_pure]
  ·rename_i a1 b1 hx hy;simp only [Yb,Prod.mk.injEq] at h;obtain⟨rfl,rfl,rfl,rfl⟩:=h;simp only [execOp,hf.eval hx,hf.eval hy,Sem.run_bind,Oi,Result.andThen_ok,hr,Sem.run_pure]
  ·cases h
 ·cases h
def WD (all:List Oper) (Q:Exit->Act->World->Prop) (N:Nat) (S:World->Prop) (fuel:Nat) (listed:Array Bool) (L:Env) (w:World):Prop:=
 ∀a,Fr N L a->wpAnyH PP .any all.toArray Q S fuel listed a w
theorem mixed:PP.follows .mixedOrders=true:=by kernel_rfl
theorem Hi {id:Nat} {l:List Oper} (S:World->Prop) (k:WD l Q N S l.length (Array.replicate l.length false) L w.drew):WC Q N L (.region id ⟨l⟩ true) w:=fun a hf=>
 wp_region_held (S:=S) mixed (by have:=k a hf;simpa using this)
def Kp (all:List Oper) (listed:Array Bool) (i:Nat):Bool:=
 Region.noSelect all.toArray && Region.free .any all.toArray listed i && (Region.ready .any all.toArray listed).contains i
def Jt (Q:Exit->Act->World->Prop):Prop:=∀c a d v w,Q (.panic c) (Act.put a d v) w->Q (.panic c) a w
variable {S:World->Prop} {fuel:Nat} {listed:Array Bool}
theorem Lb {v:Value} (i:Nat) (hi:all[i]?=some o) (hs:Kp all listed i=true) (hQ:Jt Q) (hy:∀a,Fr N L a->YieldsIf PP all.toArray S o v a) (hS:S w)
  (hd:Cu N o v L=some L') (k:WD all Q N S fuel (listed.setIfInBounds i true) L' w):WD all Q N S (fuel+1) listed L w:=fun a hf=>by
 simp only [Kp,Bool.and_eq_true] at hs;exact wpAnyH_take (by simpa using hi) hs.1.1 hs.1.2 hs.2 (fun c a w h=>hQ c a _ _ w h) (hy a hf) hS (k _ (Ge hf hd))
theorem Bw (i:Nat) (hi:all[i]?=some o) (hs:Kp all listed i=true) (hQ:Jt Q) (hS:S w) (h:Pp N all L o=some L')
  (k:WD all Q N S fuel (listed.setIfInBounds i true) L' w):WD all Q N S (fuel+1) listed L w:=by
 unfold Pp at h;split at h
 ·rename_i hg;split at h
  ·rename_i v hv;exact Lb i hi hs hQ (fun a hf=>.inl ⟨Hq hf hg,fun w _=>Sl hf hv w⟩) hS h k
  ·cases h
 ·rename_i hg;exact Lb i hi hs hQ (fun a hf=>.inr ⟨Hq hf hg,rfl⟩) hS h k
 ·cases h
theorem Kw {v:Value} (i:Nat) (hi:all[i]?=some o) (hs:Kp all listed i=true) (hQ:Jt Q) (hS:S w) (hg:Ez all L o=some true)
  (hr:∀w',S w'->∀a,Fr N L a->(execOp a.eval o).run PP w'=.ok (.value v) w') (hd:Cu N o v L=some L')
  (k:WD all Q N S fuel (listed.setIfInBounds i true) L' w):WD all Q N S (fuel+1) listed L w:=
 Lb i hi hs hQ (fun a hf=>.inl ⟨Hq hf hg,fun w' b=>hr w' b a hf⟩) hS hd k
theorem Xg {ad:Addr} {v:Value} (i:Nat) (hi:all[i]?=some o) (hs:Kp all listed i=true) (hQ:Jt Q) (hS:S w) (hg:Ez all L o=some true) (h:ldA L o.op=some ad)
  (hc:∀w',S w'->w'.cell? ad=some v) (hd:Cu N o v L=some L')
  (k:WD all Q N S fuel (listed.setIfInBounds i true) L' w):WD all Q N S (fuel+1) listed L w:=
 Kw i hi hs hQ hS hg (fun w' b a hf=>Dz hf h (hc w' b)) hd k
theorem Mo {n b ofs len:Nat} {j:Int} (i m:Nat) (hi:all[i]?=some o) (hs:Kp all listed i=true) (hQ:Jt Q) (hS:S w) (hg:Ez all L o=some true)
  (h:ixA L o.op=some (n,b,ofs,len,j)) (hj:j=(m:Int)) (hm:m<len) (hd:Cu N o (.pointer (some ⟨b,ofs+m*n,none⟩)) L=some L')
  (k:WD all Q N S fuel (listed.setIfInBounds i true) L' w):WD all Q N S (fuel+1) listed L w:=by
 subst hj;exact Kw i hi hs hQ hS hg (fun w' _ a hf=>by have:=aP hf h (by omega) (by omega) w';simpa using this) hd k
theorem WD.ta {bop x y} (i:Nat) (hi:all[i]?=some o) (hs:Kp all listed i=true) (hQ:Jt Q) (hS:S w) (hg:Ez all L o=some true)
  (h:cA L o.op=some (bop,.i64,x,y)) (hb:-9223372036854775808<=Te bop x y/\Te bop x y<=9223372036854775807) (hd:Cu N o (.int .i64 (Te bop x y)) L=some L')
  (k:WD all Q N S fuel (listed.setIfInBounds i true) L' w):WD all Q N S (fuel+1) listed L w:=
 Kw i hi hs hQ hS hg (fun w' _ a hf=>by rw [Pd hf h w',Ei hb]) hd k
theorem WD.ts {bd ofs c len:Nat} {ad:Option Addr} {lo hi:Option Int} {L':Option Addr->Env} (i n' l:Nat) (b:all[i]?=some o) (d:Kp all listed i=true) (hQ:Jt Q) (hS:S w) (hg:Ez all L o=some true)
  (h:slA L o.op=some (1,ad,len,c,lo,hi)) (hs:Sf bd ofs c ad) (e:lo.getD 0=(l:Int)) (f:hi.getD len=((l+n':Nat):Int)) (hc:l+n'<=c)
  (hd:∀ad',Cu N o (.slice ad' n' (c-l)) L=some (L' ad'))
  (k:∀ad',Sf bd (ofs+l) (c-l) ad'->WD all Q N S fuel (listed.setIfInBounds i true) (L' ad') w):WD all Q N S (fuel+1) listed L w:=by
 have g:Sf bd (ofs+l) (c-l) (if c=l then ad else ad.map (·.add (l*1))):=by
  exact hs.sl l
 refine Kw i b d hQ hS hg (fun w' _ a hf=>?_) (hd _) (k _ g);have:=Qw hf h e f (by omega) hc w';rw [this];congr 3;omega
theorem Eg (hr:Region.ready .any all.toArray listed=[]) (k:X .normal Q N L w):WD all Q N S fuel listed L w:=fun a hf=>wpAnyH_done hr (k a hf) fuel
theorem cH {i:Nat} (hr:Region.ready .any all.toArray listed=[i]) (hi:all[i]?=some o) (hg:Ez all L o=some true)
  (k:∀a,Fr N L a->o.wp PP a w (fun a' w'=>S w'/\wpAnyH PP .any all.toArray Q S fuel (listed.setIfInBounds i true) a' w') Q):WD all Q N S (fuel+1) listed L w:=fun a hf=>by
 refine wpAnyH_all hr (by simp) fun j hj=>?_;have:j=i:=by simpa using hj
 subst this;unfold wpOp;have b:(all.toArray)[j]?=some o:=by simpa using hi
 simp only [b,Hq hf hg,if_true];exact .inl (k a hf)
theorem Ru {v:Value} {w':World} (i:Nat) (hr:Region.ready .any all.toArray listed=[i]) (hi:all[i]?=some o) (hg:Ez all L o=some true)
  (b:∀a,Fr N L a->(execOp a.eval o).run PP w=.ok (.value v) w') (hS:S w') (hd:Cu N o v L=some L')
  (k:WD all Q N S fuel (listed.setIfInBounds i true) L' w'):WD all Q N S (fuel+1) listed L w:=
 cH hr hi hg fun a hf=>by
  unfold Oper.wp;rw [b a hf];exact⟨hS,k _ (Ge hf hd)⟩
theorem Jr {w':World} (i:Nat) (hr:Region.ready .any all.toArray listed=[i]) (hi:all[i]?=some o) (hg:Ez all L o=some true)
  (b:∀a,Fr N L a->(execOp a.eval o).run PP w=.ok .skip w') (hS:S w') (hd:Cu N o undef L=some L')
  (k:WD all Q N S fuel (listed.setIfInBounds i true) L' w'):WD all Q N S (fuel+1) listed L w:=
 cH hr hi hg fun a hf=>by
  unfold Oper.wp;rw [b a hf];exact⟨hS,k _ (Ge hf hd)⟩
theorem Gy {f:Nat} {vs:List Value} {R:Ending->World->Prop} (i:Nat) (hr:Region.ready .any all.toArray listed=[i]) (hi:all[i]?=some o) (hg:Ez all L o=some true)
  (hc:Wt L o.op=some (f,vs)) (b:(Nat.ble 3 f && Nat.blt f 150)=true) (h:Calls PP f vs.toArray w R)
  (k:∀e w',R e w'->∃v L',e=.returned v/\Cu N o v L=some L'/\S w'/\WD all Q N S fuel (listed.setIfInBounds i true) L' w'):WD all Q N S (fuel+1) listed L w:=
 cH hr hi hg fun a hf=>by
  unfold Oper.wp;rw [Mm hf hc (Ml b) w];refine h.mono fun e w' hR=>?_;obtain⟨v,L',rfl,hd,hS,hk⟩:=k e w' hR;exact⟨hS,hk _ (Ge hf hd)⟩
end steps
attribute [irreducible] WD
end
section
attribute [local semireducible] WL WC X WD
structure Sm (w w':World):Prop where
 heap:w'.heap=w.heap
 os:w'.os=w.os
 tape:w'.tape=w.tape
 output:w'.output=w.output
theorem Sm.refl (w:World):Sm w w:=⟨rfl,rfl,rfl,rfl⟩
theorem Sm.trans {a b c:World} (h:Sm a b) (g:Sm b c):Sm a c:=⟨g.heap.trans h.heap,g.os.trans h.os,g.tape.trans h.tape,g.output.trans h.output⟩
theorem Sm.drew {a b:World} (h:Sm a b):Sm a b.drew:=⟨h.heap,h.os,h.tape,h.output⟩
theorem Sm.fm {B T} {w w':World} (h:Sm w w'):Fm B T w w':=
 ⟨h.os,h.tape,h.output,by rw [h.heap];exact Nat.le_refl _,fun k _=>by rw [h.heap],fun k o ho _=>by rw [h.heap];exact ho,fun k o ho=>⟨o,by rw [h.heap];exact ho,rfl⟩⟩
theorem Sm.at {w w':World} (h:Sm w w') {k:Nat} {o:Obj} (ho:w.heap[k]?=some o):w'.heap[k]?=some o:=by rw [h.heap];exact ho
def Um (n k:Nat):Array Bool:=((List.range n).map fun i=>Nat.blt i k).toArray
theorem hY {n k:Nat} (h:k<n):(Um n k).setIfInBounds k true=Um n (k+1):=by
 unfold Um;apply Array.ext_getElem?;intro i;rw [Array.getElem?_setIfInBounds];simp only [List.size_toArray,List.length_map,List.length_range,List.getElem?_toArray,List.getElem?_map];by_cases hi:i<n
 ·simp only [List.getElem?_range hi,Option.map_some];by_cases e:k=i
  ·subst e;simp [h,Nat.blt_eq]
  ·simp only [e,if_false];congr 1;rw [Bool.eq_iff_iff];simp only [Nat.blt_eq];omega
 ·have:(List.range n)[i]?=none:=(by simp;omega);simp only [this,Option.map_none];split<;>simp_all
theorem mS (n:Nat):Um n 0=Array.replicate n false:=by
 unfold Um;apply Array.ext_getElem?;intro i;simp only [List.getElem?_toArray,List.getElem?_map,Array.getElem?_replicate];by_cases hi:i<n
 ·simp [List.getElem?_range hi,hi];rfl
 ·have:(List.range n)[i]?=none:=(by simp;omega);simp [this,hi]
def WX (all:List Oper) (Q:Exit->Act->World->Prop) (N:Nat) (S:World->Prop) (L:Env) (rest:List Oper) (w:World):Prop:=
 ∀k,all.drop k=rest->k+rest.length=all.length->WD all Q N S rest.length (Um all.length k) L w
class De (Q:Exit->Act->World->Prop):Prop where
 ok:Jt Q
instance (P:Program) (fn:Func) (R:Ending->World->Prop):De (bodyPost P fn R):=⟨fun _ _ d _ _ h=>by cases d<;>exact h⟩
instance (K:Act->World->Prop) (Q:Exit->Act->World->Prop) [h:De Q]:De (Exit.then K Q):=⟨fun c a d v w hh=>h.ok c a d v w hh⟩
instance (i:Nat) (Q:Exit->Act->World->Prop) [h:De Q]:De (Exit.inBlock i Q):=⟨fun c a d v w hh=>h.ok c a d v w hh⟩
def Gh (all rest:List Oper):Nat:=all.length-rest.length
def Jd (all rest:List Oper):Bool:=Kp all (Um all.length (Gh all rest)) (Gh all rest)
section
variable {all:List Oper} {Q:Exit->Act->World->Prop} {N:Nat} {L L':Env} {o:Oper} {rest:List Oper} {w:World} {S:World->Prop}
theorem Zm {k:Nat} (h:all.drop k=o::rest):all[k]?=some o/\all.drop (k+1)=rest:=by
 constructor
 ·have:=congrArg (fun l=>l[0]?) h;simpa using this
 ·have:=congrArg (fun l=>l.drop 1) h;simpa using this
theorem Cp {id:Nat} {l:List Oper} (S:World->Prop) (k:WX l Q N S L l w.drew):WC Q N L (.region id ⟨l⟩ true) w:=
 Hi S (by have:=k 0 Z (by simp);rwa [mS] at this)
theorem Ng [hQ:De Q] {v:Value} (hs:Jd all (o::rest)=true) (hy:∀a,Fr N L a->YieldsIf PP all.toArray S o v a) (hS:S w)
  (hd:Cu N o v L=some L') (k:WX all Q N S L' rest w):WX all Q N S L (o::rest) w:=fun i h1 h2=>by
 obtain⟨h3,h4⟩:=Zm h1;have hp:Gh all (o::rest)=i:=by unfold Gh;omega
 unfold Jd at hs;rw [hp] at hs;simp only [Ya] at h2;have:=k (i+1) h4 (by omega);rw [<-hY (by omega)] at this;exact Lb i h3 hs hQ.ok hy hS hd this
theorem Cg [De Q] (hs:Jd all (o::rest)=true) (hS:S w) (h:Pp N all L o=some L') (k:WX all Q N S L' rest w):WX all Q N S L (o::rest) w:=by
 unfold Pp at h;split at h
 ·rename_i hg;split at h
  ·rename_i v hv;exact Ng hs (fun a hf=>.inl ⟨Hq hf hg,fun w _=>Sl hf hv w⟩) hS h k
  ·cases h
 ·rename_i hg;exact Ng hs (fun a hf=>.inr ⟨Hq hf hg,rfl⟩) hS h k
 ·cases h
theorem Uh [De Q] {v:Value} (hs:Jd all (o::rest)=true) (hS:S w) (hg:Ez all L o=some true)
  (hr:∀w',S w'->∀a,Fr N L a->(execOp a.eval o).run PP w'=.ok (.value v) w') (hd:Cu N o v L=some L') (k:WX all Q N S L' rest w):WX all Q N S L (o::rest) w:=
 Ng hs (fun a hf=>.inl ⟨Hq hf hg,fun w' b=>hr w' b a hf⟩) hS hd k
theorem Cl [De Q] {ad:Addr} {v:Value} (hs:Jd all (o::rest)=true) (hS:S w) (hg:Ez all L o=some true) (h:ldA L o.op=some ad)
  (hc:∀w',S w'->w'.cell? ad=some v) (hd:Cu N o v L=some L') (k:WX all Q N S L' rest w):WX all Q N S L (o::rest) w:=
 Uh hs hS hg (fun w' a _ hf=>Dz hf h (hc w' a)) hd k
theorem Xb [De Q] {n b ofs:Nat} {cs:List Value} (hs:Jd all (o::rest)=true) (hS:S w) (hg:Ez all L o=some true) (h:lgA L o.op=some (n,⟨b,ofs,none⟩)) (hn:cs.length=n)
  (hc:∀w',S w'->∀j v,cs[j]?=some v->w'.cell? ⟨b,ofs+j,none⟩=some v) (hd:Cu N o (.agg cs.toArray) L=some L') (k:WX all Q N S L' rest w):WX all Q N S L (o::rest) w:=
 Uh hs hS hg (fun w' a _ hf=>Un hf h hn (hc w' a)) hd k
theorem Il [De Q] {n b ofs len:Nat} {j:Int} {i:Nat} (hs:Jd all (o::rest)=true) (hS:S w) (hg:Ez all L o=some true) (h:ixA L o.op=some (n,b,ofs,len,j)) (hj:j=(i:Int)) (hi:i<len)
  (hd:Cu N o (.pointer (some ⟨b,ofs+i*n,none⟩)) L=some L') (k:WX all Q N S L' rest w):WX all Q N S L (o::rest) w:=by
 subst hj;exact Uh hs hS hg (fun w' _ a hf=>by have:=aP hf h (by omega) (by omega) w';simpa using this) hd k
theorem WX.a [De Q] {bop x y} (hs:Jd all (o::rest)=true) (hS:S w) (hg:Ez all L o=some true) (h:cA L o.op=some (bop,.i64,x,y)) (hb:-9223372036854775808<=Te bop x y/\Te bop x y<=9223372036854775807)
  (hd:Cu N o (.int .i64 (Te bop x y)) L=some L') (k:WX all Q N S L' rest w):WX all Q N S L (o::rest) w:=
 Uh hs hS hg (fun w' _ a hf=>by rw [Pd hf h w',Ei hb]) hd k
theorem WX.a32 [De Q] {bop x y} (hs:Jd all (o::rest)=true) (hS:S w) (hg:Ez all L o=some true) (h:cA L o.op=some (bop,.i32,x,y)) (hb:-2147483648<=Te bop x y/\Te bop x y<=2147483647)
  (hd:Cu N o (.int .i32 (Te bop x y)) L=some L') (k:WX all Q N S L' rest w):WX all Q N S L (o::rest) w:=
 Uh hs hS hg (fun w' _ a hf=>by rw [Pd hf h w',Gu hb]) hd k
theorem Kv [De Q] {x y:Int} (hs:Jd all (o::rest)=true) (hS:S w) (hg:Ez all L o=some true) (h:cA L o.op=some (.add,.i64,x,y)) (hb:-9223372036854775808<=x+y/\x+y<=9223372036854775807)
  (hd:Cu N o (.int .i64 (x+y)) L=some L') (k:WX all Q N S L' rest w):WX all Q N S L (o::rest) w:=WX.a hs hS hg h hb hd k
theorem WX.su [De Q] {x y:Int} (hs:Jd all (o::rest)=true) (hS:S w) (hg:Ez all L o=some true) (h:cA L o.op=some (.sub,.i64,x,y)) (hb:-9223372036854775808<=x-y/\x-y<=9223372036854775807)
  (hd:Cu N o (.int .i64 (x-y)) L=some L') (k:WX all Q N S L' rest w):WX all Q N S L (o::rest) w:=WX.a hs hS hg h hb hd k
theorem iT [De Q] {x y:Int} (hs:Jd all (o::rest)=true) (hS:S w) (hg:Ez all L o=some true) (h:cA L o.op=some (.sub,.i32,x,y)) (hb:-2147483648<=x-y/\x-y<=2147483647)
  (hd:Cu N o (.int .i32 (x-y)) L=some L') (k:WX all Q N S L' rest w):WX all Q N S L (o::rest) w:=WX.a32 hs hS hg h hb hd k
theorem Rs [De Q] {kd:IntKind} {n:Int} (hs:Jd all (o::rest)=true) (hS:S w) (hg:Ez all L o=some true) (h:cvA L o.op=some (kd,n)) (hw:kd.wrap n=n)
  (hd:Cu N o (.int kd n) L=some L') (k:WX all Q N S L' rest w):WX all Q N S L (o::rest) w:=
 Uh hs hS hg (fun w' _ a hf=>by rw [bL hf h w',hw]) hd k
theorem Dr [De Q] {bd ofs c len:Nat} {ad:Option Addr} {lo hi:Option Int} {L':Option Addr->Env} (n' l:Nat) (b:Jd all (o::rest)=true) (hS:S w) (hg:Ez all L o=some true)
  (h:slA L o.op=some (1,ad,len,c,lo,hi)) (hs:Sf bd ofs c ad) (d:lo.getD 0=(l:Int)) (e:hi.getD len=((l+n':Nat):Int)) (hc:l+n'<=c)
  (hd:∀ad',Cu N o (.slice ad' n' (c-l)) L=some (L' ad')) (k:∀ad',Sf bd (ofs+l) (c-l) ad'->WX all Q N S (L' ad') rest w):WX all Q N S L (o::rest) w:=by
 refine Uh b hS hg (fun w' _ a hf=>?_) (hd _) (k _ (hs.sl l));have:=Qw hf h d e (by omega) hc w';rw [this];congr 3;omega
theorem La {N:Nat} {L:Env} {a:Act} {bop:BinOp} {t:Nat} {x y:Value} (hf:Fr N L a) (h:boA L o.op=some (bop,t,x,y)) {v:Value} {w:World} (hr:(binOp bop t x y).run PP w=.ok v w):
  (execOp a.eval o).run PP w=.ok (.value v) w:=by
 obtain⟨dst,op,ty,Gh,after,guard⟩:=o;simp only at h;unfold boA at h;split at h
 ·rename_i b2 t' ox oy t2;split at h
  ·rename_i k1 a1 k2 b1 hx hy;simp only [Yb,Prod.mk.injEq] at h;obtain⟨rfl,rfl,rfl,rfl⟩:=h;simp only [execOp,hf.eval hx,hf.eval hy,Sem.run_bind,Lz,Result.andThen_ok,hr,Sem.run_pure]
  ·rename_i a1 b1 hx hy;simp only [Yb,Prod.mk.injEq] at h;obtain⟨rfl,rfl,rfl,rfl⟩:=h;simp only [execOp,hf.eval hx,hf.eval hy,Sem.run_bind,Oi,Result.andThen_ok,hr,Sem.run_pure]
  ·cases h
 ·cases h
theorem Ma [De Q] {bop:BinOp} {t:Nat} {x y v:Value} (hs:Jd all (o::rest)=true) (hS:S w) (hg:Ez all L o=some true) (h:boA L o.op=some (bop,t,x,y)) (hr:∀w,(binOp bop t x y).run PP w=.ok v w)
  (hd:Cu N o v L=some L') (k:WX all Q N S L' rest w):WX all Q N S L (o::rest) w:=
 Uh hs hS hg (fun w' _ a hf=>La hf h (hr w')) hd k
theorem WX.bd [De Q] {t:Nat} {vs:List (Nat×Value)} {v:Value} (hs:Jd all (o::rest)=true) (hS:S w) (hg:Ez all L o=some true) (h:bdA L o.op=some (t,vs)) (hr:∀w,(Instr.build t ⟨vs⟩).run PP w=.ok v w)
  (hd:Cu N o v L=some L') (k:WX all Q N S L' rest w):WX all Q N S L (o::rest) w:=
 Uh hs hS hg (fun w' _ a hf=>by rw [Ro hf h];simp [hr]) hd k
theorem WX.gs {d:Nat} {b:Bool} (_hs:Tq all o=some d) (hl:Ln L d=some (.bool b))
  (kt:b=true->WX all Q N S ((d,.bool true)::L) (o::rest) w) (kf:b=false->WX all Q N S ((d,.bool false)::L) (o::rest) w):WX all Q N S L (o::rest) w:=by
 cases b with
 | true=>exact fun i h1 h2 a hf=>kt rfl i h1 h2 a (hf.known hl)
 | false=>exact fun i h1 h2 a hf=>kf rfl i h1 h2 a (hf.known hl)
theorem WX.gD {d:Nat} {p:Prop} [Decidable p] (hs:Tq all o=some d) (hl:Ln L d=some (.bool (dc p)))
  (kt:p->WX all Q N S ((d,.bool true)::L) (o::rest) w) (kf:¬p->WX all Q N S ((d,.bool false)::L) (o::rest) w):WX all Q N S L (o::rest) w:=
 WX.gs hs hl (fun h=>kt (bJ h)) (fun h=>kf (Wm h))
theorem Xc {d:Nat} {p:Prop} [Decidable p] (hs:Tq all o=some d) (hl:Ln L d=some (.bool (dc p))) (hp:p)
  (kt:WX all Q N S ((d,.bool true)::L) (o::rest) w):WX all Q N S L (o::rest) w:=WX.gD hs hl (fun _=>kt) (fun h=>absurd hp h)
theorem Ua {d:Nat} {p:Prop} [Decidable p] (hs:Tq all o=some d) (hl:Ln L d=some (.bool (dc p))) (hp:¬p)
  (kf:WX all Q N S ((d,.bool false)::L) (o::rest) w):WX all Q N S L (o::rest) w:=WX.gD hs hl (fun h=>absurd h hp) (fun _=>kf)
theorem Co (k:X .normal Q N L w):WX all Q N S L [] w:=fun i h1 h2 a hf=>by
 simp only [List.length_nil,Nat.add_zero] at h2;subst h2;refine Eg (listed:=Um all.length all.length) ?_ k a hf;unfold Region.ready;rw [List.filter_eq_nil_iff];intro j hj;have b:j<all.length:=by simpa using hj
 have hb:Nat.blt j all.length=true:=by rw [Nat.blt_eq];exact b
 have:(Um all.length all.length)[j]?=some true:=by
  unfold Um;rw [List.getElem?_toArray,List.getElem?_map,List.getElem?_range b];simp [hb]
 simp [Array.getD_eq_getD_getElem?,this]
def aC (all rest:List Oper):Bool:=(Region.ready .any all.toArray (Um all.length (Gh all rest)))==[Gh all rest]
theorem gL {hs:aC all (o::rest)=true} (hg:Ez all L o=some true)
  (k:∀a,Fr N L a->o.wp PP a w (fun a' w'=>S w'/\(∃L',Fr N L' a'/\WX all Q N S L' rest w')) Q):WX all Q N S L (o::rest) w:=fun i h1 h2=>by
 obtain⟨h3,h4⟩:=Zm h1;have hp:Gh all (o::rest)=i:=by unfold Gh;omega
 unfold aC at hs;rw [hp] at hs;have b:=beq_iff_eq.1 hs;simp only [Ya] at h2;refine cH b h3 hg fun a hf=>Oper.wp_mono (fun a' w' hk=>?_) (k a hf);obtain⟨hS,L',c,hk⟩:=hk;refine⟨hS,?_⟩;rw [hY (by omega)];exact hk (i+1) h4 (by omega) a' c
theorem iU {v:Value} {w':World} (hs:aC all (o::rest)=true) (hg:Ez all L o=some true)
  (b:∀a,Fr N L a->(execOp a.eval o).run PP w=.ok (.value v) w') (hS:S w') (hd:Cu N o v L=some L') (k:WX all Q N S L' rest w'):WX all Q N S L (o::rest) w:=
 gL (hs:=hs) hg fun a hf=>by
  unfold Oper.wp;rw [b a hf];exact⟨hS,L',Ge hf hd,k⟩
theorem WX.rk {w':World} (hs:aC all (o::rest)=true) (hg:Ez all L o=some true)
  (b:∀a,Fr N L a->(execOp a.eval o).run PP w=.ok .skip w') (hS:S w') (hd:Cu N o undef L=some L') (k:WX all Q N S L' rest w'):WX all Q N S L (o::rest) w:=
 gL (hs:=hs) hg fun a hf=>by
  unfold Oper.wp;rw [b a hf];exact⟨hS,L',Ge hf hd,k⟩
theorem Pf {f:Nat} {vs:List Value} {R:Ending->World->Prop} (hs:aC all (o::rest)=true) (hg:Ez all L o=some true)
  (hc:Wt L o.op=some (f,vs)) (b:(Nat.ble 3 f && Nat.blt f 150)=true) (h:Calls PP f vs.toArray w R)
  (k:∀e w',R e w'->∃v L',e=.returned v/\Cu N o v L=some L'/\S w'/\WX all Q N S L' rest w'):WX all Q N S L (o::rest) w:=
 gL (hs:=hs) hg fun a hf=>by
  unfold Oper.wp;rw [Mm hf hc (Ml b) w];refine h.mono fun e w' hR=>?_;obtain⟨v,L',rfl,hd,hS,hk⟩:=k e w' hR;exact⟨hS,L',Ge hf hd,hk⟩
theorem WX.sg {n b ofs:Nat} {cs c:List Value} {t:TypeId} (hs:aC all (o::rest)=true) (hg:Ez all L o=some true) (h:sgA L o.op=some (n,⟨b,ofs,none⟩,cs)) (hn:cs.length=n)
  (hv:∀v∈cs,Bp v=true) (hb:w.heap[b]?=some (.cells ⟨c⟩ t (0,0))) (hl:ofs+n<=c.length) (hd:Cu N o undef L=some L')
  (k:∀w',St w b (.cells ⟨c.take ofs++cs++c.drop (ofs+n)⟩ t (0,0)) w'->S w'/\WX all Q N S L' rest w'):WX all Q N S L (o::rest) w:=by
 obtain⟨w',hr,a⟩:=Zw (N:=N) h hn hv hb hl;exact WX.rk hs hg hr (k w' a).1 hd (k w' a).2
theorem cB {N:Nat} {L:Env} {a:Act} {t:Nat} {l:List Value} (_hf:Fr N L a) (h:alA o.op=some (t,l)) (w:World):
  (execOp a.eval o).run PP w=.ok (.value (.pointer (F w.heap.size))) (w.alloc (.cells l.toArray t (0,0))):=by
 obtain⟨dst,op,ty,Gh,after,guard⟩:=o;simp only at h;unfold alA at h;split at h
 ·rename_i t';split at h
  ·rename_i l' hl;simp only [Yb,Prod.mk.injEq] at h;obtain⟨rfl,rfl⟩:=h;obtain⟨z,hz,hc⟩:=cK hl w;simp [execOp,Instr.alloc,hz,newVar,newRow,hc]
  ·cases h
 ·cases h
theorem WX.al {t:Nat} {l:List Value} (hs:aC all (o::rest)=true) (hg:Ez all L o=some true) (h:alA o.op=some (t,l)) (hd:Cu N o (.pointer (F w.heap.size)) L=some L')
  (k:∀w',Al w (.cells l.toArray t (0,0)) w'->S w'/\WX all Q N S L' rest w'):WX all Q N S L (o::rest) w:=
 iU hs hg (fun _ hf=>cB hf h w) (k _ (Br w _)).1 hd (k _ (Br w _)).2
theorem WX.bs {t n e:Nat} {vs:List (Nat×Value)} {c:Array Value} (hs:aC all (o::rest)=true) (hg:Ez all L o=some true) (h:bsA L o.op=some (t,n,vs))
  (hr:∀w,(Instr.buildSlice t n ⟨vs⟩).run PP w=.ok (.slice (F w.heap.size) n n) (w.alloc (.cells c e (0,0))))
  (hd:Cu N o (.slice (F w.heap.size) n n) L=some L') (k:∀w',Al w (.cells c e (0,0)) w'->S w'/\WX all Q N S L' rest w'):WX all Q N S L (o::rest) w:=
 iU hs hg (fun a hf=>by rw [Dn hf h];simp [hr]) (k _ (Br w _)).1 hd (k _ (Br w _)).2
end
abbrev UW (n:Nat):Value:=.int .u64 (n:Int)
theorem Ha (n:Nat):BitVec.ofInt 64 (n:Int)=BitVec.ofNat 64 n:=by simp
theorem Mf {n:Nat} (h:n<2^64):IntKind.u64.wrap (n:Int)=n:=Jb ⟨by omega,by omega⟩
theorem Xa {a b:Nat} (ha:a<2^64) (hb:b<2^64) (t:Nat) (w:World):(binOp .and t (UW a) (UW b)).run PP w=.ok (UW (a &&& b)) w:=by
 have h:(BitVec.ofInt 64 (a:Int) &&& BitVec.ofInt 64 (b:Int)).toNat=a &&& b:=by
  rw [Ha,Ha,BitVec.toNat_and,BitVec.toNat_ofNat,BitVec.toNat_ofNat,Nat.mod_eq_of_lt ha,Nat.mod_eq_of_lt hb]
 have hl:a &&& b<2^64:=Nat.and_lt_two_pow a hb;show (Op.intBits .and .u64 (a:Int) (b:Int)).run PP w=_;unfold Op.intBits;simp only [Sem.run_pure];rw [show (BitVec.ofInt IntKind.u64.bits (a:Int) &&& BitVec.ofInt IntKind.u64.bits (b:Int)).toNat=a &&& b from h,Mf hl]
theorem Ph {a b:Nat} (ha:a<2^64) (hb:b<2^64) (t:Nat) (w:World):(binOp .or t (UW a) (UW b)).run PP w=.ok (UW (a ||| b)) w:=by
 have h:(BitVec.ofInt 64 (a:Int) ||| BitVec.ofInt 64 (b:Int)).toNat=a ||| b:=by
  rw [Ha,Ha,BitVec.toNat_or,BitVec.toNat_ofNat,BitVec.toNat_ofNat,Nat.mod_eq_of_lt ha,Nat.mod_eq_of_lt hb]
 have hl:a ||| b<2^64:=Nat.or_lt_two_pow ha hb;show (Op.intBits .or .u64 (a:Int) (b:Int)).run PP w=_;unfold Op.intBits;simp only [Sem.run_pure];rw [show (BitVec.ofInt IntKind.u64.bits (a:Int) ||| BitVec.ofInt IntKind.u64.bits (b:Int)).toNat=a ||| b from h,Mf hl]
theorem xor64 {a b:Nat} (ha:a<2^64) (hb:b<2^64) (t:Nat) (w:World):(binOp .xor t (UW a) (UW b)).run PP w=.ok (UW (a ^^^ b)) w:=by
 have h:(BitVec.ofInt 64 (a:Int) ^^^ BitVec.ofInt 64 (b:Int)).toNat=a ^^^ b:=by
  rw [Ha,Ha,BitVec.toNat_xor,BitVec.toNat_ofNat,BitVec.toNat_ofNat,Nat.mod_eq_of_lt ha,Nat.mod_eq_of_lt hb]
 have hl:a ^^^ b<2^64:=Nat.xor_lt_two_pow ha hb;show (Op.intBits .xor .u64 (a:Int) (b:Int)).run PP w=_;unfold Op.intBits;simp only [Sem.run_pure];rw [show (BitVec.ofInt IntKind.u64.bits (a:Int) ^^^ BitVec.ofInt IntKind.u64.bits (b:Int)).toNat=a ^^^ b from h,Mf hl]
theorem and8 {a b:Nat} (ha:a<256) (hb:b<256) (t:Nat) (w:World):(binOp .and t (.int .u8 (a:Int)) (.int .u8 (b:Int))).run PP w=.ok (.int .u8 ((a &&& b:Nat):Int)) w:=by
 have h:(BitVec.ofInt 8 (a:Int) &&& BitVec.ofInt 8 (b:Int)).toNat=a &&& b:=by
  rw [show BitVec.ofInt 8 (a:Int)=BitVec.ofNat 8 a by simp,show BitVec.ofInt 8 (b:Int)=BitVec.ofNat 8 b by simp,BitVec.toNat_and,BitVec.toNat_ofNat,BitVec.toNat_ofNat,Nat.mod_eq_of_lt ha,Nat.mod_eq_of_lt hb]
 have hl:a &&& b<2^8:=Nat.and_lt_two_pow a hb;show (Op.intBits .and .u8 (a:Int) (b:Int)).run PP w=_;unfold Op.intBits;simp only [Sem.run_pure];rw [show (BitVec.ofInt IntKind.u8.bits (a:Int) &&& BitVec.ofInt IntKind.u8.bits (b:Int)).toNat=a &&& b from h,Ls (by omega)]
theorem and192 {n:Nat} (h:128<=n) (h2:n<192):n &&& 192=128:=by
 have key:∀m:Fin 256,128<=m.val->m.val<192->m.val &&& 192=128:=by decide
 exact key ⟨n,by omega⟩ h h2
theorem Gx {n:Nat} (h:128<=n) (h2:n<192) (t:Nat) (w:World):(binOp .and t (.int .u8 (n:Int)) (.int .u8 192)).run PP w=.ok (.int .u8 128) w:=by
 have:=and8 (a:=n) (b:=192) (by omega) (by omega) t w;rw [and192 h h2] at this;exact this
theorem sub64 {a b:Nat} (ha:a<2^64) (hb:b<2^64) (t:Nat) (w:World):(binOp .sub t (UW a) (UW b)).run PP w=.ok (UW ((a+2^64-b)%2^64)) w:=by
 show (Op.intArith .sub .u64 (a:Int) (b:Int)).run PP w=_;simp only [Op.intArith,Sem.run_pure];have e:IntKind.u64.wrap ((a:Int)-b)=((a:Int)-b)%18446744073709551616:=by simp [IntKind.wrap,IntKind.bits,IntKind.signed]
 rw [e];congr 2;simp only [Nat.reducePow] at *;omega
theorem mul64 {a b:Nat} (h:a*b<2^64) (t:Nat) (w:World):(binOp .mul t (UW a) (UW b)).run PP w=.ok (UW (a*b)) w:=by
 show (Op.intArith .mul .u64 (a:Int) (b:Int)).run PP w=_;simp only [Op.intArith,Sem.run_pure];rw [<-Int.natCast_mul,Mf h]
theorem Vg {a n:Nat} (h:a*2^n<2^64) (hn:n<64) (t:Nat) (w:World):(binOp .shl t (UW a) (.int .u64 (n:Int))).run PP w=.ok (UW (a*2^n)) w:=by
 show (Op.shift .shl .u64 (a:Int) .u64 (n:Int)).run PP w=_;unfold Op.shift;rw [if_neg (by omega)];have hm:min (n:Int).toNat IntKind.u64.bits=n:=by simp [IntKind.bits];omega
 simp only [hm,Sem.run_pure];have:(a:Int)*2^n=((a*2^n:Nat):Int):=by simp
 rw [this,Mf h]
section
variable {all:List Oper} {Q:Exit->Act->World->Prop} {N:Nat} {L L':Env} {o:Oper} {rest:List Oper} {w:World}
def notA (L:Env) (op:Op):Option Int:=
 match op with
 | .unOp .xor t x=>cond (Nat.beq t 135) (match ev L x with
  | some (.int .u64 n)=>some n
  | _=>none) none
 | _=>none
theorem eP {n:Nat} (hn:n<2^64) (hg:Ez all L o=some true) (h:notA L o.op=some (n:Int)) (hd:Cu N o (UW (2^64-1-n)) L=some L')
  (k:WL all Q N L' rest w):WL all Q N L (o::rest) w:=by
 refine Ca hg (fun a hf=>?_) hd k;obtain⟨dst,op,ty,Gh,after,guard⟩:=o;simp only at h;unfold notA at h;split at h
 ·rename_i t x;cases ht:Nat.beq t 135 with
  | false=>simp [ht] at h
  | true=>
   simp only [ht,cond_true] at h;split at h
   ·rename_i m hx;simp only [Yb] at h;subst h;have h1:(BitVec.ofInt 64 (18446744073709551615:Int) ^^^ BitVec.ofInt 64 (n:Int)).toNat=2^64-1-n:=by
     have e:BitVec.ofInt 64 (18446744073709551615:Int)=BitVec.allOnes 64:=(by decide);rw [e,BitVec.allOnes_xor,Ha,BitVec.toNat_not,BitVec.toNat_ofNat,Nat.mod_eq_of_lt hn]
    have h2:(Op.unary .xor (.int .u64 (n:Int))).run PP w=.ok (UW (2^64-1-n)) w:=by
     show (Op.intBits .xor .u64 (18446744073709551615:Int) (n:Int)).run PP w=_;unfold Op.intBits;simp only [Sem.run_pure];rw [show (BitVec.ofInt IntKind.u64.bits (18446744073709551615:Int) ^^^ BitVec.ofInt IntKind.u64.bits (n:Int)).toNat=2^64-1-n from h1,Mf (by omega)]
    simp only [execOp,hf.eval hx,Sem.run_bind,h2,Result.andThen_ok,Sem.run_pure]
   ·cases h
 ·cases h
end
attribute [irreducible] WX
end
section
def n8 (a b c d e f g h:Nat):Nat:=a+256*b+65536*c+16777216*d+4294967296*e+1099511627776*f+281474976710656*g+72057594037927936*h
theorem Nf {n m:Nat} {k:Nat} (h:n &&& m=0) (hm:m.testBit k=true):n/2^k%2=0:=by
 have:=Nat.testBit_and n m k;rw [h,hm,Nat.zero_testBit,Bool.and_true] at this;have h2:=Nat.testBit_eq_decide_div_mod_eq (x:=n) (i:=k);rw [<-this] at h2;have h3:=of_decide_eq_false h2.symm;omega
def Pg:Nat:=9259542123273814144
theorem dJ:Pg.testBit 7=true/\Pg.testBit 15=true/\Pg.testBit 23=true/\Pg.testBit 31=true/\Pg.testBit 39=true/\Pg.testBit 47=true/\Pg.testBit 55=true/\Pg.testBit 63=true:=by decide
theorem low_of {a b c d e f g h:Nat} (ha:a<256) (hb:b<256) (hc:c<256) (hd:d<256) (he:e<256) (hf:f<256) (hg:g<256) (hh:h<256)
  (hz:n8 a b c d e f g h &&& Pg=0):a<128/\b<128/\c<128/\d<128/\e<128/\f<128/\g<128/\h<128:=by
 obtain⟨m0,m1,m2,m3,m4,m5,m6,m7⟩:=dJ;have h0:=Nf hz m0;have h1:=Nf hz m1;have h2:=Nf hz m2;have h3:=Nf hz m3;have h4:=Nf hz m4;have h5:=Nf hz m5;have h6:=Nf hz m6;have h7:=Nf hz m7;simp only [n8,Nat.reducePow] at h0 h1 h2 h3 h4 h5 h6 h7;refine⟨by omega,by omega,by omega,by omega,by omega,by omega,by omega,by omega⟩
theorem Iz {x dif k:Nat} (hx:x<2^64) (hz:(dif &&& (2^64-1-x)) &&& Pg=0) (hm:Pg.testBit k=true) (a:x/2^k%2=0) (hk:k<64):dif/2^k%2=0:=by
 rw [Nat.and_assoc,Nat.and_comm _ Pg,<-Nat.and_assoc] at hz;have h1:(2^64-1-x).testBit k=true:=by
  have:2^64-1-x=2^64-(x+1):=(by omega);rw [this,Nat.testBit_two_pow_sub_succ hx];have h2:=Nat.testBit_eq_decide_div_mod_eq (x:=x) (i:=k);have h3:x.testBit k=false:=(by rw [h2];simp [a]);simp [hk,h3]
 have h4:=Nf hz h1;have h5:=Nat.testBit_eq_decide_div_mod_eq (x:=dif &&& Pg) (i:=k);have h6:(dif &&& Pg).testBit k=false:=by rw [h5];simp [h4]
 rw [Nat.testBit_and,hm,Bool.and_true] at h6;have h7:=Nat.testBit_eq_decide_div_mod_eq (x:=dif) (i:=k);rw [h6] at h7;have:=of_decide_eq_false h7.symm;omega
theorem aH (a b c d e f g h:Nat):n8 a b c d e f g h=a+256*(b+256*(c+256*(d+256*(e+256*(f+256*(g+256*h)))))):=by
 unfold n8;omega
theorem It {a n N M P:Nat} (ha:a<128) (hn:n<=128) (hb:((a+256*N+256*P-(n+256*M))%(256*P))/2^7%2=0) (hM:M<N+P) (hP:0<P):
  n<=a/\((a+256*N+256*P-(n+256*M))%(256*P))/256=(N+P-M)%P:=by
 rw [Nat.mod_mul] at hb ⊢;simp only [Nat.reducePow] at hb;generalize hx:a+256*N+256*P-(n+256*M)=x at hb ⊢;have h1:n<=a:=by omega
 refine⟨h1,?_⟩;have h2:x/256=N+P-M:=by omega
 rw [h2];omega
theorem Vm {n a b c d e f g h:Nat} (hn:n<=128) (ha:a<128) (hb:b<128) (hc:c<128) (hd:d<128) (he:e<128) (hf:f<128) (hg:g<128) (hh:h<128)
  (hz:(((n8 a b c d e f g h+2^64-n8 n n n n n n n n)%2^64) &&& (2^64-1-n8 a b c d e f g h)) &&& Pg=0):
  n<=a/\n<=b/\n<=c/\n<=d/\n<=e/\n<=f/\n<=g/\n<=h:=by
 have hx:n8 a b c d e f g h<2^64:=by simp only [n8,Nat.reducePow];omega
 obtain⟨m0,m1,m2,m3,m4,m5,m6,m7⟩:=dJ;have k0:=Iz hx hz m0 (by simp only [n8,Nat.reducePow];omega) (by omega);have k1:=Iz hx hz m1 (by simp only [n8,Nat.reducePow];omega) (by omega);have k2:=Iz hx hz m2 (by simp only [n8,Nat.reducePow];omega) (by omega);have k3:=Iz hx hz m3 (by simp only [n8,Nat.reducePow];omega) (by omega);have k4:=Iz hx hz m4 (by simp only [n8,Nat.reducePow];omega) (by omega);have k5:=Iz hx hz m5 (by simp only [n8,Nat.reducePow];omega) (by omega);have k6:=Iz hx hz m6 (by simp only [n8,Nat.reducePow];omega) (by omega);have k7:=Iz hx hz m7 (by simp only [n8,Nat.reducePow];omega) (by omega);clear hz hx;rw [aH,aH n] at k0 k1 k2 k3 k4 k5 k6 k7;have split64:(2:Nat)^64=256*2^56:=by decide
 rw [split64] at k0 k1 k2 k3 k4 k5 k6 k7;obtain⟨r0,e0⟩:=It (P:=2^56) ha hn k0 (by simp only [Nat.reducePow];omega) (by decide);have lift:∀{D D' k:Nat},D/256=D'->D/2^(k+8)%2=0->D'/2^k%2=0:=by
  intro D D' k h h';rw [<-h,Nat.div_div_eq_div_mul,show 256*2^k=2^(k+8) by rw [Nat.pow_add,Nat.mul_comm]];exact h'
 have k1:=lift e0 (k:=7) k1;have k2:=lift e0 (k:=15) k2;have k3:=lift e0 (k:=23) k3;have k4:=lift e0 (k:=31) k4;have k5:=lift e0 (k:=39) k5;have k6:=lift e0 (k:=47) k6;have k7:=lift e0 (k:=55) k7;have s1:(2:Nat)^56=256*2^48:=by decide
 rw [s1] at k1 k2 k3 k4 k5 k6 k7;obtain⟨r1,e1⟩:=It (P:=2^48) hb hn k1 (by simp only [Nat.reducePow];omega) (by decide);have k2:=lift e1 (k:=7) k2;have k3:=lift e1 (k:=15) k3;have k4:=lift e1 (k:=23) k4;have k5:=lift e1 (k:=31) k5;have k6:=lift e1 (k:=39) k6;have k7:=lift e1 (k:=47) k7;have s2:(2:Nat)^48=256*2^40:=by decide
 rw [s2] at k2 k3 k4 k5 k6 k7;obtain⟨r2,e2⟩:=It (P:=2^40) hc hn k2 (by simp only [Nat.reducePow];omega) (by decide);have k3:=lift e2 (k:=7) k3;have k4:=lift e2 (k:=15) k4;have k5:=lift e2 (k:=23) k5;have k6:=lift e2 (k:=31) k6;have k7:=lift e2 (k:=39) k7;have s3:(2:Nat)^40=256*2^32:=by decide
 rw [s3] at k3 k4 k5 k6 k7;obtain⟨r3,e3⟩:=It (P:=2^32) hd hn k3 (by simp only [Nat.reducePow];omega) (by decide);have k4:=lift e3 (k:=7) k4;have k5:=lift e3 (k:=15) k5;have k6:=lift e3 (k:=23) k6;have k7:=lift e3 (k:=31) k7;have s4:(2:Nat)^32=256*2^24:=by decide
 rw [s4] at k4 k5 k6 k7;obtain⟨r4,e4⟩:=It (P:=2^24) he hn k4 (by simp only [Nat.reducePow];omega) (by decide);have k5:=lift e4 (k:=7) k5;have k6:=lift e4 (k:=15) k6;have k7:=lift e4 (k:=23) k7;have s5:(2:Nat)^24=256*2^16:=by decide
 rw [s5] at k5 k6 k7;obtain⟨r5,e5⟩:=It (P:=2^16) hf hn k5 (by simp only [Nat.reducePow];omega) (by decide);have k6:=lift e5 (k:=7) k6;have k7:=lift e5 (k:=15) k7;have s6:(2:Nat)^16=256*2^8:=by decide
 rw [s6] at k6 k7;obtain⟨r6,e6⟩:=It (P:=2^8) hg hn k6 (by simp only [Nat.reducePow];omega) (by decide);have k7:=lift e6 (k:=7) k7;clear e0 e1 e2 e3 e4 e5 e6 k0 k1 k2 k3 k4 k5 k6;simp only [Nat.reducePow] at k7;have r7:n<=h:=by omega
 exact⟨r0,r1,r2,r3,r4,r5,r6,r7⟩
theorem Lg (a b m n:Nat) (ha:a<256) (hm:m<256):(a+256*b) ^^^ (m+256*n)=(a ^^^ m)+256*(b ^^^ n):=by
 have c:a ^^^ m<256:=Nat.xor_lt_two_pow (n:=8) ha hm;have e1:a+256*b=2^8*b+a:=by omega
 have e2:m+256*n=2^8*n+m:=by omega
 have e3:(a ^^^ m)+256*(b ^^^ n)=2^8*(b ^^^ n)+(a ^^^ m):=by omega
 rw [e1,e2,e3];apply Nat.eq_of_testBit_eq;intro i;rw [Nat.testBit_xor,Nat.testBit_two_pow_mul_add _ (by omega),Nat.testBit_two_pow_mul_add _ (by omega),Nat.testBit_two_pow_mul_add _ (by omega)];split<;>simp [Nat.testBit_xor]
theorem n8_xor (a b c d e f g h m:Nat) (ha:a<256) (hb:b<256) (hc:c<256) (hd:d<256) (he:e<256) (hf:f<256) (hg:g<256) (hm:m<256):
  n8 a b c d e f g h ^^^ n8 m m m m m m m m=n8 (a ^^^ m) (b ^^^ m) (c ^^^ m) (d ^^^ m) (e ^^^ m) (f ^^^ m) (g ^^^ m) (h ^^^ m):=by
 simp only [aH];rw [Lg _ _ _ _ ha hm,Lg _ _ _ _ hb hm,Lg _ _ _ _ hc hm,Lg _ _ _ _ hd hm,Lg _ _ _ _ he hm,Lg _ _ _ _ hf hm,Lg _ _ _ _ hg hm]
theorem Iu {a m:Nat} (h:1<=a ^^^ m):a≠m:=by
 rintro rfl;simp at h
theorem fH {m a b c d e f g h:Nat} (hm:m<128) (ha:a<128) (hb:b<128) (hc:c<128) (hd:d<128) (he:e<128) (hf:f<128) (hg:g<128) (hh:h<128)
  (hz:((((n8 a b c d e f g h ^^^ n8 m m m m m m m m)+2^64-n8 1 1 1 1 1 1 1 1)%2^64) &&& (2^64-1-(n8 a b c d e f g h ^^^ n8 m m m m m m m m))) &&& Pg=0):
  a≠m/\b≠m/\c≠m/\d≠m/\e≠m/\f≠m/\g≠m/\h≠m:=by
 rw [n8_xor _ _ _ _ _ _ _ _ _ (by omega) (by omega) (by omega) (by omega) (by omega) (by omega) (by omega) (by omega)] at hz;have lt:∀{x:Nat},x<128->x ^^^ m<128:=fun {x} hx=>Nat.xor_lt_two_pow (n:=7) hx hm;obtain⟨h0,h1,h2,h3,h4,h5,h6,h7⟩:=Vm (n:=1) (by omega) (lt ha) (lt hb) (lt hc) (lt hd) (lt he) (lt hf) (lt hg) (lt hh) hz;exact⟨Iu h0,Iu h1,Iu h2,Iu h3,Iu h4,Iu h5,Iu h6,Iu h7⟩
theorem Qb {acc b k:Nat} (h:acc<2^k):acc ||| b*2^k=acc+b*2^k:=by
 have:=Nat.two_pow_add_eq_or_of_lt h b;rw [Nat.or_comm,Nat.mul_comm b,<-this,Nat.add_comm]
end
end Go.Proofs.YtaccphdkapmdhaaGreat
