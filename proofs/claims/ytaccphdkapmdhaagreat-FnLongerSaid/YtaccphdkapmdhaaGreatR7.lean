/- How texts read (the grammar), and the rules by which functions are walked: each rule is shown of the model. No condition. -/
import Derived.Test.YtaccphdkapmdhaaGreatR6
namespace Go.Proofs.YtaccphdkapmdhaaGreat
set_option maxRecDepth 100000
set_option maxHeartbeats 64000000
set_option linter.all false
section
abbrev u8 (c:UInt8):Value:=.int .u8 (c.toNat:Int)
def BA (dc:Array Value) (o:Nat) (l:Bs):Prop:=∀(i:Nat) (c:UInt8),l[i]?=some c->dc[o+i]?=some (u8 c)
theorem BA.head {dc o c l} (h:BA dc o (c::l)):dc[o]?=some (u8 c):=h 0 c rfl
theorem BA.drop {dc o l} (h:BA dc o l) (n:Nat):BA dc (o+n) (l.drop n):=fun i c hc=>by
 rw [List.getElem?_drop] at hc;rw [Nat.add_assoc];exact h (n+i) c hc
structure Es (bd C E:Nat) (dc:Array Value) (v:Value) (l:Bs):Prop where
 ex:∃ad,v=.slice ad l.length (C-(E-l.length))/\Sf bd (E-l.length) (C-(E-l.length)) ad
 le:l.length<=E
 EC:E<=C
 C62:E<=4611686018427387904
 C63:C<=9223372036854775807
 cells:BA dc (E-l.length) l
theorem Es.cons {bd C E dc v c l} (h:Es bd C E dc v (c::l)):v=.slice (some ⟨bd,E-(l.length+1),none⟩) (l.length+1) (C-(E-(l.length+1))):=by
 obtain⟨⟨ad,rfl,hs⟩,a,b,_⟩:=h;simp only [Ya] at *;rw [hs.addr (by omega)]
theorem Es.nil {bd C E dc v} (h:Es bd C E dc v []):∃ad,v=.slice ad 0 (C-E)/\Sf bd E (C-E) ad:=by
 obtain⟨⟨ad,rfl,hs⟩,_⟩:=h;exact⟨ad,rfl,hs⟩
theorem Es.drop {bd C E dc v l} (h:Es bd C E dc v l) (n:Nat) (hn:n<=l.length) {ad':Option Addr} (hs:Sf bd (E-l.length+n) (C-(E-l.length)-n) ad'):
  Es bd C E dc (.slice ad' (l.length-n) (C-(E-l.length)-n)) (l.drop n):=by
 have b:=h.le;have a:=h.EC;have e1:E-l.length+n=E-(l.length-n):=by omega
 have e2:C-(E-l.length)-n=C-(E-(l.length-n)):=by omega
 refine⟨⟨ad',?_,?_⟩,by simp;omega,a,h.C62,h.C63,?_⟩
 ·rw [Yh,e2]
 ·rw [Yh,<-e2,<-e1];exact hs
 ·rw [Yh,<-e1];exact h.cells.drop n
theorem Es.tail {bd C E dc v c l} (h:Es bd C E dc v (c::l)) {ad':Option Addr} (hs:Sf bd (E-(l.length+1)+1) (C-(E-(l.length+1))-1) ad'):
  Es bd C E dc (.slice ad' l.length (C-(E-(l.length+1))-1)) l:=by
 have:=h.drop 1 (by simp) hs;simpa using this
theorem Es.cell {bd C E dc v c l} (h:Es bd C E dc v (c::l)) {w:World} {fz:Nat×Nat} (hD:w.heap[bd]?=some (.cells dc 5 fz)):
  w.cell? ⟨bd,E-(l.length+1),none⟩=some (u8 c):=Ar hD (by have:=h.cells.head;simpa using this)
section
variable {bd C E:Nat} {dc:Array Value} {fz:Nat×Nat}
theorem lS (v:Value) (l:Bs) (w:World) (hv:Es bd C E dc v l) (hD:w.heap[bd]?=some (.cells dc 5 fz)):
  Calls PP 39 #[v] w fun e w'=>∃v',e=.returned v'/\Es bd C E dc v' (Bd l)/\w'=w:=by
 refine Bf (L:=[(0,v)]) Tryz.func39 Z Z Z ⟨Z,V⟩ ?_;repeat first|refine Aa Z ?_|apply Ab|apply Ac|apply Ad|apply Ag
 refine Bg (σ:=Value×Bs) (I:=fun s w'=>w'=w/\Es bd C E dc s.1 s.2/\Bd s.2=Bd l) (m:=fun s=>s.2.length) (Lf:=fun s=>[(0,s.1)]) (v,l) ⟨rfl,hv,rfl⟩ ⟨Z,V⟩ ?_;rintro⟨v1,l1⟩ w1 ⟨rfl,h1,h2⟩;dsimp only at h1 h2 ⊢;cases l1 with
 | nil=>
  obtain⟨ad,rfl,hs⟩:=h1.nil;(repeat first|refine Aa Z ?_|apply Ab|apply Ac|refine Bb Z (by first|with_reducible rfl|exact Bool.not_true) ?_|refine Au Z ?_|apply Ad|apply An|apply Cn|apply Ci|apply Ba|apply Ai|refine Az Z Z (by first|omega|decide) ?_);refine Ak Z Z ⟨_,rfl,?_,rfl⟩;rw [<-h2];exact h1
 | cons c l1=>
  have hc:=h1.cell hD;have hC:=h1.C62;have d:=h1.le;have h:=h1.EC;have a:=h1.cons;subst a;simp only [Ya] at d;by_cases hw:Ji c=true
  ·have b:Bd (c::l1)=Bd l1:=(by simp [Bd,hw]);have f:c.toNat=32∨c.toNat=9:=by
    simpa [Ji] using hw
   rcases f with h3|h3;all_goals
    (repeat first|refine Aa Z ?_|apply Ab|apply Ac|refine Bn Z (by first|with_reducible rfl|exact Bool.not_false) ?_|refine Ao Z (by first|omega|decide) ?_|refine Ax (i:=0) Z Z Z (by omega) Z ?_|refine Aw Z Z hc Z ?_|refine Au Z ?_|apply Ad|apply Am|apply Ag|apply An|apply Af|refine Bc Z Z (by first|omega|decide) ?_|refine Az Z Z (by first|omega|decide) ?_);refine Fw l1.length 1 Z Z (Sf.mk _ _ _) Z (by simp;omega) (by omega) (fun _=>rfl) (fun ad' g=>?_);(repeat first|refine Aa Z ?_|apply Aq|apply Bj);refine Ap (.slice ad' l1.length (C-(E-(l1.length+1))-1),l1) ⟨rfl,h1.tail g,by rw [<-h2,b]⟩ (by simp) ⟨Z,V⟩
  ·have b:Bd (c::l1)=c::l1:=(by simp [Bd,hw]);have hn:¬c.toNat=32/\¬c.toNat=9:=(by simpa [Ji] using hw);obtain⟨j,k⟩:=hn;(repeat first|refine Aa Z ?_|apply Ab|apply Ac|refine Aj Z (by first|omega|decide) ?_|refine Ax (i:=0) Z Z Z (by omega) Z ?_|refine Aw Z Z hc Z ?_|refine Au Z ?_|apply Ad|apply An|apply Cn|apply Ci|apply Ba|apply Ai|refine Bc Z Z (by first|omega|decide) ?_|refine Az Z Z (by first|omega|decide) ?_);refine Ak Z Z ⟨_,rfl,?_,rfl⟩;rw [<-h2,b];exact h1
end
end
section
attribute [local semireducible] WL WC X WD
structure Up (B:Nat) (w w':World):Prop where
 os:w'.os=w.os
 tape:w'.tape=w.tape
 output:w'.output=w.output
 size:w.heap.size<=w'.heap.size
 old:∀(k:Nat),k<B->w'.heap[k]?=w.heap[k]?
theorem Up.refl (B:Nat) (w:World):Up B w w:=⟨rfl,rfl,rfl,Nat.le_refl _,fun _ _=>rfl⟩
theorem Up.trans {B a b c} (h:Up B a b) (g:Up B b c):Up B a c:=⟨g.os.trans h.os,g.tape.trans h.tape,g.output.trans h.output,Nat.le_trans h.size g.size,fun k hk=>(g.old k hk).trans (h.old k hk)⟩
theorem Up.mono {B B' a b} (h:Up B a b) (hB:B'<=B):Up B' a b:=⟨h.os,h.tape,h.output,h.size,fun k hk=>h.old k (by omega)⟩
theorem Up.at {B w w'} (h:Up B w w') {k:Nat} {o:Obj} (hk:k<B) (ho:w.heap[k]?=some o):w'.heap[k]?=some o:=(h.old k hk).trans ho
theorem Up.fm {B B':Nat} {T:List Nat} {w w'} (h:Up B w w') (hB:w.heap.size<=B) (a:B'<=B):Fm B' T w w':=
 ⟨h.os,h.tape,h.output,h.size,fun k hk=>h.old k (by omega),fun k o ho _=>(h.old k (by have:=Ah ho;omega)).trans ho,
  fun k o ho=>⟨o,(h.old k (by have:=Ah ho;omega)).trans ho,rfl⟩⟩
theorem Sm.up {B w w'} (h:Sm w w'):Up B w w':=⟨h.os,h.tape,h.output,by rw [h.heap];exact Nat.le_refl _,fun k _=>by rw [h.heap]⟩
theorem Al.up {B w o w'} (h:Al w o w') (hB:B<=w.heap.size):Up B w w':=⟨h.os,h.tape,h.output,by rw [h.size];omega,fun k hk=>h.oth k (by omega)⟩
theorem St.up {B w b o w'} (h:St w b o w') (hB:B<=b):Up B w w':=⟨h.os,h.tape,h.output,by rw [h.size];exact Nat.le_refl _,fun k hk=>h.oth k (by omega)⟩
theorem Up.of_grown {B w w' row} (h:w.grownBy w' row) (hr:∀k,row=some k->B<=k) (hB:B<=w.heap.size):Up B w w':=
 ⟨h.os,h.tape,h.output,h.size,fun k hk=>h.block k (by omega) (fun e=>by have:=hr k e.symm;omega)⟩
theorem Up.drew {B w w'} (h:Up B w w'):Up B w w'.drew:=⟨h.os,h.tape,h.output,h.size,h.old⟩
theorem Fm.up {B T w w'} (h:Fm B T w w'):Up B w w':=⟨h.os,h.tape,h.output,h.size,h.old⟩
def Fx:Nat->Option (Nat×Nat)
 | 22=>some (29,1)|23=>some (5,1)|24=>some (40,6)|34=>some (9,1)|35=>some (37,4)|48=>some (104,7)|55=>some (145,4)|56=>some (4,1)|57=>some (21,1)
 | 79=>some (73,1)|85=>some (132,6)|127=>some (129,4)|168=>some (3,1)
 | _=>none
noncomputable def gX (t e n:Nat):Bool:=
 (match PP.underlying t with
 | some (.slice e')=>e'==e
 | _=>false) && (match PP.info? e with
 | some i=>i.size==n && Nat.ble i.bytes 128 && Nat.blt 0 n && (match i.zero with|some z=>z.cells.size==n|none=>false)
 | none=>false)
theorem cY:∀t e n,Fx t=some (e,n)->gX t e n=true:=by
 intro t e n h;unfold Fx at h;split at h<;>first
  | (simp only [Yb,Prod.mk.injEq] at h;obtain⟨rfl,rfl⟩:=h;kernel_rfl)
  | (cases h)
theorem Ga {t e n:Nat} (h:Fx t=some (e,n)):
  ∃i z,PP.underlying t=some (.slice e)/\PP.info? e=some i/\i.zero=some z/\i.size=n/\i.bytes<=128/\z.cells.size=n/\0<n:=by
 have:=cY t e n h;unfold gX at this;rw [Bool.and_eq_true] at this;obtain⟨h1,h2⟩:=this;split at h1
 ·rename_i e' hu;have he:e'=e:=(by simpa using h1);subst he;split at h2
  ·rename_i i hi;simp only [Bool.and_eq_true,beq_iff_eq,Nat.ble_eq,Nat.blt_eq] at h2;obtain⟨⟨⟨h3,h4⟩,h5⟩,h6⟩:=h2;split at h6
   ·rename_i z hz;exact⟨i,z,hu,hi,hz,h3,h4,by simpa using h6,h5⟩
   ·cases h6
  ·cases h2
 ·cases h1
section steps
variable {all:List Oper} {Q:Exit->Act->World->Prop} {N:Nat} {L L':Env} {o:Oper} {rest:List Oper} {w:World}
def nR (L:Env) (op:Op):Option (Nat×Value×Value):=
 match op with
 | .call ⟨.builtin .append,⟨[x,y]⟩,⟨[t,t']⟩⟩=>cond (Nat.beq t t') (match ev L x,ev L y with
  | some v,some u=>some (t,v,u)
  | _,_=>none) none
 | _=>none
theorem Gi {N:Nat} {L:Env} {a:Act} {t:Nat} {v u:Value} (hf:Fr N L a) (h:nR L o.op=some (t,v,u)) (w:World):
  (execOp a.eval o).run PP w=((Builtin.append_ #[t,t] o.type #[v,u] >>= fun x=>pure (.value x)):Sem Next).run PP w:=by
 obtain⟨dst,op,ty,Gh,after,guard⟩:=o;simp only at h;unfold nR at h;split at h
 ·rename_i x y t1 t2;cases ht:Nat.beq t1 t2 with
  | false=>simp [ht] at h
  | true=>
   have b:t1=t2:=(by simpa using ht);subst b;simp only [ht,cond_true] at h;split at h
   ·rename_i v' u' hx hy;simp only [Yb,Prod.mk.injEq] at h;obtain⟨rfl,rfl,rfl⟩:=h;simp [execOp,resolve,invoke,builtin,hf.eval hx,hf.eval hy]
   ·cases h
 ·cases h
theorem iZ {B t e s n m c:Nat} {v:Value} {xs:List Value} {ad:Addr} (news:List Value) (hg:Ez all L o=some true) (h:nR L o.op=some (t,v,.slice (some ad) m c))
  (ht:Fx t=some (e,s)) (b:w.ownsRow B e s v n xs) (hl:news.length=m*s) (d:∀j u,news[j]?=some u->w.cell? (ad.add j)=some u) (h1:∀u∈news,Bp u=true)
  (hm:n+m<=1099511627776) (hB:B<=w.heap.size)
  (k:∀v' w',w'.ownsRow B e s v' (n+m) (xs++news)->Up B w w'->w.grownBy w' v.ownBlock->∃L',Cu N o v' L=some L'/\WL all Q N L' rest w'):WL all Q N L (o::rest) w:=by
 obtain⟨i,z,hu,hi,hz,g,l,p,h0⟩:=Ga ht;have f:∀u∈news,u.oneCell'=true:=fun u hu=>by
  have:=h1 u hu;cases u<;>first|rfl|(simp [Bp] at this)
 have q:(n+m)*i.bytes<=140737488355328:=by
  have:=Nat.mul_le_mul hm l;omega
 obtain⟨v',w',hr,h2,h3,h4⟩:=run_append_own (P:=PP) w B t o.type e i z s i.bytes hu hi hz g rfl p h0 v n xs b ad m c news hl d f (by simp only [maxLen];omega) q hB;obtain⟨L',hd,hk⟩:=k v' w' h2 (Up.of_grown h3 (fun k hk=>(b.lt k hk).1) hB) h3;exact Ca hg (fun a hf=>by rw [Gi hf h];simp [hr]) hd hk
def mkA (L:Env) (op:Op):Option (Nat×Int×Int):=
 match op with
 | .makeSlice t x y=>match ev L x,ev L y with
  | some (.int _ l),some (.int _ c)=>some (t,l,c)
  | _,_=>none
 | _=>none
theorem eQ {t e s:Nat} {l c:Int} (ln cn:Nat) (hg:Ez all L o=some true) (h:mkA L o.op=some (t,l,c)) (ht:Fx t=some (e,s)) (hl:l=(ln:Int)) (hc:c=(cn:Int)) (g:ln<=cn) (hm:cn<=1099511627776)
  (hd:Cu N o (.slice (F w.heap.size) ln cn) L=some L')
  (k:∀w' z,z.size=s->(∃i v,PP.info? e=some i/\i.zero=some v/\v.cells=z)->Al w (.cells (madeCells z (cn*s)) e (0,0)) w'->WL all Q N L' rest w'):WL all Q N L (o::rest) w:=by
 obtain⟨i,z,hu,hi,hz,b,d,f,h0⟩:=Ga ht;subst hl hc;refine Ca hg (fun a hf=>?_) hd (k (w.alloc (.cells (madeCells z.cells (cn*s)) e (0,0))) z.cells f ⟨i,z,hi,hz,rfl⟩ (Br w _));obtain⟨dst,op,ty,Gh,after,guard⟩:=o;simp only at h;unfold mkA at h;split at h
 ·rename_i t' x y;split at h
  ·rename_i k1 l' k2 c' hx hy;simp only [Yb,Prod.mk.injEq] at h;obtain⟨rfl,rfl,rfl⟩:=h;have hb:(i.bytes:Int)*(cn:Int)<=281474976710656:=by
    have:=Nat.mul_le_mul d hm;have h2:((i.bytes*cn:Nat):Int)<=281474976710656:=(by omega);rwa [Int.natCast_mul] at h2
   have hr:=run_make (P:=PP) w t' e i z hu hi hz k1 k2 (ln:Int) (cn:Int) (by omega) (by omega) hb (by omega);simp only [Int.toNat_natCast,b] at hr;simp [execOp,hf.eval hx,hf.eval hy,hr]
  ·cases h
 ·cases h
def cpA (L:Env) (op:Op):Option (Nat×Nat×Value×Value):=
 match op with
 | .call ⟨.builtin .copy,⟨[x,y]⟩,⟨[t,t']⟩⟩=>match ev L x,ev L y with
  | some v,some u=>some (t,t',v,u)
  | _,_=>none
 | _=>none
theorem WL.cp {g dl dc n c:Nat} {ad:Addr} {cur:Array Value} (cs:List Value) (hg:Ez all L o=some true) (h:cpA L o.op=some (23,23,.slice (F g) dl dc,.slice (some ad) n c))
  (b:w.heap[g]?=some (.cells cur 5 (0,0))) (hn:cs.length=Nat.min n dl) (e:∀j u,cs[j]?=some u->w.cell? (ad.add j)=some u) (l:cs.length<=cur.size) (h1:∀u∈cs,Bp u=true)
  (hd:Cu N o (.int .i64 (cs.length:Int)) L=some L')
  (k:∀w',St w g (.cells (cs++cur.toList.drop cs.length).toArray 5 (0,0)) w'->WL all Q N L' rest w'):WL all Q N L (o::rest) w:=by
 obtain⟨i,z,hu,hi,hz,f,m,p,h0⟩:=Ga (t:=23) rfl;have d:∀u∈cs,u.oneCell'=true:=fun u hu=>by
  have:=h1 u hu;cases u<;>first|rfl|(simp [Bp] at this)
 have hr:=fun ty=>run_copy_row (P:=PP) w 23 23 ty 5 g 0 dl dc ad n c cur 5 cs hu (by rw [hi];simp [f]) b hn e (by omega) d;simp only [List.take_zero,List.nil_append,Yi] at hr;refine Ca (w':=w.setRow g (cs++cur.toList.drop cs.length).toArray) hg (fun a hf=>?_) hd (k _ ⟨rfl,rfl,rfl,by simp,setRow_heap w g cur _ 5 (0,0) b,fun k hk=>setRow_other w g k _ hk⟩);obtain⟨dst,op,ty,Gh,after,guard⟩:=o;simp only at h;unfold cpA at h;split at h
 ·rename_i x y t1 t2;split at h
  ·rename_i v' u' hx hy;simp only [Yb,Prod.mk.injEq] at h;obtain⟨rfl,rfl,rfl,rfl⟩:=h;simp [execOp,resolve,invoke,builtin,hf.eval hx,hf.eval hy,hr,goInt]
  ·cases h
 ·cases h
end steps
def Ob (B:Nat) (w:World) (v:Value) (l:Bs):Prop:=w.ownsRow B 5 1 v l.length (l.map u8)
theorem Ob.up {B B' w w' v l} (h:Ob B w v l) (hu:Up B' w w') (hv:∀k,v.ownBlock=some k->k<B'):Ob B w' v l:=by
 refine⟨h.1,?_⟩;rcases h.2 with hn|⟨g,cap,cur,rfl,hb,a,rest⟩
 ·exact .inl hn
 ·exact .inr ⟨g,cap,cur,rfl,hb,hu.at (hv g rfl) a,rest⟩
theorem Ob.upS {B w w' v l} (h:Ob B w v l) (hu:Up w.heap.size w w'):Ob B w' v l:=h.up hu fun k hk=>(World.ownsRow.lt h k hk).2
theorem Ob.lit {B w w' n} {l:Bs} {cs:Array Value} (h:Al w (.cells cs 5 (0,0)) w') (a:cs=(l.map u8).toArray) (hn:l.length=n) (hB:B<=w.heap.size) (hm:n<=1099511627776):Ob B w' (.slice (F w.heap.size) n n) l:=by
 subst a hn;refine⟨by simp,.inr ⟨w.heap.size,l.length,(l.map u8).toArray,rfl,hB,h.at_,Nat.le_refl _,by simp only [maxLen];omega,by simp,by simp [List.take_of_length_le]⟩⟩
theorem Ob.slice {B w v l} (h:Ob B w v l):∃ad cap,v=.slice ad l.length cap/\l.length<=cap:=by
 rcases h.2 with ⟨rfl,hn⟩|⟨g,cap,cur,rfl,hb,hg,hc,_⟩
 ·exact⟨none,0,by rw [hn],by omega⟩
 ·exact⟨_,cap,rfl,hc⟩
theorem bs1 (a:Int) (w:World):(Instr.buildSlice 23 1 ⟨[(0,.int .u8 a)]⟩).run PP w=.ok (.slice (F w.heap.size) 1 1) (w.alloc (.cells #[.int .u8 a] 5 (0,0))):=by kernel_rfl
theorem bs2 (a b:Int) (w:World):(Instr.buildSlice 23 2 ⟨[(0,.int .u8 a),(1,.int .u8 b)]⟩).run PP w=.ok (.slice (F w.heap.size) 2 2) (w.alloc (.cells #[.int .u8 a,.int .u8 b] 5 (0,0))):=by kernel_rfl
theorem bs3 (a b c:Int) (w:World):(Instr.buildSlice 23 3 ⟨[(0,.int .u8 a),(1,.int .u8 b),(2,.int .u8 c)]⟩).run PP w=.ok (.slice (F w.heap.size) 3 3) (w.alloc (.cells #[.int .u8 a,.int .u8 b,.int .u8 c] 5 (0,0))):=by kernel_rfl
theorem bs4 (a b c d:Int) (w:World):(Instr.buildSlice 23 4 ⟨[(0,.int .u8 a),(1,.int .u8 b),(2,.int .u8 c),(3,.int .u8 d)]⟩).run PP w=.ok (.slice (F w.heap.size) 4 4) (w.alloc (.cells #[.int .u8 a,.int .u8 b,.int .u8 c,.int .u8 d] 5 (0,0))):=by kernel_rfl
section
variable {all:List Oper} {Q:Exit->Act->World->Prop} {N:Nat} {L L':Env} {o:Oper} {rest:List Oper} {w:World}
theorem Xf {B m c:Nat} {v:Value} {l:Bs} {ad:Addr} (l':Bs) (hg:Ez all L o=some true) (h:nR L o.op=some (23,v,.slice (some ad) m c)) (b:Ob B w v l) (hl:l'.length=m)
  (a:∀j x,l'[j]?=some x->w.cell? (ad.add j)=some (u8 x)) (hm:l.length+m<=1099511627776) (hB:B<=w.heap.size)
  (k:∀v' w',Ob B w' v' (l++l')->Up B w w'->∃L',Cu N o v' L=some L'/\WL all Q N L' rest w'):WL all Q N L (o::rest) w:=by
 subst hl;refine iZ (l'.map u8) hg h (rfl:Fx 23=some (5,1)) b (by simp) (fun j u hu=>?_) (fun u hu=>?_) hm hB (fun v' w' h1 h2 _=>k v' w' ?_ h2)
 ·rw [List.getElem?_map] at hu;cases hx:l'[j]? with
  | none=>simp [hx] at hu
  | some x=>
   simp only [hx,Option.map_some,Yb] at hu;subst hu;exact a j x hx
 ·obtain⟨x,_,rfl⟩:=List.mem_map.1 hu;rfl
 ·unfold Ob;rw [Ye,List.map_append];exact h1
theorem Dw (b j:Nat):(⟨b,0,none⟩:Addr).add j=⟨b,j,none⟩:=by rw [Ij];simp
theorem Kb {B:Nat} {m c b:Nat} {v:Value} {l:Bs} {cs:Array Value} (l':Bs) (hg:Ez all L o=some true) (h:nR L o.op=some (23,v,.slice (F b) m c)) (a:Ob B w v l) (hl:l'.length=m)
  (hb:w.heap[b]?=some (.cells cs 5 (0,0))) (hc:cs=(l'.map u8).toArray) (hm:l.length+m<=1099511627776) (hB:B<=w.heap.size)
  (k:∀v' w',Ob B w' v' (l++l')->Up B w w'->∃L',Cu N o v' L=some L'/\WL all Q N L' rest w'):WL all Q N L (o::rest) w:=by
 refine Xf l' hg h a hl (fun j x hx=>?_) hm hB k;rw [Dw];exact Ar hb (by rw [hc];simp [hx])
theorem iY {bop kd x y} {m:Int} (hg:Ez all L o=some true) (h:cA L o.op=some (bop,kd,x,y)) (hw:kd.wrap (Te bop x y)=m) (hd:Cu N o (.int kd m) L=some L') (k:WL all Q N L' rest w):WL all Q N L (o::rest) w:=by
 subst hw;exact WL.aw hg h hd k
theorem Oo {x y:Int} (hg:Ez all L o=some true) (h:cA L o.op=some (.sub,.u8,x,y)) (hb:0<=x-y/\x-y<=255) (hd:Cu N o (.int .u8 (x-y)) L=some L') (k:WL all Q N L' rest w):WL all Q N L (o::rest) w:=
 iY hg h (Ls hb) hd k
theorem Qp {x y:Int} (hg:Ez all L o=some true) (h:cA L o.op=some (.add,.u32,x,y)) (hb:0<=x+y/\x+y<=4294967295) (hd:Cu N o (.int .u32 (x+y)) L=some L') (k:WL all Q N L' rest w):WL all Q N L (o::rest) w:=
 iY hg h (Hl hb) hd k
theorem Zq {kd:IntKind} {n m:Int} (hg:Ez all L o=some true) (h:cvA L o.op=some (kd,n)) (hw:kd.wrap n=m) (hd:Cu N o (.int kd m) L=some L') (k:WL all Q N L' rest w):WL all Q N L (o::rest) w:=by
 subst hw;exact WL.cw hg h hd k
end
theorem or8 {a b c:Nat} (ha:a<256) (hb:b<256) (hc:a ||| b=c) (t:Nat) (w:World):(binOp .or t (.int .u8 (a:Int)) (.int .u8 (b:Int))).run PP w=.ok (.int .u8 (c:Int)) w:=by
 subst hc;have h:(BitVec.ofInt 8 (a:Int) ||| BitVec.ofInt 8 (b:Int)).toNat=a ||| b:=by
  rw [show BitVec.ofInt 8 (a:Int)=BitVec.ofNat 8 a by simp,show BitVec.ofInt 8 (b:Int)=BitVec.ofNat 8 b by simp,BitVec.toNat_or,BitVec.toNat_ofNat,BitVec.toNat_ofNat,Nat.mod_eq_of_lt ha,Nat.mod_eq_of_lt hb]
 have hl:a ||| b<2^8:=Nat.or_lt_two_pow ha hb;show (Op.intBits .or .u8 (a:Int) (b:Int)).run PP w=_;unfold Op.intBits;simp only [Sem.run_pure];rw [show (BitVec.ofInt IntKind.u8.bits (a:Int) ||| BitVec.ofInt IntKind.u8.bits (b:Int)).toNat=a ||| b from h,Ls (by omega)]
theorem or32 {a b c:Nat} (ha:a<4294967296) (hb:b<4294967296) (hc:a ||| b=c) (t:Nat) (w:World):(binOp .or t (.int .u32 (a:Int)) (.int .u32 (b:Int))).run PP w=.ok (.int .u32 (c:Int)) w:=by
 subst hc;have h:(BitVec.ofInt 32 (a:Int) ||| BitVec.ofInt 32 (b:Int)).toNat=a ||| b:=by
  rw [show BitVec.ofInt 32 (a:Int)=BitVec.ofNat 32 a by simp,show BitVec.ofInt 32 (b:Int)=BitVec.ofNat 32 b by simp,BitVec.toNat_or,BitVec.toNat_ofNat,BitVec.toNat_ofNat,Nat.mod_eq_of_lt ha,Nat.mod_eq_of_lt hb]
 have hl:a ||| b<2^32:=Nat.or_lt_two_pow ha hb;show (Op.intBits .or .u32 (a:Int) (b:Int)).run PP w=_;unfold Op.intBits;simp only [Sem.run_pure];rw [show (BitVec.ofInt IntKind.u32.bits (a:Int) ||| BitVec.ofInt IntKind.u32.bits (b:Int)).toNat=a ||| b from h,Hl (by omega)]
theorem shl32 {a n:Nat} (h:a*2^n<4294967296) (hn:n<32) (t:Nat) (w:World):(binOp .shl t (.int .u32 (a:Int)) (.int .u64 (n:Int))).run PP w=.ok (.int .u32 ((a*2^n:Nat):Int)) w:=by
 show (Op.shift .shl .u32 (a:Int) .u64 (n:Int)).run PP w=_;unfold Op.shift;rw [if_neg (by omega)];have hm:min (n:Int).toNat IntKind.u32.bits=n:=by simp [IntKind.bits];omega
 simp only [hm,Sem.run_pure];have:(a:Int)*2^n=((a*2^n:Nat):Int):=by simp
 rw [this,Hl (by omega)]
theorem Yl (a n:Nat) (hn:n<32) (t:Nat) (w:World):(binOp .shr t (.int .i32 (a:Int)) (.int .u64 (n:Int))).run PP w=.ok (.int .i32 ((a/2^n:Nat):Int)) w:=by
 show (Op.shift .shr .i32 (a:Int) .u64 (n:Int)).run PP w=_;unfold Op.shift;rw [if_neg (by omega)];have hm:min (n:Int).toNat IntKind.i32.bits=n:=by simp [IntKind.bits];omega
 simp only [hm,Sem.run_pure];congr 2;rw [show (2:Int)^n=((2^n:Nat):Int) by simp,Int.fdiv_eq_ediv_of_nonneg _ (Int.natCast_nonneg _),Int.natCast_ediv]
end
end Go.Proofs.YtaccphdkapmdhaaGreat
