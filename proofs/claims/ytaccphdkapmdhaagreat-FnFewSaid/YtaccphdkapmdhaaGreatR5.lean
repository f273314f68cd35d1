/- How texts read (the grammar), and the rules by which functions are walked: each rule is shown of the model. No condition. -/
import Derived.Test.YtaccphdkapmdhaaGreatR2
namespace Go.Proofs.YtaccphdkapmdhaaGreat
set_option maxRecDepth 100000
set_option maxHeartbeats 64000000
set_option linter.all false
section
theorem nD:∃ms,PP.underlying 50=some (.interface ms)/\ms.isEmpty=false:=by
 have key:(match PP.underlying 50 with|some (.interface ms)=>!ms.isEmpty|_=>false)=true:=by kernel_rfl
 split at key
 ·rename_i ms h;exact⟨ms,h,by simpa using key⟩
 ·simp at key
theorem ptr63_u:PP.underlying 63=some (.pointer 104):=by kernel_rfl
theorem ptr73_u:PP.underlying 73=some (.pointer 81):=by kernel_rfl
theorem mC:PP.underlying 105=some (.pointer 108):=by kernel_rfl
theorem mB:PP.underlying 153=some (.pointer 155):=by kernel_rfl
theorem ba_eq (a b:ByteArray):(a.toList==b.toList)=decide (a=b):=by
 rw [Bool.eq_iff_iff];simp only [beq_iff_eq,decide_eq_true_eq];constructor
 ·intro h;rw [ByteArray.toList_eq,ByteArray.toList_eq] at h;cases a;cases b;simp only [ByteArray.mk.injEq];exact Array.toList_inj.1 h
 ·rintro rfl;rfl
theorem cmp_int (op:BinOp) (t:TypeId) (k k':IntKind) (a b:Int) (v:Value) (h:Km op (.int k a) (.int k' b)=some v) (w:World):
  (binOp op t (.int k a) (.int k' b)).run PP w=.ok v w:=by
 simp only [Km] at h;by_cases hk:k=k'
 ·subst hk;simp only [decide_true,cond_true] at h;cases op<;>simp only [Yb] at h<;>first
   | (cases h;done)
   | (subst h;simp [binOp,Op.intCmp,dc_eq];try rfl)
 ·simp [hk] at h
theorem cmp_str (op:BinOp) (t:TypeId) (a b:ByteArray) (v:Value) (h:Km op (.string a) (.string b)=some v) (w:World):
  (binOp op t (.string a) (.string b)).run PP w=.ok v w:=by
 simp only [Km] at h;cases op<;>simp only [Yb] at h<;>first
  | (cases h;done)
  | (subst h;simp only [binOp,Op.stringOp,Sem.run_pure,ba_eq,dc_eq];try (congr 2;by_cases e:a=b<;>simp [e]))
theorem Lz (op:BinOp) (x y:Operand) (k k':IntKind) (a b:Int) (t:TypeId) (w:World):(eqGuard op t x y (.int k a) (.int k' b)).run PP w=.ok () w:=by
 unfold eqGuard;cases op<;>rfl
theorem Oi (op:BinOp) (x y:Operand) (a b:ByteArray) (t:TypeId) (w:World):(eqGuard op t x y (.string a) (.string b)).run PP w=.ok () w:=by
 unfold eqGuard;cases op<;>rfl
theorem dY (op:BinOp) (x y:Operand) (a b:Option Addr) (t:TypeId) (w:World):(eqGuard op t x y (.pointer a) (.pointer b)).run PP w=.ok () w:=by
 unfold eqGuard;cases op<;>rfl
theorem gB (op:BinOp) (x y:Operand) (e:TypeId) (v:Value) (t:TypeId) (w:World):(eqGuard op t x y (.iface e v) .nilIface).run PP w=.ok () w:=by
 unfold eqGuard;cases op<;>rfl
theorem gA (op:BinOp) (x y:Operand) (e:TypeId) (v:Value) (t:TypeId) (w:World):(eqGuard op t x y .nilIface (.iface e v)).run PP w=.ok () w:=by
 unfold eqGuard;cases op<;>rfl
theorem fZ (op:BinOp) (x y:Operand) (t:TypeId) (h:Kr x=true∨Kr y=true) (w:World):(eqGuard op t x y .nilIface .nilIface).run PP w=.ok () w:=by
 rcases h with h|h
 ·cases x<;>first|(simp [Kr] at h;done)|(unfold eqGuard;cases op<;>rfl)
 ·cases y<;>first|(simp [Kr] at h;done)|(cases x<;>(unfold eqGuard;cases op<;>rfl))
theorem fW (d:Nat) (w:World):(Op.equalIn (d+1) 50 .nilIface .nilIface).run PP w=.ok true w:=by
 obtain⟨ms,hu,_⟩:=nD;simp only [Op.equalIn,Sem.run_bind,run_underlying hu,Result.andThen_ok,Sem.run_pure]
theorem fY (d:Nat) (e:TypeId) (v:Value) (w:World):(Op.equalIn (d+1) 50 (.iface e v) .nilIface).run PP w=.ok false w:=by
 obtain⟨ms,hu,_⟩:=nD;simp only [Op.equalIn,Sem.run_bind,run_underlying hu,Result.andThen_ok,Sem.run_pure]
theorem fX (d:Nat) (e:TypeId) (v:Value) (w:World):(Op.equalIn (d+1) 50 .nilIface (.iface e v)).run PP w=.ok false w:=by
 obtain⟨ms,hu,_⟩:=nD;simp only [Op.equalIn,Sem.run_bind,run_underlying hu,Result.andThen_ok,Sem.run_pure]
theorem fV (d:Nat) {t e:TypeId} (hu:PP.underlying t=some (.pointer e)) (a:Addr) (w:World):(Op.equalIn (d+1) t (.pointer (some a)) (.pointer none)).run PP w=.ok false w:=by
 simp only [Op.equalIn,Sem.run_bind,run_underlying hu,Result.andThen_ok,Sem.run_pure]
theorem fU (d:Nat) {t e:TypeId} (hu:PP.underlying t=some (.pointer e)) (w:World):(Op.equalIn (d+1) t (.pointer none) (.pointer none)).run PP w=.ok true w:=by
 simp only [Op.equalIn,Sem.run_bind,run_underlying hu,Result.andThen_ok,Sem.run_pure,Option.isNone_none]
theorem Jo {op:BinOp} {t:TypeId} {a b:Value} {r:Bool} {v:Value} {w:World} (he:(Op.equal t a b).run PP w=.ok r w)
  (h:(op=.eql/\v=.bool r)∨(op=.neq/\v=.bool (!r))) (c:binOp .eql t a b=(do pure (.bool (<-Op.equal t a b)))) (d:binOp .neq t a b=(do pure (.bool (!(<-Op.equal t a b))))):
  (binOp op t a b).run PP w=.ok v w:=by
 rcases h with ⟨rfl,rfl⟩|⟨rfl,rfl⟩
 ·rw [c];simp only [Sem.run_bind,he,Result.andThen_ok,Sem.run_pure]
 ·rw [d];simp only [Sem.run_bind,he,Result.andThen_ok,Sem.run_pure]
theorem cmpE_nn {op:BinOp} {v:Value} (h:Km op .nilIface .nilIface=some v):(op=.eql/\v=.bool true)∨(op=.neq/\v=.bool (!true)):=by
 cases op<;>simp [Km] at h<;>simp [h]
theorem cmpE_in {op:BinOp} {v u:Value} {e:TypeId} (h:Km op (.iface e u) .nilIface=some v):(op=.eql/\v=.bool false)∨(op=.neq/\v=.bool (!false)):=by
 cases op<;>simp [Km] at h<;>simp [h]
theorem cmpE_ni {op:BinOp} {v u:Value} {e:TypeId} (h:Km op .nilIface (.iface e u)=some v):(op=.eql/\v=.bool false)∨(op=.neq/\v=.bool (!false)):=by
 cases op<;>simp [Km] at h<;>simp [h]
theorem cmpE_pn {op:BinOp} {v:Value} {a:Addr} (h:Km op (.pointer (some a)) (.pointer none)=some v):(op=.eql/\v=.bool false)∨(op=.neq/\v=.bool (!false)):=by
 cases op<;>simp [Km] at h<;>simp [h]
theorem cmpE_pp {op:BinOp} {v:Value} (h:Km op (.pointer none) (.pointer none)=some v):(op=.eql/\v=.bool true)∨(op=.neq/\v=.bool (!true)):=by
 cases op<;>simp [Km] at h<;>simp [h]
theorem Iy {t:TypeId} {a b:Value} {r:Bool} {w:World} (h:(Op.equalIn (9999+1) t a b).run PP w=.ok r w):(Op.equal t a b).run PP w=.ok r w:=h
theorem Sl {N:Nat} {L:Env} {a:Act} {o:Oper} {v:Value} (hf:Fr N L a) (h:mA L o.op=some v) (w:World):
  (execOp a.eval o).run PP w=.ok (.value v) w:=by
 obtain⟨dst,op,ty,Gh,after,guard⟩:=o;simp only at h;unfold mA at h;split at h
 ·
  rename_i x;simp [execOp,hf.eval h]
 ·rename_i x;simp [execOp,hf.eval h]
 ·rename_i c x y;split at h
  ·rename_i hc;simp [execOp,hf.eval hc,asBool,hf.eval h]
  ·rename_i hc;simp [execOp,hf.eval hc,asBool,hf.eval h]
  ·cases h
 ·
  rename_i x t;split at h
  ·rename_i p n c hx;cases ht:Vr t with
   | false=>simp [ht] at h
   | true=>
    obtain⟨e,he⟩:=aJ t ht;simp only [ht,cond_true,Yb] at h;subst h;simp [execOp,resolve,invoke,builtin,Builtin.len_,hf.eval hx,run_underlying he,goInt]
  ·rename_i s hx;cases ht:Nat.beq t 9 with
   | false=>simp [ht] at h
   | true=>
    have:t=9:=(by simpa using ht);subst this;simp only [ht,cond_true,Yb] at h;subst h;simp [execOp,resolve,invoke,builtin,Builtin.len_,hf.eval hx,run_underlying Ek,goInt]
  ·cases h
 ·rename_i x t;split at h
  ·rename_i p n c hx;cases ht:Vr t with
   | false=>simp [ht] at h
   | true=>
    obtain⟨e,he⟩:=aJ t ht;simp only [ht,cond_true,Yb] at h;subst h;simp [execOp,resolve,invoke,builtin,Builtin.cap_,hf.eval hx,run_underlying he,goInt]
  ·cases h
 ·
  rename_i x;split at h
  ·rename_i ad hx;simp only [Yb] at h;subst h;simp [execOp,hf.eval hx]
  ·cases h
 ·
  rename_i s x f;split at h
  ·rename_i b i hx;split at h
   ·rename_i n hn;simp only [Yb] at h;subst h;simp [execOp,hf.eval hx,dV hn,Ij]
   ·cases h
  ·cases h
 ·
  rename_i x i;split at h
  ·rename_i vs hx;simp [execOp,hf.eval hx,Instr.extract,h]
  ·cases h
 ·rename_i t x;split at h
  ·rename_i b hx;simp only [Yb] at h;subst h;simp [execOp,hf.eval hx,Op.unary]
  ·cases h
 ·
  rename_i bop t x y t2;split at h
  ·rename_i hx hy;cases ht:Nat.beq t 50 with
   | false=>simp [ht] at h
   | true=>
    have:t=50:=(by simpa using ht);subst this;have g:Kr x=true∨Kr y=true:=by
     cases h1:Kr x<;>cases h2:Kr y<;>simp [h1,h2] at h ⊢
    have h':Km bop .nilIface .nilIface=some v:=by
     cases h1:Kr x<;>cases h2:Kr y<;>simp [h1,h2] at h<;>exact h
    simp only [execOp,hf.eval hx,hf.eval hy,Sem.run_bind,fZ bop x y 50 g,Result.andThen_ok,Jo (Iy (fW 9999 w)) (cmpE_nn h') Z Z,Sem.run_pure]
  ·rename_i ty' vv hx hy;cases ht:Nat.beq t 50 with
   | false=>simp [ht] at h
   | true=>
    have:t=50:=(by simpa using ht);subst this;simp only [ht,cond_true] at h;simp only [execOp,hf.eval hx,hf.eval hy,Sem.run_bind,gB,Result.andThen_ok,Jo (Iy (fY 9999 ty' vv w)) (cmpE_in h) Z Z,Sem.run_pure]
  ·rename_i ty' vv hx hy;cases ht:Nat.beq t 50 with
   | false=>simp [ht] at h
   | true=>
    have:t=50:=(by simpa using ht);subst this;simp only [ht,cond_true] at h;simp only [execOp,hf.eval hx,hf.eval hy,Sem.run_bind,gA,Result.andThen_ok,Jo (Iy (fX 9999 ty' vv w)) (cmpE_ni h) Z Z,Sem.run_pure]
  ·rename_i p q hx hy;have hu:∃e,PP.underlying t=some (.pointer e)/\Km bop (.pointer p) (.pointer q)=some v:=by
    cases ht:Nat.beq t 63 with
    | true=>have:t=63:=(by simpa using ht);subst this;exact⟨_,ptr63_u,by simpa using h⟩
    | false=>
     cases d:Nat.beq t 73 with
     | true=>have:t=73:=(by simpa using d);subst this;exact⟨_,ptr73_u,by simpa using h⟩
     | false=>simp [ht,d] at h
   obtain⟨e,hu,h⟩:=hu;simp only [execOp,hf.eval hx,hf.eval hy,Sem.run_bind,dY,Result.andThen_ok];cases p with
   | none=>
    cases q with
    | none=>simp only [Jo (Iy (fU 9999 hu w)) (cmpE_pp h) Z Z,Result.andThen_ok,Sem.run_pure]
    | some q=>simp [Km] at h
   | some p=>
    cases q with
    | none=>simp only [Jo (Iy (fV 9999 hu p w)) (cmpE_pn h) Z Z,Result.andThen_ok,Sem.run_pure]
    | some q=>simp [Km] at h
  ·rename_i k x' k' y' hx hy;simp only [execOp,hf.eval hx,hf.eval hy,Sem.run_bind,Lz,Result.andThen_ok,cmp_int _ _ _ _ _ _ _ h,Sem.run_pure]
  ·rename_i x' y' hx hy;simp only [execOp,hf.eval hx,hf.eval hy,Sem.run_bind,Oi,Result.andThen_ok,cmp_str _ _ _ _ _ h,Sem.run_pure]
  ·cases h
 ·
  rename_i f cs;split at h
  ·rename_i vs j;simp only [Yb] at h;subst h;have:=hf.evals j;simp [execOp,Instr.makeFunc,this]
  ·cases h
 ·rename_i t x;split at h
  ·rename_i vv hx;cases ht:Nat.beq t 105 with
   | true=>
    have:t=105:=(by simpa using ht);subst this;simp only [ht,cond_true,Yb] at h;subst h;simp [execOp,Instr.makeInterface,hf.eval hx,run_underlying mC]
   | false=>
    cases d:Nat.beq t 153 with
    | true=>
     have:t=153:=(by simpa using d);subst this;simp only [ht,d,cond_true,cond_false,Yb] at h;subst h;simp [execOp,Instr.makeInterface,hf.eval hx,run_underlying mB]
    | false=>simp [ht,d] at h
  ·cases h
 ·cases h
end
section
def Ce:Obj->Nat
 | .cells _ t _=>t
 | .map _ _=>1000
 | .stringIter _ _=>1001
 | _=>1002
structure Fm (B:Nat) (T:List Nat) (w w':World):Prop where
 os:w'.os=w.os
 tape:w'.tape=w.tape
 output:w'.output=w.output
 size:w.heap.size<=w'.heap.size
 old:∀(k:Nat),k<B->w'.heap[k]?=w.heap[k]?
 keep:∀(k:Nat) (o:Obj),w.heap[k]?=some o->Ce o∉T->w'.heap[k]?=some o
 tags:∀(k:Nat) (o:Obj),w.heap[k]?=some o->∃o':Obj,w'.heap[k]?=some o'/\Ce o'=Ce o
theorem Fm.refl (B:Nat) (T:List Nat) (w:World):Fm B T w w:=⟨rfl,rfl,rfl,Nat.le_refl _,fun _ _=>rfl,fun _ _ h _=>h,fun _ o h=>⟨o,h,rfl⟩⟩
theorem Fm.trans {B T w1 w2 w3} (h:Fm B T w1 w2) (g:Fm B T w2 w3):Fm B T w1 w3:=
 ⟨g.os.trans h.os,g.tape.trans h.tape,g.output.trans h.output,Nat.le_trans h.size g.size,fun k hk=>(g.old k hk).trans (h.old k hk),
  fun k o ho ht=>g.keep k o (h.keep k o ho ht) ht,
  fun k o ho=>let ⟨o',h1,h2⟩:=h.tags k o ho;let ⟨o'',h3,h4⟩:=g.tags k o' h1;⟨o'',h3,h4.trans h2⟩⟩
theorem Fm.mono {B B' T T' w w'} (h:Fm B T w w') (hB:B'<=B) (hT:∀t,t∈T->t∈T'):Fm B' T' w w':=
 ⟨h.os,h.tape,h.output,h.size,fun k hk=>h.old k (by omega),fun k o ho ht=>h.keep k o ho (fun h'=>ht (hT _ h')),h.tags⟩
theorem Fm.drew {B T w w'} (h:Fm B T w w'):Fm B T w w'.drew:=⟨h.os,h.tape,h.output,h.size,h.old,h.keep,h.tags⟩
theorem Fm.of_drew {B T w w'} (h:Fm B T w.drew w'):Fm B T w w':=⟨h.os,h.tape,h.output,h.size,h.old,h.keep,h.tags⟩
structure St (w:World) (b:Nat) (o:Obj) (w':World):Prop where
 os:w'.os=w.os
 tape:w'.tape=w.tape
 output:w'.output=w.output
 size:w'.heap.size=w.heap.size
 at_:w'.heap[b]?=some o
 oth:∀(k:Nat),k≠b->w'.heap[k]?=w.heap[k]?
structure Al (w:World) (o:Obj) (w':World):Prop where
 os:w'.os=w.os
 tape:w'.tape=w.tape
 output:w'.output=w.output
 size:w'.heap.size=w.heap.size+1
 at_:w'.heap[w.heap.size]?=some o
 oth:∀(k:Nat),k<w.heap.size->w'.heap[k]?=w.heap[k]?
theorem Ah {w:World} {k:Nat} {o:Obj} (h:w.heap[k]?=some o):k<w.heap.size:=(Array.getElem?_eq_some_iff.1 h).1
theorem St.fm {B T w b o o0 w'} (h:St w b o w') (h0:w.heap[b]?=some o0) (hB:B<=b) (ht:Ce o0∈T) (a:Ce o=Ce o0):Fm B T w w':=
 ⟨h.os,h.tape,h.output,by rw [h.size];exact Nat.le_refl _,fun k hk=>h.oth k (by omega),
  fun k o' ho hn=>by
   by_cases e:k=b
   ·subst e;rw [h0] at ho;cases ho;exact absurd ht hn
   ·rw [h.oth k e];exact ho,
  fun k o' ho=>by
   by_cases e:k=b
   ·subst e;rw [h0] at ho;cases ho;exact⟨o,h.at_,a⟩
   ·exact⟨o',by rw [h.oth k e];exact ho,rfl⟩⟩
theorem Al.fm {B T w o w'} (h:Al w o w') (hB:B<=w.heap.size):Fm B T w w':=
 ⟨h.os,h.tape,h.output,by rw [h.size];omega,fun k hk=>h.oth k (by omega),
  fun k o' ho _=>by rw [h.oth k (Ah ho)];exact ho,
  fun k o' ho=>⟨o',by rw [h.oth k (Ah ho)];exact ho,rfl⟩⟩
theorem Al.keep {w o w'} (h:Al w o w') {k:Nat} {o':Obj} (ho:w.heap[k]?=some o'):w'.heap[k]?=some o':=by
 rw [h.oth k (Ah ho)];exact ho
theorem St.keep {w b o w'} (h:St w b o w') {k:Nat} {o':Obj} (ho:w.heap[k]?=some o') (a:k≠b):w'.heap[k]?=some o':=by
 rw [h.oth k a];exact ho
theorem Ar {w:World} {b i:Nat} {c:Array Value} {t:TypeId} {fz:Nat×Nat} {v:Value} (hb:w.heap[b]?=some (.cells c t fz)) (hi:c[i]?=some v):
  w.cell? ⟨b,i,none⟩=some v:=by
 simp [World.cell?,hb,hi]
theorem Ev {w:World} {b i:Nat} {c:Array Value} {t:TypeId} {fz:Nat×Nat} (v:Value) (hb:w.heap[b]?=some (.cells c t fz)):
  St w b (.cells (c.setIfInBounds i v) t fz) (w.setCell ⟨b,i,none⟩ v):=by
 refine⟨rfl,rfl,rfl,by simp,?_,?_⟩
 ·simp [World.setCell,Array.getElem?_modify,hb]
 ·intro k hk;simp only [World.setCell,Array.getElem?_modify];rw [if_neg (fun e=>hk e.symm)]
theorem Br (w:World) (o:Obj):Al w o (w.alloc o):=
 ⟨rfl,rfl,rfl,by simp,by show (w.heap.push o)[w.heap.size]?=_;simp,fun k hk=>by
  show (w.heap.push o)[k]?=_;rw [Array.getElem?_push,if_neg (by omega)]⟩
def WL (all:List Oper) (Q:Exit->Act->World->Prop) (N:Nat) (L:Env) (l:List Oper) (w:World):Prop:=∀a,Fr N L a->wpList PP all.toArray Q l a w
def WC (Q:Exit->Act->World->Prop) (N:Nat) (L:Env) (c:Code) (w:World):Prop:=∀a,Fr N L a->c.wp PP Q a w
def X (e:Exit) (Q:Exit->Act->World->Prop) (N:Nat) (L:Env) (w:World):Prop:=∀a,Fr N L a->Q e a w
section steps
variable {all:List Oper} {Q:Exit->Act->World->Prop} {N:Nat} {L L':Env} {o:Oper} {rest:List Oper} {w:World}
theorem nU {e:Exit} (L':Env) (ha:Px L' L) (k:X e Q N L' w):X e Q N L w:=fun a hf=>k a (hf.weaken ha)
theorem Ca {v:Value} {w':World} (hg:Ez all L o=some true) (hr:∀a,Fr N L a->(execOp a.eval o).run PP w=.ok (.value v) w')
  (hd:Cu N o v L=some L') (k:WL all Q N L' rest w'):WL all Q N L (o::rest) w:=fun a hf=>by
 refine wpList_step fun K hK=>?_;rw [if_pos (Hq hf hg)];unfold Oper.wp;rw [hr a hf];exact hK _ _ (k _ (Ge hf hd))
theorem Qn {w':World} (hg:Ez all L o=some true) (hr:∀a,Fr N L a->(execOp a.eval o).run PP w=.ok .skip w')
  (hd:Cu N o undef L=some L') (k:WL all Q N L' rest w'):WL all Q N L (o::rest) w:=fun a hf=>by
 refine wpList_step fun K hK=>?_;rw [if_pos (Hq hf hg)];unfold Oper.wp;rw [hr a hf];exact hK _ _ (k _ (Ge hf hd))
def Pp (N:Nat) (all:List Oper) (L:Env) (o:Oper):Option Env:=
 match Ez all L o with
 | some true=>match mA L o.op with
  | some v=>Cu N o v L
  | none=>none
 | some false=>Cu N o undef L
 | none=>none
theorem Au (h:Pp N all L o=some L') (k:WL all Q N L' rest w):WL all Q N L (o::rest) w:=by
 unfold Pp at h;split at h
 ·rename_i hg;split at h
  ·rename_i v hv;exact Ca hg (fun a hf=>Sl hf hv w) h k
  ·cases h
 ·rename_i hg;intro a hf;refine wpList_step fun K hK=>?_;rw [if_neg (by rw [Hq hf hg];simp)];exact hK _ _ (k _ (Ge hf h))
 ·cases h
def Uk (o:Oper):Bool:=
 match o.guard with
 | none=>match o.op with
  | .pick ..=>false
  | _=>true
 | some _=>false
def lV (N:Nat) (all:List Oper):Env->List Oper->Env×List Oper
 | L,[]=>(L,[])
 | L,o::rest=>cond (Uk o) (match Pp N all L o with
  | some L'=>lV N all L' rest
  | none=>(L,o::rest)) (L,o::rest)
def runP1 (N:Nat) (all:List Oper) (L:Env):List Oper->Option (Env×List Oper)
 | []=>none
 | o::rest=>cond (Uk o) (match Pp N all L o with
  | some L'=>some (lV N all L' rest)
  | none=>none) none
theorem Xd:∀(l:List Oper) (L:Env),WL all Q N (lV N all L l).1 (lV N all L l).2 w->WL all Q N L l w
 | [],L,k=>k
 | o::rest,L,k=>by
  simp only [lV] at k;cases hp:Uk o with
  | false=>simpa [hp] using k
  | true=>
   simp only [hp,cond_true] at k;cases hs:Pp N all L o with
   | none=>simpa [hs] using k
   | some L'=>
    simp only [hs] at k;exact Au hs (Xd rest L' k)
theorem Aa {l':List Oper} (h:runP1 N all L (o::rest)=some (L',l')) (k:WL all Q N L' l' w):WL all Q N L (o::rest) w:=by
 simp only [runP1] at h;cases hp:Uk o with
 | false=>simp [hp] at h
 | true=>
  simp only [hp,cond_true] at h;cases hs:Pp N all L o with
  | none=>simp [hs] at h
  | some L1=>
   simp only [hs,Yb] at h;refine Au hs (Xd rest L1 ?_);rw [h];exact k
theorem Aq (k:X .normal Q N L w):WL all Q N L [] w:=fun a hf=>wpList_nil (k a hf)
def Tq (all:List Oper) (o:Oper):Option Nat:=
 match o.guard with
 | some (j,_)=>match all[j]? with
  | some oj=>oj.dst
  | none=>none
 | none=>none
theorem Fr.known {N L a t b} (h:Fr N L a) (hl:Ln L t=some (.bool b)):Fr N ((t,.bool b)::L) a:=
 ⟨h.size,h.defers,fun u v hu=>by
  simp only [Ln] at hu;cases hb:Nat.beq t u with
  | true=>
   have:t=u:=(by simpa using hb);simp only [hb,cond_true,Yb] at hu;subst this;subst hu;exact h.get _ _ hl
  | false=>simp only [hb,cond_false] at hu;exact h.get _ _ hu⟩
theorem WL.gs {d:Nat} {b:Bool} (hs:Tq all o=some d) (hl:Ln L d=some (.bool b))
  (kt:b=true->WL all Q N ((d,.bool true)::L) (o::rest) w) (kf:b=false->WL all Q N ((d,.bool false)::L) (o::rest) w):WL all Q N L (o::rest) w:=by
 cases b with
 | true=>exact fun a hf=>kt rfl a (hf.known hl)
 | false=>exact fun a hf=>kf rfl a (hf.known hl)
theorem WL.gD {d:Nat} {p:Prop} [Decidable p] (hs:Tq all o=some d) (hl:Ln L d=some (.bool (dc p)))
  (kt:p->WL all Q N ((d,.bool true)::L) (o::rest) w) (kf:¬p->WL all Q N ((d,.bool false)::L) (o::rest) w):WL all Q N L (o::rest) w:=
 WL.gs hs hl (fun h=>kt (bJ h)) (fun h=>kf (Wm h))
theorem Bc {d:Nat} {p:Prop} [Decidable p] (hs:Tq all o=some d) (hl:Ln L d=some (.bool (dc p))) (hp:p)
  (kt:WL all Q N ((d,.bool true)::L) (o::rest) w):WL all Q N L (o::rest) w:=WL.gD hs hl (fun _=>kt) (fun h=>absurd hp h)
theorem Az {d:Nat} {p:Prop} [Decidable p] (hs:Tq all o=some d) (hl:Ln L d=some (.bool (dc p))) (hp:¬p)
  (kf:WL all Q N ((d,.bool false)::L) (o::rest) w):WL all Q N L (o::rest) w:=WL.gD hs hl (fun h=>absurd h hp) (fun _=>kf)
def cA (L:Env) (op:Op):Option (BinOp×IntKind×Int×Int):=
 match op with
 | .binOp bop _ x y _=>match ev L x,ev L y with
  | some (.int k a),some (.int k' b)=>cond (decide (k=k')) (match bop with
   | .add=>some (.add,k,a,b)|.sub=>some (.sub,k,a,b)|.mul=>some (.mul,k,a,b)|_=>none) none
  | _,_=>none
 | _=>none
def Te:BinOp->Int->Int->Int
 | .add,a,b=>a+b
 | .sub,a,b=>a-b
 | .mul,a,b=>a*b
 | _,_,_=>0
theorem Pd {N:Nat} {L:Env} {a:Act} {bop k x y} (hf:Fr N L a) (h:cA L o.op=some (bop,k,x,y)) (w:World):
  (execOp a.eval o).run PP w=.ok (.value (.int k (k.wrap (Te bop x y)))) w:=by
 obtain⟨dst,op,ty,Gh,after,guard⟩:=o;simp only at h;unfold cA at h;split at h
 ·rename_i b2 t ox oy t2;split at h
  ·rename_i k1 a1 k2 b1 hx hy;by_cases hk:k1=k2
   ·subst hk;simp only [decide_true,cond_true] at h;simp only [execOp,hf.eval hx,hf.eval hy,Sem.run_bind,Lz,Result.andThen_ok];split at h<;>first
     | (cases h;done)
     | (simp only [Yb,Prod.mk.injEq] at h;obtain⟨rfl,rfl,rfl,rfl⟩:=h;simp [binOp,Op.intArith,Te])
   ·simp [hk] at h
  ·cases h
 ·cases h
theorem Ei {n:Int} (h:-9223372036854775808<=n/\n<=9223372036854775807):IntKind.i64.wrap n=n:=by
 have e:IntKind.i64.wrap n=(if n%18446744073709551616≥9223372036854775808 then n%18446744073709551616-18446744073709551616 else n%18446744073709551616):=by
  simp [IntKind.wrap,IntKind.bits,IntKind.signed]
 rw [e];split<;>omega
theorem Gu {n:Int} (h:-2147483648<=n/\n<=2147483647):IntKind.i32.wrap n=n:=by
 have e:IntKind.i32.wrap n=(if n%4294967296≥2147483648 then n%4294967296-4294967296 else n%4294967296):=by
  simp [IntKind.wrap,IntKind.bits,IntKind.signed]
 rw [e];split<;>omega
theorem Hl {n:Int} (h:0<=n/\n<=4294967295):IntKind.u32.wrap n=n:=by
 have e:IntKind.u32.wrap n=n%4294967296:=by
  simp [IntKind.wrap,IntKind.bits,IntKind.signed]
 rw [e];omega
theorem Ls {n:Int} (h:0<=n/\n<=255):IntKind.u8.wrap n=n:=by
 have e:IntKind.u8.wrap n=n%256:=by
  simp [IntKind.wrap,IntKind.bits,IntKind.signed]
 rw [e];omega
theorem Jb {n:Int} (h:0<=n/\n<=18446744073709551615):IntKind.u64.wrap n=n:=by
 have e:IntKind.u64.wrap n=n%18446744073709551616:=by
  simp [IntKind.wrap,IntKind.bits,IntKind.signed]
 rw [e];omega
theorem WL.a {bop x y} (hg:Ez all L o=some true) (h:cA L o.op=some (bop,.i64,x,y)) (hb:-9223372036854775808<=Te bop x y/\Te bop x y<=9223372036854775807)
  (hd:Cu N o (.int .i64 (Te bop x y)) L=some L') (k:WL all Q N L' rest w):WL all Q N L (o::rest) w:=
 Ca hg (fun a hf=>by rw [Pd hf h w,Ei hb]) hd k
theorem nW {bop x y} (hg:Ez all L o=some true) (h:cA L o.op=some (bop,.i32,x,y)) (hb:-2147483648<=Te bop x y/\Te bop x y<=2147483647)
  (hd:Cu N o (.int .i32 (Te bop x y)) L=some L') (k:WL all Q N L' rest w):WL all Q N L (o::rest) w:=
 Ca hg (fun a hf=>by rw [Pd hf h w,Gu hb]) hd k
theorem Ay {x y:Int} (hg:Ez all L o=some true) (h:cA L o.op=some (.add,.i64,x,y)) (hb:-9223372036854775808<=x+y/\x+y<=9223372036854775807)
  (hd:Cu N o (.int .i64 (x+y)) L=some L') (k:WL all Q N L' rest w):WL all Q N L (o::rest) w:=WL.a hg h hb hd k
theorem jA {x y:Int} (hg:Ez all L o=some true) (h:cA L o.op=some (.add,.i32,x,y)) (hb:-2147483648<=x+y/\x+y<=2147483647)
  (hd:Cu N o (.int .i32 (x+y)) L=some L') (k:WL all Q N L' rest w):WL all Q N L (o::rest) w:=nW hg h hb hd k
theorem Fs {x y:Int} (hg:Ez all L o=some true) (h:cA L o.op=some (.sub,.i64,x,y)) (hb:-9223372036854775808<=x-y/\x-y<=9223372036854775807)
  (hd:Cu N o (.int .i64 (x-y)) L=some L') (k:WL all Q N L' rest w):WL all Q N L (o::rest) w:=WL.a hg h hb hd k
theorem WL.su32 {x y:Int} (hg:Ez all L o=some true) (h:cA L o.op=some (.sub,.i32,x,y)) (hb:-2147483648<=x-y/\x-y<=2147483647)
  (hd:Cu N o (.int .i32 (x-y)) L=some L') (k:WL all Q N L' rest w):WL all Q N L (o::rest) w:=nW hg h hb hd k
theorem iX {x y:Int} (hg:Ez all L o=some true) (h:cA L o.op=some (.mul,.i64,x,y)) (hb:-9223372036854775808<=x*y/\x*y<=9223372036854775807)
  (hd:Cu N o (.int .i64 (x*y)) L=some L') (k:WL all Q N L' rest w):WL all Q N L (o::rest) w:=WL.a hg h hb hd k
theorem WL.aw {bop kd x y} (hg:Ez all L o=some true) (h:cA L o.op=some (bop,kd,x,y))
  (hd:Cu N o (.int kd (kd.wrap (Te bop x y))) L=some L') (k:WL all Q N L' rest w):WL all Q N L (o::rest) w:=
 Ca hg (fun a hf=>Pd hf h w) hd k
def cvA (L:Env) (op:Op):Option (IntKind×Int):=
 match op with
 | .convert src dst x=>match Vs src,Vs dst,ev L x with
  | some _,some k,some (.int _ n)=>some (k,n)
  | _,_,_=>none
 | _=>none
theorem bL {N:Nat} {L:Env} {a:Act} {k n} (hf:Fr N L a) (h:cvA L o.op=some (k,n)) (w:World):(execOp a.eval o).run PP w=.ok (.value (.int k (k.wrap n))) w:=by
 obtain⟨dst,op,ty,Gh,after,guard⟩:=o;simp only at h;unfold cvA at h;split at h
 ·rename_i src dst' x;split at h
  ·rename_i ks kd k' n' b c hx;simp only [Yb,Prod.mk.injEq] at h;obtain⟨rfl,rfl⟩:=h;simp [execOp,convert,hf.eval hx,run_underlying (Nk b),run_underlying (Nk c),Conv.intToInt]
  ·cases h
 ·cases h
theorem Ff {kd:IntKind} {n:Int} (hg:Ez all L o=some true) (h:cvA L o.op=some (kd,n)) (hw:kd.wrap n=n)
  (hd:Cu N o (.int kd n) L=some L') (k:WL all Q N L' rest w):WL all Q N L (o::rest) w:=
 Ca hg (fun a hf=>by rw [bL hf h w,hw]) hd k
theorem WL.cw {kd:IntKind} {n:Int} (hg:Ez all L o=some true) (h:cvA L o.op=some (kd,n))
  (hd:Cu N o (.int kd (kd.wrap n)) L=some L') (k:WL all Q N L' rest w):WL all Q N L (o::rest) w:=
 Ca hg (fun a hf=>bL hf h w) hd k
def ldA (L:Env) (op:Op):Option Addr:=
 match op with
 | .load t x=>cond (dH t) (match ev L x with
  | some (.pointer (some a))=>some a
  | _=>none) none
 | _=>none
theorem Dz {N:Nat} {L:Env} {a:Act} {ad:Addr} {v:Value} (hf:Fr N L a) (h:ldA L o.op=some ad) (hc:w.cell? ad=some v):
  (execOp a.eval o).run PP w=.ok (.value v) w:=by
 obtain⟨dst,op,ty,Gh,after,guard⟩:=o;simp only at h;unfold ldA at h;split at h
 ·rename_i t x;cases ht:dH t with
  | false=>simp [ht] at h
  | true=>
   simp only [ht,cond_true] at h;split at h
   ·rename_i a' hx;simp only [Yb] at h;subst h;simp [execOp,hf.eval hx,Instr.loadAt,Instr.sureAddr,loadVar,kB ht,hc]
   ·cases h
 ·cases h
theorem Aw {ad:Addr} {v:Value} (hg:Ez all L o=some true) (h:ldA L o.op=some ad) (hc:w.cell? ad=some v)
  (hd:Cu N o v L=some L') (k:WL all Q N L' rest w):WL all Q N L (o::rest) w:=
 Ca hg (fun a hf=>Dz hf h hc) hd k
theorem Av {b i:Nat} {c:Array Value} {t:TypeId} {fz:Nat×Nat} {v:Value} (hg:Ez all L o=some true) (h:ldA L o.op=some ⟨b,i,none⟩) (hb:w.heap[b]?=some (.cells c t fz)) (hi:c[i]?=some v)
  (hd:Cu N o v L=some L') (k:WL all Q N L' rest w):WL all Q N L (o::rest) w:=Aw hg h (Ar hb hi) hd k
def ixA (L:Env) (op:Op):Option (Nat×Nat×Nat×Nat×Int):=
 match op with
 | .indexAddr t x i=>match Oj t,ev L x,ev L i with
  | some n,some (.slice (some ⟨b,o,none⟩) len _),some (.int _ j)=>some (n,b,o,len,j)
  | _,_,_=>none
 | _=>none
theorem aP {N:Nat} {L:Env} {a:Act} {n b ofs len:Nat} {j:Int} (hf:Fr N L a) (h:ixA L o.op=some (n,b,ofs,len,j)) (h0:0<=j) (h1:j<(len:Int)) (w:World):
  (execOp a.eval o).run PP w=.ok (.value (.pointer (some ⟨b,ofs+j.toNat*n,none⟩))) w:=by
 obtain⟨dst,op,ty,Gh,after,guard⟩:=o;simp only at h;unfold ixA at h;split at h
 ·rename_i t x i;split at h
  ·rename_i n' b' o' len' cap' kk j' hn hx hi;simp only [Yb,Prod.mk.injEq] at h;obtain⟨rfl,rfl,rfl,rfl,rfl⟩:=h;simp [execOp,hf.eval hx,hf.eval hi,dP hn b' o' len' cap' kk j' h0 h1 w]
  ·cases h
 ·cases h
theorem Ax {n b ofs len:Nat} {j:Int} {i:Nat} (hg:Ez all L o=some true) (h:ixA L o.op=some (n,b,ofs,len,j)) (hj:j=(i:Int)) (hi:i<len)
  (hd:Cu N o (.pointer (some ⟨b,ofs+i*n,none⟩)) L=some L') (k:WL all Q N L' rest w):WL all Q N L (o::rest) w:=by
 subst hj;exact Ca hg (fun a hf=>by have:=aP hf h (by omega) (by omega) w;simpa using this) hd k
def stA (L:Env) (op:Op):Option (Addr×Value):=
 match op with
 | .store t x y=>cond (dH t) (match ev L x,ev L y with
  | some (.pointer (some a)),some v=>some (a,v)
  | _,_=>none) none
 | _=>none
def Bp:Value->Bool
 | .agg _|.tuple _=>false
 | _=>true
theorem Gr {N:Nat} {L:Env} {a:Act} {b i:Nat} {v u:Value} {c:Array Value} {t:TypeId} (hf:Fr N L a) (h:stA L o.op=some (⟨b,i,none⟩,v))
  (hv:Bp v=true) (hb:w.heap[b]?=some (.cells c t (0,0))) (hi:c[i]?=some u):
  (execOp a.eval o).run PP w=.ok .skip (w.setCell ⟨b,i,none⟩ v):=by
 obtain⟨dst,op,ty,Gh,after,guard⟩:=o;simp only at h;unfold stA at h;split at h
 ·rename_i t' x y;cases ht:dH t' with
  | false=>simp [ht] at h
  | true=>
   simp only [ht,cond_true] at h;split at h
   ·rename_i a' v' hx hy;simp only [Yb,Prod.mk.injEq] at h;obtain⟨rfl,rfl⟩:=h;have d:=Ar hb hi;have f:w.frozen? ⟨b,i,none⟩=false:=(by simp [World.frozen?,hb]);(have g:v'.cells=#[v']:=by cases v'<;>first|rfl|(simp [Bp] at hv));(have h1:v'.oneCell'=true:=by cases v'<;>first|rfl|(simp [Bp] at hv));have e:=run_store PP w ⟨b,i,none⟩ v' .plain h1;rw [d] at e;simp only [f] at e;have ha:(⟨b,i,none⟩:Addr).add 0=⟨b,i,none⟩:=rfl;simp [execOp,hf.eval hx,hf.eval hy,Instr.storeAt,Instr.sureAddr,storeVar,g,fB ht,storeCells,ha,e]
   ·cases h
 ·cases h
theorem Bk {b i:Nat} {v u:Value} {c:Array Value} {t:TypeId} (hg:Ez all L o=some true) (h:stA L o.op=some (⟨b,i,none⟩,v)) (hv:Bp v=true)
  (hb:w.heap[b]?=some (.cells c t (0,0))) (hi:c[i]?=some u) (hd:Cu N o undef L=some L')
  (k:∀w',St w b (.cells (c.setIfInBounds i v) t (0,0)) w'->WL all Q N L' rest w'):WL all Q N L (o::rest) w:=
 Qn hg (fun a hf=>Gr hf h hv hb hi) hd (k _ (Ev v hb))
def gU:Nat->Option (List Value)
 | 21=>some [.int .i32 0]
 | 3=>some [.int .i64 0]
 | 9=>some [.string ⟨#[]⟩]
 | 23=>some [.slice none 0 0]
 | 34=>some [.slice none 0 0]
 | 37=>some [.int .i64 0,.string ⟨#[]⟩,.slice none 0 0,.slice none 0 0]
 | 40=>some [.int .i64 0,.slice none 0 0,.int .i64 0,.string ⟨#[]⟩,.slice none 0 0,.slice none 0 0]
 | 52=>some [.bool false,.slice none 0 0,.slice none 0 0,.slice none 0 0,.nilIface,.int .i64 0]
 | 59=>some [.slice none 0 0,.int .i32 0,.slice none 0 0,.slice none 0 0]
 | 101=>some [.int .u32 0,.int .u32 0]
 | 129=>some [.int .i64 0,.string ⟨#[]⟩,.slice none 0 0,.slice none 0 0]
 | 132=>some [.int .i64 0,.slice none 0 0,.int .i64 0,.string ⟨#[]⟩,.slice none 0 0,.slice none 0 0]
 | 145=>some [.int .i32 0,.int .u8 0,.bool false,.slice none 0 0]
 | 147=>some [.bool false,.pointer none]
 | _=>none
noncomputable def gS (t:Nat):Option (List Value):=match PP.info? t with
 | some i=>i.zero.map fun v=>v.cells.toList
 | none=>none
theorem jG:∀t l,gU t=some l->gS t=some l:=by
 intro t l h;unfold gU at h;split at h<;>first
  | (cases h;done)
  | (simp only [Yb] at h;subst h;kernel_rfl)
theorem cK {t:Nat} {l:List Value} (h:gU t=some l) (w:World):∃z,(zeroValue t).run PP w=.ok z w/\z.cells=l.toArray:=by
 have:=jG t l h;unfold gS at this;split at this
 ·rename_i i hi;cases hz:i.zero with
  | none=>simp [hz] at this
  | some z=>
   simp only [hz,Option.map_some,Yb] at this;refine⟨z,by simp [zeroValue,typeInfo,hi,hz],?_⟩;rw [<-this]
 ·cases this
def alA (op:Op):Option (Nat×List Value):=
 match op with
 | .alloc t=>match gU t with
  | some l=>some (t,l)
  | none=>none
 | _=>none
theorem Dk {t:Nat} {l:List Value} (hg:Ez all L o=some true) (h:alA o.op=some (t,l)) (hd:Cu N o (.pointer (F w.heap.size)) L=some L')
  (k:∀w',Al w (.cells l.toArray t (0,0)) w'->WL all Q N L' rest w'):WL all Q N L (o::rest) w:=by
 obtain⟨dst,op,ty,Gh,after,guard⟩:=o;simp only at h;unfold alA at h;split at h
 ·rename_i t';split at h
  ·rename_i l' hl;simp only [Yb,Prod.mk.injEq] at h;obtain⟨rfl,rfl⟩:=h;obtain⟨z,hz,hc⟩:=cK hl w;refine Ca (w':=w.alloc (.cells l'.toArray t' (0,0))) hg (fun a hf=>?_) hd (k _ (Br w _));simp [execOp,Instr.alloc,hz,newVar,newRow,hc]
  ·cases h
 ·cases h
def bxA (L:Env) (op:Op):Option (Nat×Value):=
 match op with
 | .box t x=>match ev L x with
  | some v=>some (t,v)
  | none=>none
 | _=>none
theorem Gl {t:Nat} {v:Value} (hg:Ez all L o=some true) (h:bxA L o.op=some (t,v)) (hd:Cu N o (.pointer (F w.heap.size)) L=some L')
  (k:∀w',Al w (.cells v.cells t (0,0)) w'->WL all Q N L' rest w'):WL all Q N L (o::rest) w:=by
 obtain⟨dst,op,ty,Gh,after,guard⟩:=o;simp only at h;unfold bxA at h;split at h
 ·rename_i t' x;split at h
  ·rename_i v' hx;simp only [Yb,Prod.mk.injEq] at h;obtain⟨rfl,rfl⟩:=h;refine Ca (w':=w.alloc (.cells v'.cells t' (0,0))) hg (fun a hf=>?_) hd (k _ (Br w _));simp [execOp,Instr.box,hf.eval hx,newVar,newRow]
  ·cases h
 ·cases h
noncomputable def Ws (f:Nat):Bool:=match PP.funcs[f]? with
 | some fn=>fn.body.isSome && !(fn.name == "runtime.NumGoroutine")
 | none=>false
theorem gJ:((List.range 150).all fun f=>Nat.ble f 2 || Ws f)=true:=by kernel_rfl
theorem Ml {f:Nat} (h:(Nat.ble 3 f && Nat.blt f 150)=true):Ws f=true:=by
 have h':3<=f/\f<150:=by simpa [Nat.ble_eq,Nat.blt_eq] using h
 have:=List.all_eq_true.1 gJ f (List.mem_range.2 h'.2);have h3:Nat.ble f 2=false:=by
  cases hb:Nat.ble f 2 with
  | false=>rfl
  | true=>have:=Nat.le_of_ble_eq_true hb;omega
 simpa [h3] using this
def Wt (L:Env) (op:Op):Option (Nat×List Value):=
 match op with
 | .call ⟨.value x,⟨xs⟩,_⟩=>match x with
  | .func f=>match evs L xs with
   | some vs=>some (f,vs)
   | none=>none
  | x=>match ev L x with
   | some (.func (.func f) ⟨first⟩ ⟨caps⟩)=>match evs L xs with
    | some vs=>some (f,first++vs++caps)
    | none=>none
   | _=>none
 | _=>none
theorem Rn {f:Nat} (h:Ws f=true) (args:Array Value) (w:World):(callFunc f args).run PP w=.ok (.enter f args) w:=by
 unfold Ws at h;unfold callFunc;cases hf:PP.funcs[f]? with
 | none=>simp [hf] at h
 | some fn=>
  simp only [hf,Bool.and_eq_true,Bool.not_eq_true'] at h;obtain⟨h1,h2⟩:=h;have h3:fn.body.isNone=false:=(by cases hb:fn.body<;>simp [hb] at h1 ⊢);simp only [Sem.run_bind,run_program,Result.andThen_ok,hf,h2,h3,Bool.false_eq_true,if_false,Sem.run_pure]
theorem Mm {N:Nat} {L:Env} {a:Act} {f:Nat} {vs:List Value} (hf:Fr N L a) (h:Wt L o.op=some (f,vs)) (hr:Ws f=true) (w:World):
  (execOp a.eval o).run PP w=.ok (.enter f vs.toArray) w:=by
 obtain⟨dst,op,ty,Gh,after,guard⟩:=o;simp only at h;unfold Wt at h;split at h
 ·rename_i x xs ts;split at h
  ·rename_i g;split at h
   ·rename_i vs' b;simp only [Yb,Prod.mk.injEq] at h;obtain⟨rfl,rfl⟩:=h;have:=hf.evals b;simp [execOp,resolve,Deferred.ofValue,Act.eval,invoke,this,Rn hr]
   ·cases h
  ·rename_i x' c;split at h
   ·rename_i g first caps hx;split at h
    ·rename_i vs' b;simp only [Yb,Prod.mk.injEq] at h;obtain⟨rfl,rfl⟩:=h;have:=hf.evals b;simp [execOp,resolve,hf.eval hx,Deferred.ofValue,invoke,this,Rn hr]
    ·cases h
   ·cases h
 ·cases h
theorem Ae {f:Nat} {vs:List Value} {R:Ending->World->Prop} (hg:Ez all L o=some true) (hc:Wt L o.op=some (f,vs)) (hr:(Nat.ble 3 f && Nat.blt f 150)=true)
  (h:Calls PP f vs.toArray w R) (k:∀e w',R e w'->∃v L',e=.returned v/\Cu N o v L=some L'/\WL all Q N L' rest w'):WL all Q N L (o::rest) w:=fun a hf=>by
 refine wpList_step fun K hK=>?_;rw [if_pos (Hq hf hg)];unfold Oper.wp;rw [Mm hf hc (Ml hr) w];refine h.mono fun e w' hR=>?_;obtain⟨v,L',rfl,hd,hk⟩:=k e w' hR;exact hK _ _ (hk _ (Ge hf hd))
theorem Ad {x y:Code} (k:WC (Exit.then (y.wp PP Q) Q) N L x w):WC Q N L (.seq x y) w:=fun a hf=>wp_seq (k a hf)
theorem Ag {i:Nat} {c:Code} (k:WC (Exit.inBlock i Q) N L c w):WC Q N L (.block i c) w:=fun a hf=>wp_block (k a hf)
theorem Af (k:X .normal Q N L w):WC Q N L .skip w:=fun a hf=>wp_skip (k a hf)
theorem Ba {i:Nat} (k:X (.exit i) Q N L w):WC Q N L (.exit i) w:=fun a hf=>wp_exit (k a hf)
theorem Ai (k:X .ret Q N L w):WC Q N L .ret w:=fun a hf=>wp_ret (k a hf)
theorem Am {id:Nat} {l:List Oper} (k:WL l Q N L l w):WC Q N L (.region id ⟨l⟩ false) w:=fun a hf=>wp_region_lit (k a hf)
theorem WC.cT {c:Operand} {x y:Code} (hc:ev L c=some (.bool true)) (k:WC Q N L x w):WC Q N L (.cond c x y) w:=fun a hf=>wp_cond_true (hf.eval hc) (k a hf)
theorem WC.cF {c:Operand} {x y:Code} (hc:ev L c=some (.bool false)) (k:WC Q N L y w):WC Q N L (.cond c x y) w:=fun a hf=>wp_cond_false (hf.eval hc) (k a hf)
theorem Bn {c:Operand} {x y:Code} {b:Bool} (hc:ev L c=some (.bool b)) (hb:b=true) (k:WC Q N L x w):WC Q N L (.cond c x y) w:=by subst hb;exact WC.cT hc k
theorem Bb {c:Operand} {x y:Code} {b:Bool} (hc:ev L c=some (.bool b)) (hb:b=false) (k:WC Q N L y w):WC Q N L (.cond c x y) w:=by subst hb;exact WC.cF hc k
theorem WC.cS {c:Operand} {x y:Code} {b:Bool} (hc:ev L c=some (.bool b)) (kt:b=true->WC Q N L x w) (kf:b=false->WC Q N L y w):WC Q N L (.cond c x y) w:=
 fun a hf=>wp_cond_split (hf.eval hc) (fun h=>kt h a hf) (fun h=>kf h a hf)
theorem WC.cD {c:Operand} {x y:Code} {p:Prop} [Decidable p] (hc:ev L c=some (.bool (dc p))) (kt:p->WC Q N L x w) (kf:¬p->WC Q N L y w):WC Q N L (.cond c x y) w:=
 WC.cS hc (fun h=>kt (bJ h)) (fun h=>kf (Wm h))
theorem Ao {c:Operand} {x y:Code} {p:Prop} [Decidable p] (hc:ev L c=some (.bool (dc p))) (hp:p) (kt:WC Q N L x w):WC Q N L (.cond c x y) w:=
 WC.cD hc (fun _=>kt) (fun h=>absurd hp h)
theorem Aj {c:Operand} {x y:Code} {p:Prop} [Decidable p] (hc:ev L c=some (.bool (dc p))) (hp:¬p) (kf:WC Q N L y w):WC Q N L (.cond c x y) w:=
 WC.cD hc (fun h=>absurd h hp) (fun _=>kf)
theorem WC.nT {c:Operand} {x y:Code} {p:Prop} [Decidable p] (hc:ev L c=some (.bool (!(dc p)))) (hp:¬p) (kt:WC Q N L x w):WC Q N L (.cond c x y) w:=
 Bn hc (by rw [Ew hp];rfl) kt
theorem WC.nF {c:Operand} {x y:Code} {p:Prop} [Decidable p] (hc:ev L c=some (.bool (!(dc p)))) (hp:p) (kf:WC Q N L y w):WC Q N L (.cond c x y) w:=
 Bb hc (by rw [Fj hp];rfl) kf
theorem An {y:Code} (k:WC Q N L y w):X .normal (Exit.then (y.wp PP Q) Q) N L w:=k
theorem Ab {all:List Oper} {y:Code} (k:WC Q N L y w):WL all (Exit.then (y.wp PP Q) Q) N L [] w:=Aq (An k)
theorem Ac {id:Nat} {l:List Oper} {y:Code} (k:WL l (Exit.then (y.wp PP Q) Q) N L l w):WC Q N L (.seq (.region id ⟨l⟩ false) y) w:=Ad (Am k)
theorem Cn {K:Act->World->Prop} {i:Nat} (k:X (.exit i) Q N L w):X (.exit i) (Exit.then K Q) N L w:=k
theorem Bl {K:Act->World->Prop} (k:X .ret Q N L w):X .ret (Exit.then K Q) N L w:=k
theorem Bj {i:Nat} (k:X .normal Q N L w):X .normal (Exit.inBlock i Q) N L w:=k
theorem Bv {i:Nat} (k:X .ret Q N L w):X .ret (Exit.inBlock i Q) N L w:=k
theorem Ci {i:Nat} (k:X .normal Q N L w):X (.exit i) (Exit.inBlock i Q) N L w:=fun a hf=>by
 simp only [Exit.inBlock,if_true];exact k a hf
theorem Kn {i j:Nat} (h:Nat.beq j i=false) (k:X (.exit j) Q N L w):X (.exit j) (Exit.inBlock i Q) N L w:=fun a hf=>by
 have b:j≠i:=by intro e;subst e;simp at h
 simp only [Exit.inBlock,b,if_false];exact k a hf
def dB (L:Env):List ResultVar->Option (List Value)
 | []=>some []
 | .tmp t::r=>match Ln L t with
  | some v=>match dB L r with
   | some vs=>some (v::vs)
   | none=>none
  | none=>none
 | _=>none
def cZ:List Value->Value
 | [v]=>v
 | vs=>.tuple vs.toArray
def resF (a:Act):ResultVar->Sem Value
 | .tmp t=>pure (a.tmps.getD t undef)
 | .cell x t=>do loadVar t (<-asAddr (a.tmps.getD x undef))
theorem dA {N:Nat} {L:Env} {a:Act} (hf:Fr N L a) (w:World):∀{rs:List ResultVar} {vs:List Value},dB L rs=some vs->
  (rs.mapM (resF a)).run PP w=.ok vs w
 | [],vs,h=>by simp [dB] at h;subst h;simp
 | .tmp t::r,vs,h=>by
  simp only [dB] at h;cases h1:Ln L t with
  | none=>simp [h1] at h
  | some v=>
   cases h2:dB L r with
   | none=>simp [h1,h2] at h
   | some us=>
    simp only [h1,h2,Yb] at h;subst h;have ih:=dA hf w h2;simp only [List.mapM_cons,Sem.run_bind,Sem.run_pure,Result.andThen_ok,ih,resF,hf.getD h1]
 | .cell x t::r,vs,h=>by simp [dB] at h
theorem Vi (fn:Func) (a:Act):results fn a.tmps=(do let vs <-fn.results.mapM (resF a);pure (if h:vs.size=1 then vs[0] else .tuple vs)):=by
 unfold results;congr 1
theorem Ak {fn:Func} {R:Ending->World->Prop} {rs:List ResultVar} {vs:List Value} (hr:fn.results=⟨rs⟩) (h:dB L rs=some vs) (hR:R (.returned (cZ vs)) w):
  X .ret (bodyPost PP fn R) N L w:=fun a hf=>by
 refine bodyPost_ret ?_ hf.defers hR;rw [Vi,hr];have:=dA hf w h;simp only [List.mapM_toArray,Sem.run_bind,Sem.run_map,this,Result.andThen_ok,Sem.run_pure];cases vs with
 | nil=>rfl
 | cons v vs=>cases vs<;>rfl
theorem Kt {fn:Func} {R:Ending->World->Prop} {rs:List ResultVar} {vs:List Value} (hr:fn.results=⟨rs⟩) (h:dB L rs=some vs) (hR:R (.returned (cZ vs)) w):
  X .normal (bodyPost PP fn R) N L w:=fun a hf=>Ak hr h hR a hf
def dZ:Nat->List Value->Env
 | _,[]=>[]
 | i,v::l=>(i,v)::dZ (i+1) l
theorem Wg:∀(l:List Value) (i t:Nat) (v:Value),Ln (dZ i l) t=some v->i<=t/\l[t-i]?=some v
 | [],i,t,v,h=>by simp [dZ,Ln] at h
 | u::l,i,t,v,h=>by
  simp only [dZ,Ln] at h;cases hb:Nat.beq i t with
  | true=>
   have:i=t:=(by simpa using hb);subst this;simp only [hb,cond_true,Yb] at h;subst h;simp
  | false=>
   have a:i≠t:=(by intro e;subst e;simp at hb);simp only [hb,cond_false] at h;obtain⟨h1,h2⟩:=Wg l (i+1) t v h;refine⟨by omega,?_⟩;have:t-i=(t-(i+1))+1:=(by omega);rw [this,List.getElem?_cons_succ];exact h2
theorem Bf {f:Nat} {fn:Func} {c:Code} {N:Nat} {args:List Value} {L:Env} {R:Ending->World->Prop} {w:World}
  (hf:PP.funcs[f]?=some fn) (hb:fn.body=some c) (hN:fn.ntmps=N) (hs:Nat.ble args.length N=true) (hL:Px L (dZ 0 args)) (k:WC (bodyPost PP fn R) N L c w):
  Calls PP f args.toArray w R:=by
 have b:args.length<=N:=Nat.le_of_ble_eq_true hs;refine calls_of_wp hf hb (k _ ⟨?_,rfl,fun t v hv=>?_⟩)
 ·simp [hN];omega
 ·obtain⟨_,h2⟩:=Wg args 0 t v (hL.look t v hv);have h3:args[t]?=some v:=(by simpa using h2);have a:t<args.length:=(Yc.1 h3).1;rw [Array.getElem?_append_left (by simpa using a)];simpa using h3
def Again {σ:Type} (I:σ->World->Prop) (m:σ->Nat) (Lf:σ->Env) (N:Nat) (s:σ):Act->World->Prop:=fun a w=>∃s',I s' w/\m s'<m s/\Fr N (Lf s') a
theorem bA {P:Nat->Prop} (h:∃n,P n):∃n,P n/\∀k,P k->n<=k:=by
 obtain⟨n,hn⟩:=h
 induction n using Nat.strongRecOn with
 | _ n ih=>
  by_cases hc:∃k,k<n/\P k
  ·obtain⟨k,hk,hp⟩:=hc;exact ih k hk hp
  ·refine⟨n,hn,fun k hk=>?_⟩;apply Classical.byContradiction;intro h;exact hc ⟨k,by omega,hk⟩
theorem Bg {σ:Type} {c:Code} (I:σ->World->Prop) (m:σ->Nat) (Lf:σ->Env) (s0:σ) (h0:I s0 w) (hL:Px (Lf s0) L)
  (round:∀s w,I s w->WC (Exit.then (Again I m Lf N s) Q) N (Lf s) c w):WC Q N L (.loop c) w:=by
 intro a hf;let J:Act->World->Prop:=fun a w=>∃s,I s w/\Fr N (Lf s) a;have b:∀a w,∃n,(J a w->∃s,I s w/\Fr N (Lf s) a/\m s=n)/\(∀s,I s w->Fr N (Lf s) a->n<=m s):=by
  intro a w;by_cases hj:J a w
  ·obtain⟨s,h1,h2⟩:=hj;obtain⟨n,⟨s',h3,h4,h5⟩,d⟩:=bA (P:=fun n=>∃s,I s w/\Fr N (Lf s) a/\m s=n) ⟨m s,s,h1,h2,rfl⟩;exact⟨n,fun _=>⟨s',h3,h4,h5⟩,fun s h1 h2=>d _ ⟨s,h1,h2,rfl⟩⟩
  ·exact⟨0,fun h=>absurd h hj,fun _ _ _=>Nat.zero_le _⟩
 let μ:Act->World->Nat:=fun a w=>Classical.choose (b a w);have hμ:∀a w,(J a w->∃s,I s w/\Fr N (Lf s) a/\m s=μ a w)/\(∀s,I s w->Fr N (Lf s) a->μ a w<=m s):=fun a w=>Classical.choose_spec (b a w);refine wp_loop J μ ⟨s0,h0,hf.weaken hL⟩ fun a w hJ=>?_;obtain⟨s,h1,h2,h3⟩:=(hμ a w).1 hJ;refine Code.wp_mono ?_ (round s w h1 a h2);intro e a' w' hq;cases e with
 | normal=>
  obtain⟨s',h4,h5,h6⟩:=hq;refine⟨⟨s',h4,h6⟩,?_⟩;have:=(hμ a' w').2 s' h4 h6;omega
 | exit i=>exact hq
 | goto i=>exact hq
 | ret=>exact hq
 | panic c=>exact hq
 | outgrown=>exact hq
theorem Ap {σ:Type} {I:σ->World->Prop} {m:σ->Nat} {Lf:σ->Env} {s:σ} (s':σ) (h:I s' w) (hm:m s'<m s) (ha:Px (Lf s') L):
  X .normal (Exit.then (Again I m Lf N s) Q) N L w:=fun a hf=>⟨s',h,hm,hf.weaken ha⟩
def Cut {σ:Type} (I:σ->World->Prop) (Lf:σ->Env) (N:Nat):Act->World->Prop:=fun a w=>∃s,I s w/\Fr N (Lf s) a
theorem Cr {σ:Type} {x y:Code} (I:σ->World->Prop) (Lf:σ->Env) (k1:WC (Exit.then (Cut I Lf N) Q) N L x w) (k2:∀s w,I s w->WC Q N (Lf s) y w):WC Q N L (.seq x y) w:=
 fun a hf=>wp_seq (Code.wp_mono (fun e a' w' hq=>by
  cases e with
  | normal=>obtain⟨s,h1,h2⟩:=hq;exact k2 s w' h1 a' h2
  | exit i=>exact hq
  | goto i=>exact hq
  | ret=>exact hq
  | panic c=>exact hq
  | outgrown=>exact hq) (k1 a hf))
theorem Bh {σ:Type} {I:σ->World->Prop} {Lf:σ->Env} (s:σ) (h:I s w) (ha:Px (Lf s) L):X .normal (Exit.then (Cut I Lf N) Q) N L w:=fun a hf=>⟨s,h,hf.weaken ha⟩
end steps
attribute [irreducible] WL WC X
end
end Go.Proofs.YtaccphdkapmdhaaGreat
