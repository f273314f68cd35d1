/- The reference's reader takes nothing that the grammar does not. No condition. -/
import Derived.Test.YtaccphdkapmdhaaGreatR39
namespace Go.Proofs.YtaccphdkapmdhaaGreat
set_option maxRecDepth 100000
set_option maxHeartbeats 64000000
set_option linter.all false
section
theorem PB.upB {B w w' pp b a st} (h:PB w pp b a st) (hu:Up B w w') (hB:pp<B):PB w' pp b a st:=by
 obtain⟨v,h1,ad,cap,h2,h0,h3⟩:=h;refine⟨v,hu.at hB h1,ad,cap,h2,h0,fun hl=>?_⟩;obtain⟨b',o,dc,e,fz,q1,q2,q3,q4⟩:=h3 hl;exact⟨b',o,dc,e,fz,q1,hu.at (by omega) q2,q3,q4⟩
theorem Fm.upN {B T w w1 w'} (h:Fm B T w w1) (hu:Up w.heap.size w1 w') (hB:B<=w.heap.size):Fm B T w w':=
 ⟨hu.os.trans h.os,hu.tape.trans h.tape,hu.output.trans h.output,Nat.le_trans h.size hu.size,fun k hk=>(hu.old k (by omega)).trans (h.old k hk),
  fun k o ho ht=>hu.at (Ah ho) (h.keep k o ho ht),fun k o ho=>by
   obtain⟨o',h1,h2⟩:=h.tags k o ho;exact⟨o',hu.at (Ah ho) h1,h2⟩⟩
theorem Fu {pp:Nat} {w1 w2:World} (h:Fm pp [120] w1 w2):Fm pp [120,1001] w1 w2:=h.mono Y (fun t ht=>by simp only [List.mem_singleton] at ht;simp [ht])
def z5 (o:Option TypeInfo):Bool:=match o with
 | some i=>(match i.zero with|some (.int .u8 0)=>true|_=>false) && Nat.beq i.bytes 1
 | none=>false
theorem z5_ok:z5 (PP.info? 5)=true:=by kernel_rfl
theorem zero_of {e:Nat} {i:TypeInfo} (hi:PP.info? e=some i) (h:z5 (PP.info? e)=true):i.zero=some (.int .u8 0)/\i.bytes=1:=by
 rw [hi] at h;simp only [z5,Bool.and_eq_true] at h;obtain⟨h1,h2⟩:=h;refine⟨?_,by simpa using h2⟩;split at h1
 ·rename_i h;exact h
 ·cases h1
section
attribute [local semireducible] WL WC X WD WX
variable {all:List Oper} {Q:Exit->Act->World->Prop} {N:Nat} {L L':Env} {o:Oper} {rest:List Oper} {w:World} {S:World->Prop}
theorem Iq {σ:Type} {x y:Code} (I:σ->World->Prop) (Lf:σ->Env) (k1:WC (Exit.then (Cut I Lf N) Q) N L x w) (k2:∀s w,I s w->WC Q N (Lf s) y w):WC (Exit.then (y.wp PP Q) Q) N L x w:=fun a hf=>
 Code.wp_mono (fun e a' w' hq=>by
  cases e with
  | normal=>obtain⟨s,h1,h2⟩:=hq;exact k2 s w' h1 a' h2
  | exit i=>exact hq
  | goto i=>exact hq
  | ret=>exact hq
  | panic c=>exact hq
  | outgrown=>exact hq) (k1 a hf)
def asA (L:Env) (op:Op):Option (Value×ByteArray):=
 match op with
 | .call ⟨.builtin .append,⟨[x,y]⟩,⟨[t,t']⟩⟩=>cond (Nat.beq t 23) (cond (Nat.beq t' 9) (match ev L x,ev L y with
  | some v,some (.string s)=>some (v,s)
  | _,_=>none) none) none
 | _=>none
theorem nV {B:Nat} {v:Value} {l:Bs} (s:Bs) (hg:Ez all L o=some true) (h:asA L o.op=some (v,⟨s.toArray⟩)) (b:Ob B w v l) (hm:l.length+s.length<=1099511627776) (hB:B<=w.heap.size)
  (k:∀v' w',Ob B w' v' (l++s)->Up B w w'->∃L',Cu N o v' L=some L'/\WL all Q N L' rest w'):WL all Q N L (o::rest) w:=by
 obtain⟨i,z,hu,hi,hz,f,j,m,h0⟩:=Ga (rfl:Fx 23=some (5,1));have d:=zero_of hi z5_ok;have e1:(⟨s.toArray⟩:ByteArray).size=s.length:=by simp [ByteArray.size]
 obtain⟨v',w',hr,h2,h3,h4⟩:=Go.Lib.run_append_own_string (P:=PP) w B 23 9 o.type 5 i hu Ek hi d.1 f d.2 v l.length (l.map u8) b ⟨s.toArray⟩ (by rw [e1];simp only [maxLen];omega) (by rw [e1];omega) hB;obtain⟨L',hd,hk⟩:=k v' w' (by
  unfold Ob;rw [Ye,List.map_append];rw [e1] at h2;exact h2) (Up.of_grown h3 (fun k hk=>(b.lt k hk).1) hB)
 refine Ca hg (fun a hf=>?_) hd hk;obtain⟨dst,op,ty,Gh,after,guard⟩:=o;simp only at h;unfold asA at h;split at h
 ·rename_i x y t1 t2;cases ht:Nat.beq t1 23 with
  | false=>simp [ht] at h
  | true=>
   cases c:Nat.beq t2 9 with
   | false=>simp [ht,c] at h
   | true=>
    have g:t1=23:=(by simpa using ht);have e:t2=9:=(by simpa using c);subst g e;simp only [ht,c,cond_true] at h;split at h
    ·rename_i v' u' hx hy;simp only [Yb,Prod.mk.injEq] at h;obtain⟨rfl,rfl⟩:=h;simp [execOp,resolve,invoke,builtin,hf.eval hx,hf.eval hy,hr]
    ·cases h
 ·cases h
end
attribute [local irreducible] binOp IntKind.wrap Sem.run
theorem bW (k:Int) (s:Bs) (w:World):(Instr.build 37 ⟨[(0,.int .i64 k),(1,Bm s)]⟩).run PP w=.ok (.agg ⟨[.int .i64 k,Bm s,.slice none 0 0,.slice none 0 0]⟩) w:=by kernel_rfl
theorem Jf (pp:Nat) (b:Bs) (a st n kind:Nat) (w:World) (hS:PB w pp b a st) (ha:a+n<=b.length) (hn:0<n) (hb:b.length<=100000000):
  Calls PP 93 #[pt pp,.int .i64 (kind:Int),.int .i64 (n:Int)] w fun e w'=>e=.returned (.agg ⟨[.int .i64 (kind:Int),Bm ((b.drop a).take n),.slice none 0 0,.slice none 0 0]⟩)/\PB w' pp b (a+n) st/\Fm pp [120] w w':=by
 refine Bf (L:=[(0,pt pp),(1,.int .i64 (kind:Int)),(2,.int .i64 (n:Int))]) Tryz.func93 Z Z Z ⟨Z,Z,Z,V⟩ ?_;have am:=hS.lt;repeat (apply Ac)
 refine Dk Z Z Z (fun w1 d=>?_);have j:=hS.up (d.up Y);have x:Up w.heap.size w w1:=d.up Y;have y:=d.at_;have l:=d.size;obtain⟨v1,q1,ad,cap,rfl,an,m⟩:=id j;have z:b≠[]:=by rintro rfl;simp only [List.length_nil] at ha;omega
 obtain⟨bb,o,dcs,et,fz,rfl,aa,ab,ao⟩:=m z;have hK:pp<w1.heap.size:=by omega
 have hd:∀k,k<w1.heap.size->w1.drew.heap[k]?=w1.heap[k]?:=fun _ _=>rfl;have k1:∀w':World,(∀k,k<w1.heap.size->w'.heap[k]?=w1.heap[k]?)->w'.cell? ⟨pp,1,none⟩=some (.int .i64 (a:Int)):=fun w' hw=>Ar (by rw [hw _ hK];exact q1) rfl;have k0:∀w':World,(∀k,k<w1.heap.size->w'.heap[k]?=w1.heap[k]?)->w'.cell? ⟨pp,0,none⟩=some (.slice (some ⟨bb,o,none⟩) b.length cap):=fun w' hw=>Ar (by rw [hw _ hK];exact q1) rfl;have ac:((b.drop a).take n).length=n:=by rw [List.length_take,Yh];omega
 repeat first|apply Ab|apply Ad
 refine Cp (fun w'=>∀k,k<w1.heap.size->w'.heap[k]?=w1.heap[k]?) ?_;repeat first|refine Cg (by kernel_rfl) (by first|trivial|assumption) Z ?_|refine Cl (by kernel_rfl) hd Z Z k0 Z ?_|refine Cl (by kernel_rfl) hd Z Z k1 Z ?_|refine Kv (by kernel_rfl) (by first|trivial|assumption) Z Z (by omega) Z ?_
 refine Dr n a (by kernel_rfl) hd Z Z (Sf.mk bb o cap) Z (by simp only [Option.getD];omega) (by omega) (fun ad'=>rfl) (fun ad' ae=>?_);refine cE ((b.drop a).take n) (by kernel_rfl) hd Z Z (fun w' af=>⟨ad',cap-a,by rw [ac],fun _=>⟨bb,o+a,dcs,et,fz,ae.addr (by omega),by rw [af _ (by omega)];exact aa,(ab.drop a).take _⟩⟩) Z ?_;refine WX.bd (by kernel_rfl) hd Z Z (bW _ _) Z ?_;refine WX.al (by kernel_rfl) Z Z Z (fun w2 c=>⟨fun k hk=>c.oth k hk,?_⟩);refine WX.sg (by kernel_rfl) Z Z Z (by simp [Bp]) c.at_ (by simp) Z (fun w3 f=>⟨fun k hk=>(f.oth k (by show k≠w1.heap.size;omega)).trans (c.oth k hk),?_⟩);refine Co ?_;have p:w3.heap[w1.drew.heap.size]?=some (.cells ⟨[.int .i64 (kind:Int),Bm ((b.drop a).take n),.slice none 0 0,.slice none 0 0]⟩ 37 (0,0)):=by simpa using f.at_
 have g:Up w1.heap.size w1 w3:=(Sm.refl w1).drew.up.trans ((c.up Y).trans (f.up Y));have q:=j.upB g hK;have r:=g.at (by omega) y;have s:w3.heap.size=w1.heap.size+1:=by rw [f.size,c.size];rfl
 generalize t:w1.drew.heap.size=K1 at p ⊢;have u:w1.heap.size=K1:=t;rw [u] at g hK s l;clear t;generalize ag:w.heap.size=K0 at *;clear f c k0 k1 hd m d;obtain⟨v3,r1,r2⟩:=id q;repeat first|refine Aa Z ?_|apply Ac|refine Av Z Z r1 Z Z ?_|apply An|refine Ay Z Z (by omega) Z ?_
 refine Bk Z Z Z r1 Z Z (fun w4 h=>?_);obtain⟨ah,ai⟩:=PB.st (n:=a+n) r1 r2 h;have aj:=h.keep p (by omega);have v:=h.keep r (by omega);repeat first|apply Ab|apply Ac|refine Fz (b:=K1) Z Z aj Z Z ?_
 refine Bx Z Z Z (by simp [Bp]) v (by simp) Z (fun w5 i=>?_);have ak:w5.heap[K0]?=some (.cells ⟨[.int .i64 (kind:Int),Bm ((b.drop a).take n),.slice none 0 0,.slice none 0 0]⟩ 37 (0,0)):=by simpa using i.at_
 repeat first|apply Ab|apply Ai
 refine Ch Z Z Z ak Z ⟨rfl,ah.upB (i.up (B:=K0) Y) (by omega),?_⟩;have hF:Fm pp [120] w w4:=((x.fm (T:=[120]) (B':=pp) (by omega) (by omega)).trans ((g.mono (B':=K1) Y).fm (by omega) (by omega))).trans ai;exact hF.upN (ag▸i.up (B:=K0) Y) (by omega)
end
section
theorem shli {a n:Nat} (h:a*2^n<2^63) (hn:n<64) (t:Nat) (w:World):(binOp .shl t (.int .i64 (a:Int)) (.int .u64 (n:Int))).run PP w=.ok (.int .i64 ((a*2^n:Nat):Int)) w:=by
 show (Op.shift .shl .i64 (a:Int) .u64 (n:Int)).run PP w=_;unfold Op.shift;rw [if_neg (by omega)];have hm:min (n:Int).toNat IntKind.i64.bits=n:=by simp [IntKind.bits];omega
 simp only [hm,Sem.run_pure];have:(a:Int)*2^n=((a*2^n:Nat):Int):=by simp
 rw [this,Ei ⟨by omega,by omega⟩]
theorem ori {a b c:Nat} (ha:a<2^62) (hb:b<2^62) (hc:a ||| b=c) (t:Nat) (w:World):(binOp .or t (.int .i64 (a:Int)) (.int .i64 (b:Int))).run PP w=.ok (.int .i64 (c:Int)) w:=by
 subst hc;have h:(BitVec.ofInt 64 (a:Int) ||| BitVec.ofInt 64 (b:Int)).toNat=a ||| b:=by
  rw [Ha,Ha,BitVec.toNat_or,BitVec.toNat_ofNat,BitVec.toNat_ofNat,Nat.mod_eq_of_lt (by omega),Nat.mod_eq_of_lt (by omega)]
 have hl:a ||| b<2^62:=Nat.or_lt_two_pow ha hb;show (Op.intBits .or .i64 (a:Int) (b:Int)).run PP w=_;unfold Op.intBits;simp only [Sem.run_pure];rw [show (BitVec.ofInt IntKind.i64.bits (a:Int) ||| BitVec.ofInt IntKind.i64.bits (b:Int)).toNat=a ||| b from h,Ei ⟨by omega,by omega⟩]
theorem fF (v x:Nat) (hx:x<16):v*2^4 ||| x=v*16+x:=by
 have h:=Nat.shiftLeft_add_eq_or_of_lt (i:=4) (show x<2^4 by omega) v;rw [Nat.shiftLeft_eq] at h;rw [<-h]
theorem Zh {v:Nat} (h:Jh v):Utf8.encode (v:Int)=⟨(Ey v).toArray⟩:=by
 have hv:Utf8.valid (v:Int)=true:=by
  obtain⟨h1,h2⟩:=h;simp only [Utf8.valid,Bool.and_eq_true,Bool.or_eq_true,decide_eq_true_eq];omega
 unfold Utf8.encode Ey;simp only [hv,if_true,Int.toNat_natCast];by_cases h1:v<0x80
 ·rw [if_pos h1,if_pos h1]
 ·rw [if_neg h1,if_neg h1];by_cases h2:v<0x800
  ·rw [if_pos h2,if_pos h2]
  ·rw [if_neg h2,if_neg h2];by_cases h3:v<0x10000
   ·rw [if_pos h3,if_pos h3]
   ·rw [if_neg h3,if_neg h3]
theorem eB (base:Nat):∀(l:Bs) (n:Nat),n<=Fc base l->(∀c∈l.take n,Fb c<base)/\n<=l.length
 | l,0,_=>⟨by simp,Nat.zero_le _⟩
 | [],n+1,h=>by simp [Fc] at h
 | c::l,n+1,h=>by
  rw [Fc] at h;split at h
  ·rename_i hc;obtain⟨h1,h2⟩:=eB base l n (by omega);refine⟨fun x hx=>?_,by simp only [Ya];omega⟩;rw [List.take_succ_cons] at hx;rcases List.mem_cons.1 hx with rfl|hx
   ·exact hc
   ·exact h1 x hx
  ·omega
theorem Qv {b:Bs} {p k:Nat} (h:p+k<b.length):(b.drop p).take (k+1)=(b.drop p).take k++[pk b (p+k)]:=by
 have hc:b[p+k]?=some b[p+k]:=Yd h;have a:pk b (p+k)=b[p+k]:=by simp [pk,List.getD,hc]
 rw [List.take_add_one,List.getElem?_drop,hc,a];rfl
section
attribute [local semireducible] WL WC X WD WX
variable {all:List Oper} {Q:Exit->Act->World->Prop} {N:Nat} {L L':Env} {o:Oper} {rest:List Oper} {w:World}
theorem gN {t n e:Nat} {vs:List (Nat×Value)} {c:Array Value} (hg:Ez all L o=some true) (h:bsA L o.op=some (t,n,vs))
  (hr:∀w,(Instr.buildSlice t n ⟨vs⟩).run PP w=.ok (.slice (F w.heap.size) n n) (w.alloc (.cells c e (0,0))))
  (hd:Cu N o (.slice (F w.heap.size) n n) L=some L') (k:WL all Q N L' rest (w.alloc (.cells c e (0,0)))):WL all Q N L (o::rest) w:=
 Ca hg (fun a hf=>by rw [Dn hf h];simp [hr]) hd k
def slS (L:Env) (op:Op):Option (ByteArray×Int×Int):=
 match op with
 | .slice t x (some z) (some y) none=>cond (Nat.beq t 9) (match ev L x,ev L z,ev L y with
  | some (.string s),some (.int .i64 i),some (.int .i64 j)=>some (s,i,j)
  | _,_,_=>none) none
 | _=>none
theorem WL.sl9 {s:ByteArray} {i j:Int} (m n:Nat) (hg:Ez all L o=some true) (h:slS L o.op=some (s,i,j)) (hi:i=(m:Int)) (hj:j=(n:Int)) (hm:m<=n) (hn:n<=s.size) (hd:Cu N o (.string (s.extract m n)) L=some L') (k:WL all Q N L' rest w):WL all Q N L (o::rest) w:=by
 refine Ca hg (fun a hf=>?_) hd k;subst hi hj;obtain⟨dst,op,ty,Gh,after,guard⟩:=o;simp only at h;unfold slS at h;split at h
 ·rename_i t x z y;cases ht:Nat.beq t 9 with
  | false=>simp [ht] at h
  | true=>
   have:t=9:=(by simpa using ht);subst this;simp only [ht,cond_true] at h;split at h
   ·rename_i s' i' j' hx hz hy;simp only [Yb,Prod.mk.injEq] at h;obtain⟨rfl,rfl,rfl⟩:=h;simp [execOp,hf.eval hx,hf.eval hy,hf.eval hz,Instr.sliceAt,Instr.slice,run_underlying Ek,Instr.sliceBounds,Instr.sliceBound,asIntOf,hn,hm]
   ·cases h
 ·cases h
end
attribute [local irreducible] binOp IntKind.wrap Sem.run
def Oh:Bs:=[98,116,110,102,114,34,92]
def bD:Bs:=[8,9,10,12,13,34,92]
theorem esc_tab:∀k,k<7->∃x y,Oh[k]?=some x/\bD[k]?=some y/\Rh x=some y/\(⟨bD.toArray⟩:ByteArray).extract k (k+1)=⟨[y].toArray⟩:=by
 intro k hk;have a:k=0∨k=1∨k=2∨k=3∨k=4∨k=5∨k=6:=by omega
 rcases a with rfl|rfl|rfl|rfl|rfl|rfl|rfl;all_goals exact⟨_,_,rfl,rfl,by decide,by rfl⟩
theorem bsEsc (w:World):(Instr.buildSlice 23 7 ⟨[(0,.int .u8 98),(1,.int .u8 116),(2,.int .u8 110),(3,.int .u8 102),(4,.int .u8 114),(5,.int .u8 34),(6,.int .u8 92)]⟩).run PP w=.ok (.slice (F w.heap.size) 7 7) (w.alloc (.cells (Oh.map u8).toArray 5 (0,0))):=by kernel_rfl
end
section
attribute [local irreducible] binOp IntKind.wrap Sem.run
theorem Tv (pp:Nat) (b:Bs) (a st:Nat) (w:World) (hS:PB w pp b a st) (ha:a<=b.length) (hb:b.length<=100000000):
  Calls PP 109 #[pt pp] w fun e w'=>∃a' st' u,e=.returned (Bm u)/\PB w' pp b a' st'/\Fm pp [120,1001] w w'/\a<=a'/\a'<=b.length+10/\u.length<=4/\(st'=0->st=0/\Vc (b.drop a) u (b.drop a')/\a'<=b.length)/\(st'≠0->st≠0∨b.length<=a'):=by
 refine Bf (L:=[(0,pt pp)]) Tryz.func109 Z Z Z ⟨Z,V⟩ ?_;have bx:=hS.lt;repeat first|refine Aa Z ?_|apply Ab|apply Ac
 refine Ae Z Z Z (Cj pp b a st 0 w hS (by omega) (by omega) (by omega)) ?_;rintro e w1 ⟨he,aj⟩;have au:=hS.sm aj;rw [Nat.add_zero] at he;subst he;refine T2 Z Z ?_;obtain⟨c,hc⟩:∃c,c=pk b a:=⟨_,rfl⟩;rw [<-hc];have ag:c≠0->a<b.length/\b.drop a=c::b.drop (a+1):=fun h=>by
  have:=Fd (b:=b) (a:=a) (by rw [<-hc];exact h);rw [<-hc] at this;exact this
 obtain⟨v1,r1,r2⟩:=id au;repeat first|refine Aa Z ?_|apply Ab|apply Ac|refine Av Z Z r1 Z Z ?_|refine Ay Z Z (by omega) Z ?_
 refine Bk Z Z Z r1 Z Z (fun w2 av=>?_);obtain⟨aw,ax⟩:=PB.st (n:=a+1) r1 r2 av;have ah:Fm pp [120] w w2:=aj.fm.trans ax;repeat first|apply Ab|apply Ac|apply Ad
 refine gN Z Z bsEsc Z ?_;refine Nh Z Z (Go.Lib.run_convert_bytes_const (P:=PP) w2 23 5 (Oh.map u8).toArray 7 7 Ki Xk) Z ?_;have t:=Br w2 (.cells (Oh.map u8).toArray 5 ((Oh.map u8).toArray.size,(Oh.map u8).toArray.size+1));generalize w2.alloc (.cells (Oh.map u8).toArray 5 ((Oh.map u8).toArray.size,(Oh.map u8).toArray.size+1))=w3 at t ⊢;have ae:=aw.up (t.up Y);have aa:Fm pp [120,1001] w w3:=(Fu ah).trans (t.fm (by have:=ah.size;omega));have ay:=t.at_;generalize w2.heap.size=rb at *;clear t aw av r1 r2 au aj ax;repeat first|refine Aa Z ?_|apply Ab|refine Iq (x:=.block _ (.loop _)) (σ:=Unit) (fun _ w'=>w'=w3/\∀j,j<7->∀x,Oh[j]?=some x->c≠x) (fun _=>[(0,pt pp),(3,u8 c)]) ?_ ?_|apply Ag
 ·skip;refine Bg (σ:=Nat) (I:=fun k w'=>w'=w3/\k<=7/\∀j,j<k->∀x,Oh[j]?=some x->c≠x) (m:=fun k=>7-k) (Lf:=fun k=>[(0,pt pp),(3,u8 c),(20,.slice (F rb) 7 7),(21,.int .i64 7),(22,.int .i64 (k:Int))])
   0 ⟨rfl,Nat.zero_le _,fun j hj=>by omega⟩ ⟨Z,Z,Z,Z,Z,V⟩ ?_
  rintro k w4 ⟨rfl,hk,ak⟩;by_cases az:k<7
  ·obtain⟨x,y,hx,hy,ba,bb⟩:=esc_tab k az;have al:w4.cell? ⟨rb,0+k*1,none⟩=some (u8 x):=Ar ay (by rw [Yi,Nat.mul_one,List.getElem?_toArray,List.getElem?_map,hx];rfl);(repeat first|refine Aa Z ?_|apply Ab|apply Ac|refine Ao Z (by first|omega|decide) ?_|refine Ax (i:=k) Z Z Z az Z ?_|refine Aw Z Z al Z ?_|apply Ad|apply Ag|apply An|apply Af);by_cases am:c=x
   ·subst am;have h0:c≠0:=(by rintro rfl;revert ba;simp [Rh]);obtain⟨bc,r⟩:=ag h0;(repeat first|refine Aa Z ?_|apply Ab|apply Ac|refine Ao Z (by first|omega|decide) ?_|refine WL.sl9 (s:=⟨bD.toArray⟩) k (k+1) Z Z Z Z (by omega) (by simp [ByteArray.size,bD];omega) Z ?_|apply Bl|apply Bv|apply Ai|refine Ay Z Z (by omega) Z ?_);rw [bb];skip;exact Ak Z Z ⟨a+1,st,[y],rfl,ae,aa,by omega,by omega,by simp,(fun h=>⟨h,by rw [r];exact Vc.ch ba,by omega⟩),fun h=>.inl h⟩
   ·have bt:¬c.toNat=x.toNat:=fun h=>am (UInt8.toNat_inj.1 h);(repeat first|refine Aa Z ?_|refine Aj Z (by first|omega|decide) ?_|apply Am|apply Aq|apply An|apply Bj|apply Af|refine Ay Z Z (by omega) Z ?_);refine Ap (k+1) ⟨rfl,by omega,fun j hj z hz=>?_⟩ (by omega) ⟨Z,Z,Z,Z,Z,V⟩;by_cases bl:j<k
    ·exact ak j bl z hz
    ·have:j=k:=(by omega);subst this;rw [hx] at hz;cases hz;exact am
  ·have:k=7:=(by omega);subst this;(repeat first|refine Aa Z ?_|apply Ab|apply Ac|refine Aj Z (by first|omega|decide) ?_|apply Ad|apply Cn|apply Ci|apply Ba);exact Bh () ⟨rfl,ak⟩ ⟨Z,Z,V⟩
 ·rintro _ w4 ⟨rfl,ak⟩;repeat first|refine Aa Z ?_|apply Ab|apply Ac|refine Iq (x:=.block _ _) (σ:=Nat) (fun n w'=>w'=w4/\((c=117/\n=4)∨(c=85/\n=8)∨n=0)) (fun n=>[(0,pt pp),(6,.int .i64 (n:Int))]) ?_ ?_|apply Ad|apply Ag
  ·by_cases bd:c.toNat=117
   ·have e:c=117:=UInt8.toNat_inj.1 bd;(repeat first|refine Aa Z ?_|refine Ao Z (by first|omega|decide) ?_|apply Am|apply Aq|apply Bj);exact Bh 4 ⟨rfl,.inl ⟨e,rfl⟩⟩ ⟨Z,Z,V⟩
   ·by_cases bm:c.toNat=85
    ·have e:c=85:=UInt8.toNat_inj.1 bm;(repeat first|refine Aa Z ?_|apply Ab|apply Ac|refine Ao Z (by first|omega|decide) ?_|refine Aj Z (by first|omega|decide) ?_|apply Am|apply Aq|apply Bj);exact Bh 8 ⟨rfl,.inr (.inl ⟨e,rfl⟩)⟩ ⟨Z,Z,V⟩
    ·(repeat first|refine Aa Z ?_|apply Ab|apply Ac|refine Aj Z (by first|omega|decide) ?_|apply Bj|apply Af);exact Bh 0 ⟨rfl,.inr (.inr rfl)⟩ ⟨Z,Z,V⟩
  ·rintro n w5 ⟨rfl,hn⟩;have bz:n<=8:=(by omega);by_cases be:n=0
   ·subst be;(repeat first|refine Aa Z ?_|apply Ab|apply Ac|refine Bn Z (by first|with_reducible rfl|exact Bool.not_false) ?_|refine Au Z ?_|apply Ad|refine Bc Z Z (by first|omega|decide) ?_);refine Ae Z Z Z (Dg pp b (a+1) st w5 ae) ?_;rintro e w6 ⟨rfl,ab,bn⟩;refine T2 Z Z ?_;(repeat first|refine Aa Z ?_|apply Ab|apply Ac|apply Bl|apply Ai);exact Ak Z Z ⟨b.length,_,[],rfl,ab,aa.trans (Fu bn),by omega,by omega,by simp,(fun h=>by split at h<;>omega),fun _=>.inr Y⟩
   ·(repeat first|refine Aa Z ?_|apply Ac|refine Au Z ?_|apply Ad|refine Az Z Z (by first|omega|decide) ?_);refine Ae Z Z Z (Ok pp b (a+1) st 0 16 w5 ae (by omega) (by omega) hb (by omega) (by omega)) ?_;rintro e w6 ⟨he,bf⟩;obtain⟨g,hg⟩:∃g,Fc 16 (b.drop (a+1+0))=g:=⟨_,rfl⟩;rw [hg] at he;subst he;refine T2 Z Z ?_;have ab:=ae.sm bf;have ai:=aa.trans (bf.fm (B:=pp) (T:=[120,1001]));by_cases ca:g<n
    ·(repeat first|refine Aa Z ?_|apply Ab|apply Ac|refine Ao Z (by first|omega|decide) ?_|refine Au Z ?_);refine Ae Z Z Z (Dg pp b (a+1) st w6 ab) ?_;rintro e w7 ⟨rfl,an,bo⟩;refine T2 Z Z ?_;(repeat first|refine Aa Z ?_|apply Ab|apply Ac|apply Bl|apply Ai);exact Ak Z Z ⟨b.length,_,[],rfl,an,ai.trans (Fu bo),by omega,by omega,by simp,(fun h=>by split at h<;>omega),fun _=>.inr Y⟩
    ·rw [Nat.add_zero] at hg;obtain⟨f,bg⟩:=eB 16 (b.drop (a+1)) n (by omega);rw [Yh] at bg;have ao:(c=117/\n=4)∨(c=85/\n=8):=by
      rcases hn with h|h|h
      ·exact .inl h
      ·exact .inr h
      ·exact absurd h be
     have bp:c≠0:=(by rcases ao with ⟨h,_⟩|⟨h,_⟩<;>rw [h]<;>decide);obtain⟨bc,r⟩:=ag bp;repeat first|refine Aa Z ?_|apply Ab|apply Ac|refine Aj Z (by first|omega|decide) ?_|refine Iq (x:=.block _ (.loop _)) (σ:=Nat) (fun v w'=>Sm w6 w'/\v=Ja ((b.drop (a+1)).take n)/\v<4294967296) (fun v=>[(0,pt pp),(6,.int .i64 (n:Int)),(7,.int .i64 (v:Int))]) ?_ ?_|refine Au Z ?_|apply Ad|apply Ag|apply An|apply Af
     ·skip;refine Bg (σ:=Nat×Nat) (I:=fun s w'=>Sm w6 w'/\s.1<=n/\s.2=Ja ((b.drop (a+1)).take s.1)/\s.2<16^s.1) (m:=fun s=>n-s.1) (Lf:=fun s=>[(0,pt pp),(6,.int .i64 (n:Int)),(7,.int .i64 (s.2:Int)),(50,.int .i64 (n:Int)),(51,.int .i64 (s.1:Int))])
       (0,0) ⟨Sm.refl _,Nat.zero_le _,by simp [Ja],by simp⟩ ⟨Z,Z,Z,Z,Z,V⟩ ?_
      rintro⟨k,v⟩ w7 ⟨l,hk,hv,bh⟩;dsimp only at hk hv bh ⊢;have cb:16^k<=16^8:=Nat.pow_le_pow_right (by omega) (by omega);by_cases cc:k<n
      ·have bu:16^k<=16^7:=Nat.pow_le_pow_right (by omega) (by omega);(repeat first|refine Aa Z ?_|apply Ab|apply Ac|refine Ao Z (by first|omega|decide) ?_|apply Ad|apply Ag|apply An|apply Af);refine Ae Z Z Z (Cj pp b (a+1) st k w7 (ab.sm l) (by omega) (by omega) (by omega)) ?_;rintro e w8 ⟨rfl,ap⟩;refine T2 Z Z ?_;have bi:=Qv (b:=b) (p:=a+1) (k:=k) (by omega);have bj:Fb (pk b (a+1+k))<16:=f _ (by
        have:(b.drop (a+1)).take n=(b.drop (a+1)).take (k+1)++((b.drop (a+1)).take n).drop (k+1):=by
         have h1:=List.take_append_drop (k+1) ((b.drop (a+1)).take n);rw [List.take_take,Nat.min_eq_left (by omega)] at h1;exact h1.symm
        rw [this,bi];simp)
       have aq:∀{c:UInt8},Fb c<16->(48<=c.toNat/\c.toNat<=57/\Fb c=c.toNat-48)∨(97<=c.toNat/\c.toNat<=102/\Fb c=c.toNat-87)∨(65<=c.toNat/\c.toNat<=70/\Fb c=c.toNat-55):=fun {c} h=>by
        unfold Fb at h ⊢;split
        ·rename_i q;exact .inl ⟨q.1,q.2,rfl⟩
        ·split
         ·rename_i q;exact .inr (.inl ⟨q.1,q.2,rfl⟩)
         ·split
          ·rename_i q;exact .inr (.inr ⟨q.1,q.2,rfl⟩)
          ·rename_i q1 q2 q3;rw [if_neg q1,if_neg q2,if_neg q3] at h;omega
       have ac:Ja ((b.drop (a+1)).take (k+1))=v*16+Fb (pk b (a+1+k)):=(by rw [bi,Su,<-hv]);have cd:16^(k+1)=16^k*16:=Nat.pow_succ _ _;have bq:=aq bj;generalize pk b (a+1+k)=x at *;rcases bq with ⟨q1,q2,q3⟩|⟨q1,q2,q3⟩|⟨q1,q2,q3⟩
       ·have e1:(x.toNat:Int)-48=((x.toNat-48:Nat):Int):=(by omega);(repeat first|refine Aa Z ?_|apply Ab|apply Ac|refine Aj Z (by first|omega|decide) ?_|refine Bo Z Z (shli (a:=v) (n:=4) (by omega) (by omega) _ _) Z ?_|refine Bo Z Z (e1▸ori (a:=v*2^4) (b:=x.toNat-48) (by omega) (by omega) (fF v (x.toNat-48) (by omega)) _ _) Z ?_|apply Ad|apply Am|apply Ag|apply Aq|apply An|apply Bj|refine Ay Z Z (by omega) Z ?_|refine Fs Z Z (by omega) Z ?_|refine Ff Z Z (Ei (by omega)) Z ?_);exact Ap (k+1,v*16+(x.toNat-48)) ⟨l.trans ap,by dsimp only;omega,by dsimp only;rw [ac,q3],by dsimp only;omega⟩ (by dsimp only;omega) ⟨Z,Z,Z,Z,Z,V⟩
       ·have e1:(x.toNat:Int)-87=((x.toNat-87:Nat):Int):=(by omega);(repeat first|refine Aa Z ?_|apply Ab|apply Ac|refine Ao Z (by first|omega|decide) ?_|refine Bo Z Z (shli (a:=v) (n:=4) (by omega) (by omega) _ _) Z ?_|refine Bo Z Z (e1▸ori (a:=v*2^4) (b:=x.toNat-87) (by omega) (by omega) (fF v (x.toNat-87) (by omega)) _ _) Z ?_|apply Ad|apply Am|apply Ag|apply Aq|apply An|apply Bj|refine Ay Z Z (by omega) Z ?_|refine Fs Z Z (by omega) Z ?_|refine Ff Z Z (Ei (by omega)) Z ?_);exact Ap (k+1,v*16+(x.toNat-87)) ⟨l.trans ap,by dsimp only;omega,by dsimp only;rw [ac,q3],by dsimp only;omega⟩ (by dsimp only;omega) ⟨Z,Z,Z,Z,Z,V⟩
       ·have e1:(x.toNat:Int)-55=((x.toNat-55:Nat):Int):=(by omega);(repeat first|refine Aa Z ?_|apply Ab|apply Ac|refine Ao Z (by first|omega|decide) ?_|refine Aj Z (by first|omega|decide) ?_|refine Bo Z Z (shli (a:=v) (n:=4) (by omega) (by omega) _ _) Z ?_|refine Bo Z Z (e1▸ori (a:=v*2^4) (b:=x.toNat-55) (by omega) (by omega) (fF v (x.toNat-55) (by omega)) _ _) Z ?_|apply Ad|apply Am|apply Ag|apply Aq|apply An|apply Bj|refine Ay Z Z (by omega) Z ?_|refine Fs Z Z (by omega) Z ?_|refine Ff Z Z (Ei (by omega)) Z ?_);exact Ap (k+1,v*16+(x.toNat-55)) ⟨l.trans ap,by dsimp only;omega,by dsimp only;rw [ac,q3],by dsimp only;omega⟩ (by dsimp only;omega) ⟨Z,Z,Z,Z,Z,V⟩
      ·have:k=n:=(by omega);subst this;(repeat first|refine Aa Z ?_|apply Ab|apply Ac|refine Aj Z (by first|omega|decide) ?_|apply Ad|apply Cn|apply Ci|apply Ba);exact Bh v ⟨l,hv,by omega⟩ ⟨Z,Z,Z,V⟩
     ·rintro v w7 ⟨l,hv,bv⟩;have an:=ab.sm l;have bk:=ai.trans (l.fm (B:=pp) (T:=[120,1001]));obtain⟨v7,s1,s2⟩:=id an;(repeat first|refine Aa Z ?_|apply Ac|refine Av Z Z s1 Z Z ?_|refine Ay Z Z (by omega) Z ?_);refine Bk Z Z Z s1 Z Z (fun w8 br=>?_);obtain⟨af,bs⟩:=PB.st (n:=a+1+n) s1 s2 br;have ad:=bk.trans (Fu bs);have bad:∀(e:Ending) (w9:World),(e=.returned (.tuple #[])/\PB w9 pp b b.length (if st=0 then 1 else st)/\Fm pp [120] w8 w9)->PB w9 pp b b.length (if st=0 then 1 else st)/\Fm pp [120,1001] w w9:=fun e w9 h=>⟨h.2.1,ad.trans (Fu h.2.2)⟩;by_cases bw:v > 1114111
      ·(repeat first|refine Aa Z ?_|apply Ab|apply Ac|refine Bn Z (by first|with_reducible rfl|exact Bool.not_false) ?_|refine Au Z ?_|apply Ad|refine Bc Z Z (by first|omega|decide) ?_);refine Ae Z Z Z (Dg pp b (a+1+n) st w8 af) ?_;intro e w9 h9;obtain⟨k1,k2⟩:=bad e w9 h9;obtain⟨rfl,_⟩:=h9;refine T2 Z Z ?_;(repeat first|refine Aa Z ?_|apply Ab|apply Ac|apply Bl|apply Ai);exact Ak Z Z ⟨b.length,_,[],rfl,k1,k2,by omega,by omega,by simp,(fun h=>by split at h<;>omega),fun _=>.inr Y⟩
      ·by_cases ce:55296<=v
       ·by_cases cf:v<57344
        ·(repeat first|refine Aa Z ?_|apply Ab|apply Ac|refine Ao Z (by first|omega|decide) ?_|refine Au Z ?_|apply Ad|refine Bc Z Z (by first|omega|decide) ?_|refine Az Z Z (by first|omega|decide) ?_);refine Ae Z Z Z (Dg pp b (a+1+n) st w8 af) ?_;intro e w9 h9;obtain⟨k1,k2⟩:=bad e w9 h9;obtain⟨rfl,_⟩:=h9;refine T2 Z Z ?_;(repeat first|refine Aa Z ?_|apply Ab|apply Ac|apply Bl|apply Ai);exact Ak Z Z ⟨b.length,_,[],rfl,k1,k2,by omega,by omega,by simp,(fun h=>by split at h<;>omega),fun _=>.inr Y⟩
        ·have o:Jh v:=⟨by omega,by omega⟩;have ar:∀w':World,(convert 21 9 (.int .i32 (v:Int))).run PP w'=.ok (Bm (Ey v)) w':=fun w'=>(by rw [Tb,Zh o]);(repeat first|refine Aa Z ?_|apply Ab|apply Ac|refine Aj Z (by first|omega|decide) ?_|refine Nh Z Z (ar _) Z ?_|refine Au Z ?_|apply Ad|apply An|apply Af|apply Ai|refine Bc Z Z (by first|omega|decide) ?_|refine Az Z Z (by first|omega|decide) ?_|refine Ff Z Z (Gu (by omega)) Z ?_);refine Ak Z Z ⟨a+1+n,st,Ey v,rfl,af,ad,by omega,by omega,(Zv v).2,(fun h=>⟨h,?_,by omega⟩),fun h=>.inl h⟩;have d:=List.take_append_drop n (b.drop (a+1));rw [List.drop_drop] at d;have hl:((b.drop (a+1)).take n).length=n:=(by rw [List.length_take,Yh];omega);rw [r,<-d,hv];rcases ao with ⟨rfl,rfl⟩|⟨rfl,rfl⟩
         ·exact Vc.u hl f (hv▸o)
         ·exact Vc.U hl f (hv▸o)
       ·have o:Jh v:=⟨by omega,by omega⟩;have ar:∀w':World,(convert 21 9 (.int .i32 (v:Int))).run PP w'=.ok (Bm (Ey v)) w':=fun w'=>(by rw [Tb,Zh o]);(repeat first|refine Aa Z ?_|apply Ab|apply Ac|refine Bb Z (by first|with_reducible rfl|exact Bool.not_true) ?_|refine Nh Z Z (ar _) Z ?_|refine Au Z ?_|apply Ad|apply An|apply Af|apply Ai|refine Az Z Z (by first|omega|decide) ?_|refine Ff Z Z (Gu (by omega)) Z ?_);refine Ak Z Z ⟨a+1+n,st,Ey v,rfl,af,ad,by omega,by omega,(Zv v).2,(fun h=>⟨h,?_,by omega⟩),fun h=>.inl h⟩;have d:=List.take_append_drop n (b.drop (a+1));rw [List.drop_drop] at d;have hl:((b.drop (a+1)).take n).length=n:=(by rw [List.length_take,Yh];omega);rw [r,<-d,hv];rcases ao with ⟨rfl,rfl⟩|⟨rfl,rfl⟩
        ·exact Vc.u hl f (hv▸o)
        ·exact Vc.U hl f (hv▸o)
theorem Cd {w w':World} {B B' e s n:Nat} {T:List Nat} {v:Value} {xs:List Value} (h:w.ownsRow B e s v n xs) (hf:Fm B' T w w') (he:e∉T):w'.ownsRow B e s v n xs:=by
 refine⟨h.1,?_⟩;rcases h.2 with hn|⟨g,cap,cur,rfl,hb,a,rest⟩
 ·exact .inl hn
 ·exact .inr ⟨g,cap,cur,rfl,hb,hf.keep _ _ a he,rest⟩
theorem RB.rx {w v l} (h:RB w v l):RX w v l:=by
 obtain⟨ad,cap,h1,h2⟩:=h;exact⟨ad,cap,h1,fun hl=>let ⟨b,o,dc,fz,h3,h4,h5⟩:=h2 hl;⟨b,o,dc,5,fz,h3,h4,h5⟩⟩
theorem Tw {w:World} {bb o e:Nat} {dc:Array Value} {fz:Nat×Nat} {l:Bs} (h:w.heap[bb]?=some (.cells dc e fz)) (a:BA dc o l) (j:Nat) (u:Value) (hu:(l.map u8)[j]?=some u):w.cell? ((⟨bb,o,none⟩:Addr).add j)=some u:=by
 rw [List.getElem?_map] at hu;cases hx:l[j]? with
 | none=>simp [hx] at hu
 | some x=>
  simp only [hx,Option.map_some,Yb] at hu;subst hu;rw [Ij];exact Ar h (a j x hx)
theorem fJ {B a s a':Nat} (h1:s=0->a<a') (h2:a<B):(if s=0 then B-a' else 0)<(if 0=0 then B-a else 0):=by
 rw [if_pos rfl];split
 ·rename_i h;have:=h1 h;omega
 ·omega
def SQ (q:UInt8) (b o r:Bs):Prop:=(q=34/\Fn b o r)∨(q=39/\Gn b o r)
theorem SQ.close {q:UInt8} (h:q=34∨q=39) (r:Bs):SQ q (q::r) [] r:=by
 rcases h with rfl|rfl
 ·exact .inl ⟨rfl,.close r⟩
 ·exact .inr ⟨rfl,.close r⟩
theorem SQ.sign {q:UInt8} {b o r:Bs} (n:Nat) (h1:b.head?≠some q) (h2:q=34->b.head?≠some 92) (h3:Dm b=n) (h4:0<n) (h:SQ q (b.drop n) o r):SQ q b (b.take n++o) r:=by
 rcases h with ⟨rfl,h⟩|⟨rfl,h⟩
 ·exact .inl ⟨rfl,.sign n h1 (h2 rfl) h3 h4 h⟩
 ·exact .inr ⟨rfl,.sign n h1 h3 h4 h⟩
theorem SQ.esc {b u b' o r:Bs} (h1:Vc b u b') (h:SQ 34 b' o r):SQ 34 (92::b) (u++o) r:=by
 rcases h with ⟨_,h⟩|⟨h,_⟩
 ·exact .inl ⟨rfl,.esc h1 h⟩
 ·cases h
theorem Uw {b:Bs} {a:Nat} (h:a<b.length):b.drop a=pk b a::b.drop (a+1):=by
 have hc:b[a]?=some b[a]:=Yd h;have c:pk b a=b[a]:=by simp [pk,List.getD,hc]
 rw [c];exact (List.drop_eq_getElem?_toList_append).trans (by rw [hc];rfl)
theorem Xz (pp:Nat) (q:UInt8) (b:Bs) (a:Nat) (w:World) (hq:q=34∨q=39) (hS:PB w pp b a 0) (ha:a<b.length) (hb:b.length<=100000000):
  Calls PP 90 #[pt pp,u8 q] w fun e w'=>∃a' st' out,e=.returned (Bm out)/\PB w' pp b a' st'/\Fm pp [120,1001] w w'/\a<=a'/\a'<=b.length+10/\(st'=0->a'<=b.length/\a<a'/\SQ q (b.drop (a+1)) out (b.drop a'))/\(st'≠0->b.length<=a'):=by
 have ab:=hS.lt;refine Bf (L:=[(0,pt pp),(1,u8 q)]) Tryz.func90 Z Z Z ⟨Z,Z,V⟩ ?_;repeat first|refine Aa Z ?_|apply Ab|apply Ac
 refine Ec Z Z bs0 Z (fun w1 ac=>?_);have ax:Ob w.heap.size w1 (.slice (F w.heap.size) 0 0) []:=Ob.lit ac Z Z Y (by omega);have ay:=hS.up (ac.up Y);have az:Fm pp [120,1001] w w1:=ac.fm (by omega);obtain⟨v1,r1,r2⟩:=id ay;repeat first|refine Aa Z ?_|apply Ab|apply Ac|refine Av Z Z r1 Z Z ?_|refine Ay Z Z (by omega) Z ?_
 refine Bk Z Z Z r1 Z Z (fun w2 ba=>?_);obtain⟨bc,ak⟩:=PB.st (n:=a+1) r1 r2 ba;have bd:=Cd ax ak (by simp);have aj:=az.trans (Fu ak);generalize hK:w.heap.size=K at *;clear ba r1 r2 ay ac az ak ax hS;repeat first|apply Ab|apply Ad|apply Ag
 refine Bg (σ:=Nat×Nat×Bs×Value) (I:=fun s w'=>PB w' pp b s.1 s.2.1/\Fm pp [120,1001] w w'/\a<s.1/\s.1<=b.length+10/\(s.2.1=0->s.1<=b.length/\Ob K w' s.2.2.2 s.2.2.1/\s.2.2.1.length<=4*s.1/\∀o r,SQ q (b.drop s.1) o r->SQ q (b.drop (a+1)) (s.2.2.1++o) r)/\(s.2.1≠0->b.length<=s.1))
  (m:=fun s=>if s.2.1=0 then b.length+20-s.1 else 0) (Lf:=fun s=>[(0,pt pp),(1,u8 q),(5,s.2.2.2)])
  (a+1,0,[],_) ⟨bc,aj,by dsimp only;omega,by dsimp only;omega,(fun _=>⟨by dsimp only;omega,bd,by simp,fun o r h=>h⟩),fun h=>absurd rfl h⟩ ⟨Z,Z,Z,V⟩ ?_
 clear bc aj bd;rintro⟨a1,s1,l,v⟩ w3 ⟨hP,hF,h1,h2,h3,h4⟩;dsimp only at hP h1 h2 h3 h4 ⊢;obtain⟨vb,q1,q2⟩:=id hP;have be:K<=w3.heap.size:=hK▸hF.size;by_cases bf:s1=0
 ·subst bf;obtain⟨cc,hO,cd,hG⟩:=h3 rfl;(repeat first|refine Aa Z ?_|apply Ab|apply Ac|refine Ao Z (by first|omega|decide) ?_|refine Av Z Z q1 Z Z ?_|apply Ad|apply Ag|apply An|apply Af);refine Ae Z Z Z (Cj pp b a1 0 0 w3 hP (by omega) (by omega) (by omega)) ?_;rintro e w4 ⟨he,ae⟩;rw [Nat.add_zero] at he;subst he;refine T2 Z Z ?_;have al:=hP.sm ae;have bg:=hF.trans (ae.fm (B:=pp) (T:=[120,1001]));have bh:Ob K w4 v l:=Cd (B':=pp) (T:=[]) hO ae.fm (by simp);have bm:K<=w4.heap.size:=(by rw [ae.heap];exact be);clear hP hO hF be q1 q2;obtain⟨vb,q1,q2⟩:=id al;obtain⟨ad,cap,rfl,bn,am⟩:=id q2;have hd:w4.drew.heap=w4.heap:=rfl;have k1:∀w':World,w'.heap=w4.heap->w'.cell? ⟨pp,1,none⟩=some (.int .i64 (a1:Int)):=fun w' hw=>Ar (by rw [hw];exact q1) rfl;have k0:∀w':World,w'.heap=w4.heap->w'.cell? ⟨pp,0,none⟩=some (.slice ad b.length cap):=fun w' hw=>Ar (by rw [hw];exact q1) rfl;(repeat first|refine Aa Z ?_|apply Ab|apply Ad|apply Ag);refine Cp (fun w'=>w'.heap=w4.heap) ?_;(repeat first|refine Cg (by kernel_rfl) (by first|trivial|assumption) Z ?_|refine Cl (by kernel_rfl) hd Z Z k0 Z ?_|refine Cl (by kernel_rfl) hd Z Z k1 Z ?_);refine Co ?_;have af:Sm w4 w4.drew:=(Sm.refl _).drew;have j:=al.sm af;have ag:=bg.trans (af.fm (B:=pp) (T:=[120,1001]));have an:Ob K w4.drew v l:=Cd (B':=pp) (T:=[]) bh af.fm (by simp);have ce:K<=w4.drew.heap.size:=bm;clear al bg bh af k0 k1 hd q1 q2 am;generalize w4.drew=w5 at *;by_cases ca:b.length<=a1
  ·(repeat first|refine Aa Z ?_|refine Ao Z (by first|omega|decide) ?_|apply Am|apply An);refine Ae Z Z Z (Dg pp b a1 0 w5 j) ?_;rintro e w6 ⟨rfl,f,d⟩;refine T2 Z Z ?_;(repeat first|apply Aq|apply Bj);exact Ap (b.length,1,l,v) ⟨f,ag.trans (Fu d),by dsimp only;omega,by dsimp only;omega,(fun h=>by cases h),fun _=>Nat.le_refl _⟩ (fJ (fun h=>by cases h) (by omega)) ⟨Z,Z,Z,V⟩
  ·have ao:a1<b.length:=(by omega);have ah:=Uw ao;obtain⟨c,hc⟩:∃c,c=pk b a1:=⟨_,rfl⟩;rw [<-hc] at ah ⊢;by_cases ap:c=q
   ·subst ap;obtain⟨vb,p1,p2⟩:=id j;(repeat first|refine Aa Z ?_|apply Ab|apply Ac|refine Ao Z (by first|omega|decide) ?_|refine Aj Z (by first|omega|decide) ?_|refine Av Z Z p1 Z Z ?_|apply An|refine Ay Z Z (by omega) Z ?_);refine Bk Z Z Z p1 Z Z (fun w6 aq=>?_);obtain⟨f,d⟩:=PB.st (n:=a1+1) p1 p2 aq;have p:Ob K w6 v l:=Cd an d (by simp);(repeat first|refine Aa Z ?_|apply Ab|apply Ac|refine Tg l Z Z p.rb.rx Z ?_|apply Bl|apply Bv|apply Ai);exact Ak Z Z ⟨a1+1,0,l,rfl,f,ag.trans (Fu d),by omega,by omega,(fun _=>⟨by omega,by omega,by
     have:=hG [] (b.drop (a1+1)) (by rw [ah];exact SQ.close hq _);rwa [List.append_nil] at this⟩),fun h=>absurd rfl h⟩
   ·have cb:¬c.toNat=q.toNat:=fun h=>ap (UInt8.toNat_inj.1 h);have t:∀x,c≠x->(b.drop a1).head?≠some x:=fun x hx=>(by rw [ah];simpa using hx);by_cases y:c=92/\q=34
    ·obtain⟨rfl,rfl⟩:=y;obtain⟨vb,p1,p2⟩:=id j;(repeat first|refine Aa Z ?_|apply Ab|apply Ac|refine Ao Z (by first|omega|decide) ?_|refine Aj Z (by first|omega|decide) ?_|refine Av Z Z p1 Z Z ?_|refine Au Z ?_|apply An|refine Ay Z Z (by omega) Z ?_|refine Bc Z Z (by first|omega|decide) ?_);refine Bk Z Z Z p1 Z Z (fun w6 aq=>?_);obtain⟨f,d⟩:=PB.st (n:=a1+1) p1 p2 aq;have p:Ob K w6 v l:=Cd an d (by simp);(repeat first|refine Aa Z ?_|apply Ab|apply Am);refine Ae Z Z Z (Tv pp b (a1+1) 0 w6 f (by omega) hb) ?_;rintro e w7 ⟨a2,s2,u,rfl,z,g,g1,g2,g3,g4,g9⟩;refine T2 Z Z ?_;have ar:Ob K w7 v l:=Cd p g (by simp);have i:=(ag.trans (Fu d)).trans g;refine nV u Z Z ar (by omega) (by rw [<-hK];exact i.size) (fun v' w8 bo bi=>⟨_,rfl,?_⟩);(repeat first|refine Aa Z ?_|apply Aq|apply Bj);refine Ap (a2,s2,l++u,v') ⟨z.upB bi ab,i.upN (by rw [hK];exact bi) (by omega),by dsimp only;omega,by dsimp only;omega,fun h=>?_,fun h=>(g9 h).elim (fun h=>absurd rfl h) (fun h=>h)⟩ (fJ (fun _=>by omega) (by omega)) ⟨Z,Z,Z,V⟩;dsimp only at h ⊢;obtain⟨_,g5,g6⟩:=g4 h;refine⟨g6,bo,by rw [Ye];omega,fun o r ai=>?_⟩;have:=hG (u++o) r (by rw [ah];exact SQ.esc g5 ai);rwa [<-List.append_assoc] at this
    ·have au:q=34->c≠92:=fun h h'=>y ⟨h',h⟩;have bp:¬(c.toNat=92/\q.toNat=34):=fun h=>y ⟨UInt8.toNat_inj.1 h.1,UInt8.toNat_inj.1 h.2⟩;have av:c.toNat≠92∨(c.toNat=92/\q.toNat=39):=by
      rcases hq with rfl|rfl
      ·exact .inl fun h=>bp ⟨h,rfl⟩
      ·by_cases h:c.toNat=92
       ·exact .inr ⟨h,rfl⟩
       ·exact .inl h
     rcases av with av|⟨av,cf⟩;all_goals
      (repeat first|refine Aa Z ?_|apply Ab|apply Ac|refine Bb Z (by first|with_reducible rfl|exact Bool.not_true) ?_|refine Aj Z (by first|omega|decide) ?_|refine Au Z ?_|apply An|refine Bc Z Z (by first|omega|decide) ?_|refine Az Z Z (by first|omega|decide) ?_);refine Ae Z Z Z (Sh pp b a1 0 w5 j ao hb) ?_;rintro e w6 ⟨n,ok,rfl,aw,bq,cg⟩;refine T2 Z Z ?_;have f:=j.up aw;have d:=ag.trans (aw.fm (T:=[120,1001]) Y (Nat.le_of_lt j.lt));have p:Ob K w6 v l:=Bi an (fun k o hk h=>aw.at (Ah h) h);have br:K<=w6.heap.size:=(by rw [<-hK];exact d.size);cases ok with
      | false=>
       (repeat first|refine Aa Z ?_|apply Ab|apply Ac|refine Bn Z (by first|with_reducible rfl|exact Bool.not_false) ?_|apply Ad);refine Ae Z Z Z (Dg pp b a1 0 w6 f) ?_;rintro e w7 ⟨rfl,z,g⟩;refine T2 Z Z ?_;(repeat first|refine Aa Z ?_|apply Ab|apply Ac|apply Bl|apply Bv|apply Ai);exact Ak Z Z ⟨b.length,1,[],rfl,z,d.trans (Fu g),by omega,by omega,(fun h=>by cases h),fun _=>Nat.le_refl _⟩
      | true=>
       obtain⟨e1,e2,e3⟩:=bq rfl;obtain⟨vb,p1,p2⟩:=id f;obtain⟨ad,cap,rfl,bn,am⟩:=id p2;obtain⟨bb,o,dcs,et,fz,rfl,bs,bt,ch⟩:=am (by rintro rfl;simp at ao);have hd:∀k,k<K->w6.drew.heap[k]?=w6.heap[k]?:=fun _ _=>rfl;have k1:∀w':World,(∀k,k<K->w'.heap[k]?=w6.heap[k]?)->w'.cell? ⟨pp,1,none⟩=some (.int .i64 (a1:Int)):=fun w' hw=>Ar (by rw [hw _ ab];exact p1) rfl;have k0:∀w':World,(∀k,k<K->w'.heap[k]?=w6.heap[k]?)->w'.cell? ⟨pp,0,none⟩=some (.slice (some ⟨bb,o,none⟩) b.length cap):=fun w' hw=>Ar (by rw [hw _ ab];exact p1) rfl;have aa:((b.drop a1).take n).length=n:=(by rw [List.length_take,Yh];omega);(repeat first|refine Aa Z ?_|apply Ab|apply Ac|refine Bb Z (by first|with_reducible rfl|exact Bool.not_true) ?_|apply Ad|apply An|apply Af);refine Cp (fun w'=>∀k,k<K->w'.heap[k]?=w6.heap[k]?) ?_;(repeat first|refine Cg (by kernel_rfl) (by first|trivial|assumption) Z ?_|refine Cl (by kernel_rfl) hd Z Z k0 Z ?_|refine Cl (by kernel_rfl) hd Z Z k1 Z ?_|refine Kv (by kernel_rfl) (by first|trivial|assumption) Z Z (by omega) Z ?_);refine Dr n a1 (by kernel_rfl) hd Z Z (Sf.mk bb o cap) Z (by simp only [Option.getD];omega) (by omega) (fun ad'=>rfl) (fun ad' bu=>?_);have bv:=bu.addr (by omega);subst bv;refine gM (B:=K) (((b.drop a1).take n).map u8) (by kernel_rfl) Z Z (rfl:Fx 23=some (5,1)) (Bi p (fun _ _ _ h=>h)) (by rw [List.length_map,aa];omega) (Tw bs ((bt.drop a1).take n)) (fun u hu=>by obtain⟨x,_,rfl⟩:=List.mem_map.1 hu;rfl) (by omega) br (fun v' w7 ar g _=>?_);have bw:∀k,k<K->w7.heap[k]?=w6.heap[k]?:=fun k hk=>g.old k hk;refine⟨bw,_,rfl,?_⟩;(repeat (refine Cg (by kernel_rfl) (by first|trivial|assumption) Z ?_));refine Co ?_;have bj:Up K w6 w7:=(Sm.refl w6).drew.up.trans g.up;have z:=f.upB bj ab;have i:=d.upN (hK▸bj) (by omega);have bk:Ob K w7 v' (l++(b.drop a1).take n):=by
        unfold Ob;rw [Ye,List.map_append,aa];exact ar
       obtain⟨vb7,u1,u2⟩:=id z;(repeat first|refine Aa Z ?_|refine Av Z Z u1 Z Z ?_|apply Am|apply An|refine Ay Z Z (by omega) Z ?_);refine Bk Z Z Z u1 Z Z (fun w8 bx=>?_);obtain⟨bz,bl⟩:=PB.st (n:=a1+n) u1 u2 bx;(repeat first|apply Aq|apply Bj);refine Ap (a1+n,0,l++(b.drop a1).take n,v') ⟨bz,i.trans (Fu bl),by dsimp only;omega,by dsimp only;omega,fun _=>⟨by dsimp only;omega,Cd bk bl (by simp),?_,fun o r ai=>?_⟩,fun h=>absurd rfl h⟩ (fJ (fun _=>by omega) (by omega)) ⟨Z,Z,Z,V⟩
       ·dsimp only;rw [Ye,aa];omega
       ·dsimp only at ai ⊢;have:=hG ((b.drop a1).take n++o) r (SQ.sign n (t q ap) (fun h=>t 92 (au h)) e1 e2 (by rw [List.drop_drop];exact ai));rwa [<-List.append_assoc] at this
 ·(repeat first|refine Aa Z ?_|apply Ab|apply Ac|refine Aj Z (by first|omega|decide) ?_|refine Av Z Z q1 Z Z ?_|apply Ad|apply An|apply Cn|apply Ci|apply Ba|apply Ai);exact Ak Z Z ⟨a1,s1,[],rfl,hP,hF,by omega,h2,(fun h=>absurd h bf),h4⟩
end
end Go.Proofs.YtaccphdkapmdhaaGreat
