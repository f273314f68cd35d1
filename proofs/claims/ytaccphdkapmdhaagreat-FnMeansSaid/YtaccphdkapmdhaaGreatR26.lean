/- The writer writes texts that read as what it was told. No condition. -/
import Derived.Test.YtaccphdkapmdhaaGreatR12
namespace Go.Proofs.YtaccphdkapmdhaaGreat
set_option maxRecDepth 100000
set_option maxHeartbeats 64000000
set_option linter.all false
section
theorem Bt (a b:Bs) (h:a.length+b.length<=4611686018427387904) (t:Nat) (w:World):(binOp .add t (Bm a) (Bm b)).run PP w=.ok (Bm (a++b)) w:=by
 rw [binOp_string_add,run_string_add_sum w _ _ (by simp [ByteArray.size];omega),ByteArray.mk_append_mk]
theorem Ip (k:IntKind) (a b:Nat) (h:0<b) (t:Nat) (w:World):(binOp .rem t (.int k (a:Int)) (.int k (b:Int))).run PP w=.ok (.int k ((a%b:Nat):Int)) w:=by
 have h0:¬((b:Int)=0):=by omega
 rw [binOp_rem];unfold Op.intDiv;rw [if_neg h0];simp only [Sem.run_pure];rfl
theorem shrU (k:IntKind) (a n:Nat) (hn:n<32) (hk:32<=k.bits) (t:Nat) (w:World) (k2:IntKind):(binOp .shr t (.int k (a:Int)) (.int k2 (n:Int))).run PP w=.ok (.int k ((a/2^n:Nat):Int)) w:=by
 show (Op.shift .shr k (a:Int) k2 (n:Int)).run PP w=_;unfold Op.shift;rw [if_neg (by omega)];have hm:min (n:Int).toNat k.bits=n:=by rw [Int.toNat_natCast];omega
 simp only [hm,Sem.run_pure];congr 2;rw [show (2:Int)^n=((2^n:Nat):Int) by simp,Int.fdiv_eq_ediv_of_nonneg _ (Int.natCast_nonneg _),Int.natCast_ediv]
section
attribute [local semireducible] WL WC X WD WX
variable {all:List Oper} {Q:Exit->Act->World->Prop} {N:Nat} {L L':Env} {o:Oper} {rest:List Oper} {w:World} {S:World->Prop}
def rgA (L:Env) (op:Op):Option ByteArray:=
 match op with
 | .range t x=>cond (Nat.beq t 9) (match ev L x with
  | some (.string s)=>some s
  | _=>none) none
 | _=>none
theorem eO {s:ByteArray} (hg:Ez all L o=some true) (h:rgA L o.op=some s) (hd:Cu N o (.pointer (F w.heap.size)) L=some L')
  (k:∀w',Al w (.stringIter s 0) w'->WL all Q N L' rest w'):WL all Q N L (o::rest) w:=by
 refine Ca (w':=w.iter s 0) hg (fun a hf=>?_) hd (k _ (Br w _));obtain⟨dst,op,ty,Gh,after,guard⟩:=o;simp only at h;unfold rgA at h;split at h
 ·rename_i t x;cases ht:Nat.beq t 9 with
  | false=>simp [ht] at h
  | true=>
   have:t=9:=(by simpa using ht);subst this;simp only [ht,cond_true] at h;split at h
   ·rename_i s' hx;simp only [Yb] at h;subst h;simp [execOp,hf.eval hx,run_range_string w 9 s' Ek]
   ·cases h
 ·cases h
def nxA (L:Env) (op:Op):Option Nat:=
 match op with
 | .next x true=>match ev L x with
  | some (.pointer (some ⟨r,0,none⟩))=>some r
  | _=>none
 | _=>none
def World.put (w:World) (r:Nat) (o:Obj):World:={ w with heap:=w.heap.setIfInBounds r o }
theorem fD {w:World} {r:Nat} {o o0:Obj} (h:w.heap[r]?=some o0):St w r o (World.put w r o):=by
 refine⟨rfl,rfl,rfl,by simp [World.put],?_,fun k hk=>?_⟩
 ·have:=Ah h;simp [World.put,Array.getElem?_setIfInBounds,this]
 ·simp only [World.put];rw [Array.getElem?_setIfInBounds_ne (fun e=>hk e.symm)]
theorem mH {w:World} {r Gh:Nat} {l:Bs} {c:UInt8} (ty:TypeId) (hr:w.heap[r]?=some (.stringIter ⟨l.toArray⟩ Gh)) (hc:l[Gh]?=some c) (ha:c.toNat<128):
  (Instr.next (.pointer (F r)) true ty).run PP w=.ok (.tuple #[.bool true,.int .i64 Gh,.int .i32 (c.toNat:Int)]) (World.put w r (.stringIter ⟨l.toArray⟩ (Gh+1))):=by
 have hl:=(Yc.1 hc).1;have h1:Gh<(⟨l.toArray⟩:ByteArray).size:=by simpa [ByteArray.size] using hl
 have h2:(⟨l.toArray⟩:ByteArray)[Gh]'h1=c:=by
  have:=(Yc.1 hc).2;rw [<-this];rfl
 have hd:=decode_ascii ⟨l.toArray⟩ Gh h1 (by rw [h2];exact ha);rw [h2] at hd;have a:=Ah hr;simp only [Instr.next,getObj,setObj,Sem.run_bind,Sem.run,hr,Result.andThen,h1,if_true,hd];simp [goInt,Sem.run,hr,World.put]
theorem jQ {w:World} {r Gh:Nat} {l:Bs} (ty:TypeId) (hr:w.heap[r]?=some (.stringIter ⟨l.toArray⟩ Gh)) (hc:l.length<=Gh):
  (Instr.next (.pointer (F r)) true ty).run PP w=.ok (.tuple #[.bool false]) w:=by
 have h1:¬Gh<(⟨l.toArray⟩:ByteArray).size:=by simp [ByteArray.size];omega
 simp [Instr.next,getObj,Sem.run,hr,h1]
theorem aE {r:Nat} {a:Act} (hf:Fr N L a) (h:nxA L o.op=some r):execOp a.eval o=(do pure (.value (<-Instr.next (.pointer (F r)) true o.type))):=by
 obtain⟨dst,op,ty,Gh,after,guard⟩:=o;simp only at h;unfold nxA at h;split at h
 ·rename_i x;split at h
  ·rename_i r' hx;simp only [Yb] at h;subst h;simp only [execOp,hf.eval hx]
  ·cases h
 ·cases h
theorem iW {r Gh:Nat} {l:Bs} {c:UInt8} (hg:Ez all L o=some true) (h:nxA L o.op=some r) (hr:w.heap[r]?=some (.stringIter ⟨l.toArray⟩ Gh)) (hc:l[Gh]?=some c) (ha:c.toNat<128)
  (hd:Cu N o (.tuple ⟨[.bool true,.int .i64 (Gh:Int),.int .i32 (c.toNat:Int)]⟩) L=some L') (k:∀w',St w r (.stringIter ⟨l.toArray⟩ (Gh+1)) w'->WL all Q N L' rest w'):WL all Q N L (o::rest) w:=
 Ca hg (fun a hf=>by rw [aE hf h];simp [mH o.type hr hc ha]) hd (k _ (fD hr))
theorem cG {r Gh:Nat} {l:Bs} (hg:Ez all L o=some true) (h:nxA L o.op=some r) (hr:w.heap[r]?=some (.stringIter ⟨l.toArray⟩ Gh)) (hc:l.length<=Gh)
  (hd:Cu N o (.tuple ⟨[.bool false]⟩) L=some L') (k:WL all Q N L' rest w):WL all Q N L (o::rest) w:=
 Ca hg (fun a hf=>by rw [aE hf h];simp [jQ o.type hr hc]) hd k
def isA (L:Env) (op:Op):Option (ByteArray×Int):=
 match op with
 | .index t x i=>cond (Nat.beq t 9) (match ev L x,ev L i with
  | some (.string s),some (.int _ j)=>some (s,j)
  | _,_=>none) none
 | _=>none
theorem isA_run {l:Bs} {j:Int} {i:Nat} {c:UInt8} {a:Act} (hf:Fr N L a) (h:isA L o.op=some (⟨l.toArray⟩,j)) (hj:j=(i:Int)) (hc:l[i]?=some c) (w:World):
  (execOp a.eval o).run PP w=.ok (.value (u8 c)) w:=by
 subst hj;obtain⟨dst,op,ty,Gh,after,guard⟩:=o;simp only at h;unfold isA at h;split at h
 ·rename_i t x y;cases ht:Nat.beq t 9 with
  | false=>simp [ht] at h
  | true=>
   have:t=9:=(by simpa using ht);subst this;simp only [ht,cond_true] at h;split at h
   ·rename_i s k j' hx hy;simp only [Yb,Prod.mk.injEq] at h;obtain⟨rfl,rfl⟩:=h;have hl:=(Yc.1 hc).1;have h1:i<(⟨l.toArray⟩:ByteArray).size:=(by simpa [ByteArray.size] using hl);have h2:(⟨l.toArray⟩:ByteArray)[i]?=some c:=by
     rw [ByteArray.getElem?_lt' _ _ h1];have:=(Yc.1 hc).2;rw [<-this];rfl
    simp [execOp,hf.eval hx,hf.eval hy,Instr.index,asIntOf,run_underlying Ek,h2]
   ·cases h
 ·cases h
theorem WL.is {l:Bs} {j:Int} {i:Nat} {c:UInt8} (hg:Ez all L o=some true) (h:isA L o.op=some (⟨l.toArray⟩,j)) (hj:j=(i:Int)) (hc:l[i]?=some c) (hd:Cu N o (u8 c) L=some L') (k:WL all Q N L' rest w):WL all Q N L (o::rest) w:=
 Ca hg (fun _ hf=>isA_run hf h hj hc w) hd k
def cvS (L:Env) (op:Op):Option (Nat×Nat×Value):=
 match op with
 | .convert src dst x=>match ev L x with
  | some v=>some (src,dst,v)
  | none=>none
 | _=>none
theorem Nh {src dst:Nat} {x v:Value} {w':World} (hg:Ez all L o=some true) (h:cvS L o.op=some (src,dst,x)) (hr:(convert src dst x).run PP w=.ok v w') (hd:Cu N o v L=some L') (k:WL all Q N L' rest w'):WL all Q N L (o::rest) w:=by
 refine Ca hg (fun a hf=>?_) hd k;obtain⟨dst',op,ty,Gh,after,guard⟩:=o;simp only at h;unfold cvS at h;split at h
 ·rename_i s d y;split at h
  ·rename_i v' hx;simp only [Yb,Prod.mk.injEq] at h;obtain⟨rfl,rfl,rfl⟩:=h;simp [execOp,hf.eval hx,hr]
  ·cases h
 ·cases h
end
theorem lT (c:UInt8) (h:c.toNat<128) (w:World):(convert 21 9 (.int .i32 (c.toNat:Int))).run PP w=.ok (Bm [c]) w:=by
 have hs:(PP.underlying 21).isSome=true:=by kernel_rfl
 rw [run_convert_int_string w 21 9 .i32 (c.toNat:Int) hs Ek];have hv:Utf8.valid (c.toNat:Int)=true:=by simp [Utf8.valid];omega
 unfold Utf8.encode;simp only [hv,if_true,Int.toNat_natCast,h];simp
def RC (w:World) (v:Value) (l:Bs):Prop:=RB w v l/\∃ad cap,v=.slice ad l.length cap/\l.length<=cap
theorem lD (l:Bs) (w:World):∃v w',(convert 9 23 (Bm l)).run PP w=.ok v w'/\RC w' v l/\Up w.heap.size w w':=by
 have h:=run_bytes_of_string (P:=PP) w 9 23 5 ⟨l.toArray⟩ Ek Ki Xk;refine⟨_,_,h,⟨?_,_,_,rfl,grownCap_ge _ _ _ _⟩,?_⟩
 ·refine⟨_,_,rfl,fun _=>⟨w.heap.size,0,_,_,rfl,heap_alloc_new w.drew _,fun i c hc=>?_⟩⟩;rw [Yi];unfold bytesRow;have hl:=(Yc.1 hc).1;rw [Array.getElem?_append_left (by simpa using hl)];simp [hc]
 ·exact⟨rfl,rfl,rfl,by simp,fun k hk=>heap_alloc_old w.drew _ k hk⟩
end
section
attribute [local irreducible] binOp IntKind.wrap Sem.run
def RF (B:Nat) (w:World) (v:Value) (l:Bs):Prop:=∃ad cap,v=.slice ad l.length cap/\(l≠[]->∃b o dc e fz,ad=some ⟨b,o,none⟩/\w.heap[b]?=some (.cells dc e fz)/\BA dc o l/\b<B)
theorem RF.fm {B B' T w w' v l} (h:RF B w v l) (hf:Fm B' T w w') (hT:T=[]):RF B w' v l:=by
 obtain⟨ad,cap,h1,h2⟩:=h;refine⟨ad,cap,h1,fun hl=>?_⟩;obtain⟨b,o,dc,e,fz,h3,h4,h5,h6⟩:=h2 hl;exact⟨b,o,dc,e,fz,h3,hf.keep _ _ h4 (by rw [hT];simp),h5,h6⟩
theorem RF.old {B T w w' v l} (h:RF B w v l) (hf:Fm B T w w'):RF B w' v l:=by
 obtain⟨ad,cap,h1,h2⟩:=h;refine⟨ad,cap,h1,fun hl=>?_⟩;obtain⟨b,o,dc,e,fz,h3,h4,h5,h6⟩:=h2 hl;exact⟨b,o,dc,e,fz,h3,(hf.old b h6).trans h4,h5,h6⟩
theorem RF.upS {w w' v l} (h:RF w.heap.size w v l) (hu:Up w.heap.size w w'):RF w'.heap.size w' v l:=by
 obtain⟨ad,cap,h1,h2⟩:=h;refine⟨ad,cap,h1,fun hl=>?_⟩;obtain⟨b,o,dc,e,fz,h3,h4,h5,h6⟩:=h2 hl;exact⟨b,o,dc,e,fz,h3,hu.at h6 h4,h5,Nat.lt_of_lt_of_le h6 hu.size⟩
def SB (w:World) (sp:Nat) (code:Bs) (i:Nat):Prop:=∃v,w.heap[sp]?=some (.cells ⟨[v,.int .i64 (i:Int)]⟩ 68 (0,0))/\RF sp w v code
theorem SB.fm {B T w w' sp code i} (h:SB w sp code i) (hf:Fm B T w w') (h5:T=[]) (a:68∉T):SB w' sp code i:=by
 obtain⟨v,h1,h2⟩:=h;exact⟨v,hf.keep _ _ h1 a,h2.fm hf h5⟩
theorem SB.fms {T w w' sp code i} (h:SB w sp code i) (hf:Fm sp T w w') (a:68∉T):SB w' sp code i:=by
 obtain⟨v,h1,h2⟩:=h;exact⟨v,hf.keep _ _ h1 a,h2.old hf⟩
theorem SB.lt {w sp code i} (h:SB w sp code i):sp<w.heap.size:=by
 obtain⟨v,h1,h2⟩:=h;exact Ah h1
def Mq (code:Bs) (i:Nat):Nat:=match code[i]? with
 | some c=>c.toNat
 | none=>i*7
def Gg (code:Bs) (i:Nat):Nat:=i+24*(code.length-i)
theorem Gg.succ (code:Bs) (i:Nat):Gg code (i+1)<=Gg code i+1:=by unfold Gg;omega
theorem Gg.ge (code:Bs) (i:Nat):i<=Gg code i:=by unfold Gg;omega
theorem En (sp:Nat) (code:Bs) (i n:Nat) (w:World) (hS:SB w sp code i) (hi:i<=1000000000) (hn:0<n):
  Calls PP 25 #[.pointer (F sp),.int .i64 (n:Int)] w fun e w'=>e=.returned (.int .i64 ((Mq code i%n:Nat):Int))/\SB w' sp code (i+1)/\Fm sp [68] w w':=by
 obtain⟨v,h1,hv⟩:=hS;have k:=hv;obtain⟨ad,cap,rfl,hc⟩:=hv;refine Bf (L:=[(0,.pointer (F sp)),(1,.int .i64 (n:Int))]) Tryz.func25 Z Z Z ⟨Z,Z,V⟩ ?_;repeat first|refine Aa Z ?_|apply Ab|apply Ac|refine Av (b:=sp) (i:=1) Z Z h1 Z Z ?_|refine iX Z Z (by omega) Z ?_|refine Cr (x:=.seq _ (.cond _ _ _)) (σ:=Unit) (fun _ w'=>Sm w w') (fun _=>[(0,.pointer (F sp)),(1,.int .i64 (n:Int)),(5,.int .i64 (Mq code i:Int))]) ?_ ?_|apply Ad
 ·have hd:w.drew.heap=w.heap:=rfl;have k1:∀w':World,w'.heap=w.heap->w'.cell? ⟨sp,1,none⟩=some (.int .i64 (i:Int)):=fun w' hw=>Ar (by rw [hw];exact h1) rfl;have k0:∀w':World,w'.heap=w.heap->w'.cell? ⟨sp,0,none⟩=some (.slice ad code.length cap):=fun w' hw=>Ar (by rw [hw];exact h1) rfl;refine Cp (fun w'=>w'.heap=w.heap) ?_;(repeat first|refine Cg (by kernel_rfl) (by first|trivial|assumption) Z ?_|refine Cl (by kernel_rfl) hd Z Z k0 Z ?_|refine Cl (by kernel_rfl) hd Z Z k1 Z ?_);refine Co ?_;by_cases c:i<code.length
  ·have l:code≠[]:=(by rintro rfl;simp at c);obtain⟨b,o,dc,_,fz,rfl,hb,m,_⟩:=hc l;have g:code[i]?=some code[i]:=Yd c;have d:Mq code i=code[i].toNat:=(by simp [Mq,g]);have k5:∀w':World,w'.heap=w.heap->w'.cell? ⟨b,o+i,none⟩=some (u8 code[i]):=fun w' hw=>Ar (by rw [hw];exact hb) (m i _ g);have a:w.drew.drew.heap=w.heap:=rfl;(repeat first|refine Ao Z (by first|omega|decide) ?_|apply An);refine Cp (fun w'=>w'.heap=w.heap) ?_;(repeat first|refine Cg (by kernel_rfl) (by first|trivial|assumption) Z ?_|refine Cl (by kernel_rfl) a Z Z k0 Z ?_|refine Cl (by kernel_rfl) a Z Z k1 Z ?_|refine Il (i:=i) (by kernel_rfl) a Z Z Z c (by rw [Nat.mul_one];rfl) ?_|refine Cl (by kernel_rfl) a Z Z k5 Z ?_|refine Rs (by kernel_rfl) a Z Z (Ei (by have:=code[i].toNat_lt;omega)) Z ?_);refine Co ?_;skip;exact Bh () ((Sm.refl _).drew.drew) ⟨rfl,rfl,by rw [d];rfl,trivial⟩
  ·have d:Mq code i=i*7:=(by simp [Mq,List.getElem?_eq_none (show code.length<=i by omega)]);(repeat first|refine Aj Z (by first|omega|decide) ?_|apply An|apply Af);exact Bh () ((Sm.refl _).drew) ⟨rfl,rfl,by rw [d];rfl,trivial⟩
 ·rintro _ w1 h;have f:=h.at h1;(repeat first|refine Aa Z ?_|apply Ac|refine Av (b:=sp) (i:=1) Z Z f Z Z ?_|refine Ay Z Z (by omega) Z ?_);refine Bk Z Z Z f Z Z (fun w2 j=>?_);have hF:Fm sp [68] w w2:=h.fm.trans (j.fm f Y (by simp [Ce]) rfl);(repeat first|refine Aa Z ?_|apply Ab|apply Ac|refine Bo Z Z (Ip .i64 (Mq code i) n hn _ _) Z ?_|apply Ai);exact Ak Z Z ⟨rfl,⟨_,j.at_,k.old hF⟩,hF⟩
abbrev Dq (l:List Bs):Array Value:=⟨l.map Bm⟩
theorem Wu (a b c:Bs) (w:World):(Instr.buildSlice 34 3 ⟨[(0,Bm a),(1,Bm b),(2,Bm c)]⟩).run PP w=.ok (.slice (F w.heap.size) 3 3) (w.alloc (.cells (Dq [a,b,c]) 9 (0,0))):=by kernel_rfl
theorem bsS4 (a b c d:Bs) (w:World):(Instr.buildSlice 34 4 ⟨[(0,Bm a),(1,Bm b),(2,Bm c),(3,Bm d)]⟩).run PP w=.ok (.slice (F w.heap.size) 4 4) (w.alloc (.cells (Dq [a,b,c,d]) 9 (0,0))):=by kernel_rfl
theorem Xu (a b c d e:Bs) (w:World):(Instr.buildSlice 34 5 ⟨[(0,Bm a),(1,Bm b),(2,Bm c),(3,Bm d),(4,Bm e)]⟩).run PP w=.ok (.slice (F w.heap.size) 5 5) (w.alloc (.cells (Dq [a,b,c,d,e]) 9 (0,0))):=by kernel_rfl
theorem Nu {l:List Bs} {i:Nat} {s:Bs} (h:l[i]?=some s):(Dq l)[i]?=some (Bm s):=by
 rw [List.getElem?_toArray,List.getElem?_map,h];rfl
def Wro (sp:Nat) (code:Bs) (i K:Nat) (P:Bs->Prop) (w:World) (e:Ending) (w':World):Prop:=
 ∃s j,e=.returned (Bm s)/\P s/\SB w' sp code j/\Fm sp [68] w w'/\s.length+Gg code j<=Gg code i+K
def Uy:List Bs:=[[],[],[32],[9],[32,32]]
theorem gK:∀s∈Uy,BL s/\s.length<=2:=by
 intro s hs;simp only [Uy,List.mem_cons,List.not_mem_nil,or_false] at hs;rcases hs with rfl|rfl|rfl|rfl|rfl;all_goals exact⟨fun c hc=>by
  first
   | (simp at hc;done)
   | (simp only [List.mem_cons,List.not_mem_nil,or_false] at hc;rcases hc with rfl|rfl<;>decide)
   | (simp only [List.mem_cons,List.not_mem_nil,or_false] at hc;subst hc;decide),by decide⟩
theorem Ds (sp:Nat) (code:Bs) (i:Nat) (w:World) (hS:SB w sp code i) (hi:i<=1000000000):
  Calls PP 27 #[.pointer (F sp)] w fun e w'=>∃s,e=.returned (Bm s)/\BL s/\s.length<=2/\SB w' sp code (i+1)/\Fm sp [68] w w':=by
 have g:=hS.lt;refine Bf (L:=[(0,.pointer (F sp))]) Tryz.func27 Z Z Z ⟨Z,V⟩ ?_;repeat first|refine Aa Z ?_|apply Ab|apply Ac
 refine Ec Z Z (Xu [] [] [32] [9] [32,32]) Z (fun w1 hA=>?_);have b:Fm sp [68] w w1:=hA.fm (by omega);have c:=hS.fm (hA.fm (B:=0) (T:=[]) O) (by simp) (by simp);repeat (refine Aa Z ?_)
 refine Ae Z Z Z (En sp code i 5 w1 c hi (by omega)) ?_;rintro e w2 ⟨rfl,d,a⟩;refine T2 Z Z ?_;have hr:Mq code i%5<5:=Nat.mod_lt _ (by omega);generalize Mq code i%5=r at hr;have f:=a.keep _ _ hA.at_ (by simp [Ce]);obtain⟨s,hs⟩:∃s,Uy[r]?=some s:=⟨_,Yd (by simpa [Uy] using hr)⟩;obtain⟨h1,h2⟩:=gK s (List.mem_of_getElem? hs);have hc:w2.cell? ⟨w.heap.size,r,none⟩=some (Bm s):=Ar f (Nu hs);repeat first|refine Aa Z ?_|apply Ab|refine Ax (i:=r) Z Z Z hr (by rw [Yi,Nat.mul_one];rfl) ?_|refine Aw Z Z hc Z ?_|apply Ai
 exact Ak Z Z ⟨s,rfl,h1,h2,d,b.trans a⟩
end
end Go.Proofs.YtaccphdkapmdhaaGreat
