/- The walk of FnMeans: it answers true. No condition. -/
import Derived.Test.YtaccphdkapmdhaaGreatR4
import Derived.Test.YtaccphdkapmdhaaGreatR52
namespace Go.Proofs.YtaccphdkapmdhaaGreat
set_option maxRecDepth 100000
set_option maxHeartbeats 64000000
set_option linter.all false
section
attribute [local irreducible] binOp IntKind.wrap Sem.run
def Oa:Bs:=[97,61,49]
def Nz:Bs:=[97,61,49,10,97,61,50]
theorem bsOne (w:World):(Instr.buildSlice 23 3 ⟨[(0,.int .u8 97),(1,.int .u8 61),(2,.int .u8 49)]⟩).run PP w=.ok (.slice (F w.heap.size) 3 3) (w.alloc (.cells (Oa.map u8).toArray 5 (0,0))):=by kernel_rfl
theorem bsTwo (w:World):(Instr.buildSlice 23 7 ⟨[(0,.int .u8 97),(1,.int .u8 61),(2,.int .u8 49),(3,.int .u8 10),(4,.int .u8 97),(5,.int .u8 61),(6,.int .u8 50)]⟩).run PP w=.ok (.slice (F w.heap.size) 7 7) (w.alloc (.cells (Nz.map u8).toArray 5 (0,0))):=by kernel_rfl
theorem mV {w w':World} {l:Bs} {n:Nat} {es:List Ex} {p:Nat×Nat} (hn:l.length=n) (hA:Al w (.cells (l.map u8).toArray 5 p) w') (hd:Lr l es) (hl:l.length<=100):TX w' (.slice (F w.heap.size) n n) es:=by
 subst hn;refine⟨l,⟨_,_,rfl,Nat.le_refl _,fun _=>⟨w.heap.size,0,_,5,p,rfl,hA.at_,fun i c hi=>?_,by rw [hA.size];omega⟩⟩,hd,by omega⟩;rw [Yi,List.getElem?_toArray,List.getElem?_map,hi];rfl
theorem dS (v:Value) (b:Bs) (w:World) (hv:RT w.heap.size w v b):
  Calls PP 8 #[v] w fun e w'=>e=.returned (.bool true)/\Up w.heap.size w w':=by
 have g:=hv;obtain⟨ad,cap,rfl,_⟩:=hv;refine Bf (L:=[(0,.slice ad b.length cap)]) Tryz.func8 Z Z Z ⟨Z,V⟩ ?_;by_cases a1:2147483647<b.length
 ·(repeat first|refine Aa Z ?_|apply Ab|apply Ac|refine Ao Z (by first|omega|decide) ?_|apply Ad|apply Bl|apply Ai);exact Ak Z Z ⟨rfl,Up.refl _ _⟩
 by_cases b1:65536<b.length
 ·(repeat first|refine Aa Z ?_|apply Ab|apply Ac|refine Ao Z (by first|omega|decide) ?_|refine Aj Z (by first|omega|decide) ?_|apply Ad|apply An|apply Bl|apply Af|apply Ai);exact Ak Z Z ⟨rfl,Up.refl _ _⟩
 repeat first|refine Aa Z ?_|apply Ab|apply Ac|refine Aj Z (by first|omega|decide) ?_|apply Ad|apply An|apply Af
 refine Ae Z Z Z (Rb _ b w g (by omega)) ?_;rintro e w1 ⟨rfl,j⟩;refine T2 Z Z ?_;repeat (refine Aa Z ?_)
 refine gN Z Z bsOne Z ?_;refine Nh Z Z (Go.Lib.run_convert_bytes_const (P:=PP) w1 23 5 (Oa.map u8).toArray 3 3 Ki Xk) Z ?_;have a:=Br w1 (.cells (Oa.map u8).toArray 5 ((Oa.map u8).toArray.size,(Oa.map u8).toArray.size+1));generalize w1.alloc (.cells (Oa.map u8).toArray 5 ((Oa.map u8).toArray.size,(Oa.map u8).toArray.size+1))=w2 at a ⊢;have k:=mV (n:=3) rfl a doc_one (by decide);have d:=j.after (a.up Y) Y;generalize w1.heap.size=g1 at *;skip;refine Ae Z Z Z k.check ?_;rintro e w3 ⟨rfl,l⟩;refine T2 Z Z ?_;have f:=d.after l Y;rw [jU];repeat first|refine Aa Z ?_|refine Au Z ?_
 refine gN Z Z bsTwo Z ?_;refine Nh Z Z (Go.Lib.run_convert_bytes_const (P:=PP) w3 23 5 (Nz.map u8).toArray 7 7 Ki Xk) Z ?_;have c:=Br w3 (.cells (Nz.map u8).toArray 5 ((Nz.map u8).toArray.size,(Nz.map u8).toArray.size+1));generalize w3.alloc (.cells (Nz.map u8).toArray 5 ((Nz.map u8).toArray.size,(Nz.map u8).toArray.size+1))=w4 at c ⊢;have m:=mV (n:=7) rfl c doc_two (by decide);have h:=f.after (c.up Y) Y;generalize w3.heap.size=g3 at *;skip;refine Ae Z Z Z m.check ?_;rintro e w5 ⟨rfl,o⟩;refine T2 Z Z ?_;have i:=h.after o Y;rw [jT];repeat first|refine Aa Z ?_|apply Ab|refine Au Z ?_|apply Ai
 exact Ak Z Z ⟨rfl,i⟩
end
end Go.Proofs.YtaccphdkapmdhaaGreat
