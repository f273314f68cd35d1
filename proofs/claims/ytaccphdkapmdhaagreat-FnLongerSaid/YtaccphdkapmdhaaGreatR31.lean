/- The laws' documents are these. No condition. -/
import Derived.Test.YtaccphdkapmdhaaGreatR30
namespace Go.Proofs.YtaccphdkapmdhaaGreat
set_option maxRecDepth 100000
set_option maxHeartbeats 64000000
set_option linter.all false
section
section
attribute [local semireducible] WL WC X WD WX
variable {all:List Oper} {Q:Exit->Act->World->Prop} {N:Nat} {L L':Env} {o:Oper} {rest:List Oper} {w:World}
def mnA (L:Env) (op:Op):Option (Int×Int):=
 match op with
 | .call ⟨.builtin .min,⟨[x,y]⟩,_⟩=>match ev L x,ev L y with
  | some (.int .i64 a),some (.int .i64 b)=>some (a,b)
  | _,_=>none
 | _=>none
theorem WL.mn {a b:Nat} (m:Nat) (hg:Ez all L o=some true) (h:mnA L o.op=some ((a:Int),(b:Int))) (hm:m=min a b) (hd:Cu N o (.int .i64 (m:Int)) L=some L') (k:WL all Q N L' rest w):WL all Q N L (o::rest) w:=by
 refine Ca hg (fun ac hf=>?_) hd k;obtain⟨dst,op,ty,Gh,after,guard⟩:=o;simp only at h;unfold mnA at h;split at h
 ·rename_i x y t;split at h
  ·rename_i a' b' hx hy;simp only [Yb,Prod.mk.injEq] at h;obtain⟨rfl,rfl⟩:=h;have e:(if b<a then (b:Int) else (a:Int))=(m:Int):=by
    rw [hm];split<;>omega
   simp [execOp,resolve,invoke,builtin,hf.eval hx,hf.eval hy,Builtin.min_,Builtin.min2,e]
  ·cases h
 ·cases h
end
def US (w:World) (v:Value) (l:List Nat):Prop:=∃ad cap,v=.slice ad l.length cap/\l.length<=cap/\(l≠[]->∃b o dc e fz,ad=some ⟨b,o,none⟩/\w.heap[b]?=some (.cells dc e fz)/\∀(i n:Nat),l[i]?=some n->dc[o+i]?=some (.int .u32 (n:Int)))
theorem US.up {w w' v l} (h:US w v l) (hu:Up w.heap.size w w'):US w' v l:=by
 obtain⟨ad,cap,h1,h0,h2⟩:=h;refine⟨ad,cap,h1,h0,fun a=>?_⟩;obtain⟨b,o,dc,e,fz,h3,h4,h5⟩:=h2 a;exact⟨b,o,dc,e,fz,h3,hu.at (Ah h4) h4,h5⟩
theorem bsE0 (w:World):(Instr.buildSlice 24 0 ⟨[]⟩).run PP w=.ok (.slice (F w.heap.size) 0 0) (w.alloc (.cells #[] 40 (0,0))):=by kernel_rfl
theorem bsE1 (a b c d e f:Value) (w:World):(Instr.buildSlice 24 1 ⟨[(0,.agg ⟨[a,b,c,d,e,f]⟩)]⟩).run PP w=.ok (.slice (F w.heap.size) 1 1) (w.alloc (.cells ⟨[a,b,c,d,e,f]⟩ 40 (0,0))):=by kernel_rfl
theorem bdEx (ad:Option Addr) (n c:Nat) (w:World):(Instr.build 40 ⟨[(1,.slice ad n c)]⟩).run PP w=.ok (.agg ⟨[.int .i64 0,.slice ad n c,.int .i64 0,Bm [],.slice none 0 0,.slice none 0 0]⟩) w:=by kernel_rfl
attribute [local irreducible] binOp IntKind.wrap Sem.run
def XcAt (w:World) (P:Nat->Prop) (tb:Nat) (x:Ex):Prop:=∃kv a b c d,w.heap[tb]?=some (.cells ⟨[.int .i64 (Hh x:Int),kv,a,b,c,d]⟩ 40 (0,0))/\RS w P kv (Cz x)/\Nd w P (Nr x) a b c/\RS w P d []
theorem nd0 (w:World) (P:Nat->Prop):Nd w P (.sc 0 []) (.int .i64 0) (Bm []) (.slice none 0 0):=by
 rw [Nd];exact⟨rfl,rfl,none,0,rfl⟩
theorem Rx.own {B:Nat} {w:World} {P:Nat->Prop} {v:Value} {es:List Ex} {xs:List Value} (hO:w.ownsRow B 40 6 v es.length xs) (hL:Dp w P es xs):Rx w P v es:=by
 by_cases hz:es.length=0
 ·have:es=[]:=List.eq_nil_of_length_eq_zero hz;subst this;rcases hO.2 with ⟨rfl,_⟩|⟨g,cap,cur,rfl,_⟩
  ·exact⟨none,0,rfl,fun h=>absurd rfl h⟩
  ·exact⟨_,cap,rfl,fun h=>absurd rfl h⟩
 ·obtain⟨g,cap,cur,rfl,hg,a⟩:=Kx hO hz;exact⟨_,cap,rfl,fun _=>⟨g,_,rfl,a,Dp.more cur hL⟩⟩
theorem Lw (v:Value) (l:List Nat) (w:World) (hv:US w v l) (hl:∀n∈l,n<UU):
  Calls PP 9 #[v] w fun e w'=>∃lv xs,e=.returned lv/\w'.ownsRow w.heap.size 40 6 lv (Gb l).length xs/\Dp w' (fun b=>w.heap.size<=b) (Gb l) xs/\Up w.heap.size w w':=by
 obtain⟨ad,cap,rfl,bp,ao⟩:=hv;refine Bf (L:=[(0,.slice ad l.length cap)]) Tryz.func9 Z Z Z ⟨Z,V⟩ ?_;repeat first|refine Aa Z ?_|apply Ab|apply Ac
 refine Ec Z Z bsE0 Z (fun w1 hA=>?_);have ap:Up w.heap.size w w1:=hA.up Y;have aq:w1.ownsRow w.heap.size 40 6 (.slice (F w.heap.size) 0 0) 0 []:=⟨rfl,.inr ⟨w.heap.size,0,#[],rfl,Nat.le_refl _,hA.at_,Nat.le_refl _,by simp only [maxLen];omega,rfl,rfl⟩⟩;obtain⟨M,hM⟩:∃M,M=min l.length 16:=⟨_,rfl⟩;have ag:(Gb l).length=M:=by simp [Gb,hM,Nat.min_comm]
 repeat first|refine Aa Z ?_|apply Ab|apply Ac|refine WL.mn (b:=16) M Z Z hM Z ?_|refine Ub M Z Z Z (by omega) Z ?_|apply Ad|apply Ag
 refine Bg (σ:=Nat×Value) (I:=fun s w'=>(∃xs,w'.ownsRow w.heap.size 40 6 s.2 s.1 xs/\Dp w' (fun b=>w.heap.size<=b) ((Gb l).take s.1) xs)/\Up w.heap.size w w'/\s.1<=M)
  (m:=fun s=>M-s.1) (Lf:=fun s=>[(3,s.2),(12,.slice ad M cap),(13,.int .i64 (M:Int)),(14,.int .i64 (s.1:Int))])
  (0,.slice (F w.heap.size) 0 0) ⟨⟨[],aq,by simp [Dp]⟩,ap,Nat.zero_le _⟩ ⟨Z,Z,Z,Z,V⟩ ?_
 clear hA ap aq;rintro⟨m,lv⟩ w2 ⟨⟨xs,hO,hL⟩,hU,hm⟩;dsimp only at hO hL hm ⊢;have ba:=hU.size;by_cases bb:m<M
 ·have ar:m<l.length:=(by omega);obtain⟨n,hn⟩:∃n,l[m]?=some n:=⟨_,Yd ar⟩;have bc:=hl n (List.mem_of_getElem? hn);have hx:(Gb l)[m]?=some (Hp n):=by
   simp only [Gb,List.getElem?_map,List.getElem?_take];rw [if_pos (by omega),hn];rfl
  have ah:(Gb l).take (m+1)=(Gb l).take m++[Hp n]:=(by rw [List.take_add_one,hx];rfl);have bd:l≠[]:=(by rintro rfl;simp at ar);obtain⟨b,o,dcs,_,fz,be,hb,bf⟩:=ao bd;have bg:w2.cell? ⟨b,o+m,none⟩=some (.int .u32 (n:Int)):=Ar (hU.at (Ah hb) hb) (bf m n hn);rw [be];(repeat first|refine Aa Z ?_|apply Ab|apply Ac|refine Ao Z (by first|omega|decide) ?_|refine Ax (i:=m) Z Z Z bb (by rw [Nat.mul_one];rfl) ?_|refine Aw Z Z bg Z ?_|apply Ad|apply Ag|apply An|apply Af);refine Bo Z Z (Yk n 3 (by omega) _ _ _) Z ?_;refine Ae Z Z Z (To (n/2^3) w2) ?_;rintro e w3 ⟨kv,rfl,au,av⟩;refine T2 Z Z ?_;have ae:=au;obtain⟨kad,kcap,rfl,-⟩:=au;refine Cx Z Z (bdEx _ _ _) Z ?_;refine Dk Z Z Z (fun w4 ai=>?_);refine Bx Z Z Z (by simp [Bp]) ai.at_ (by simp) Z (fun w5 aj=>?_);have aw:=av.size;have q:Up w3.heap.size w3 w5:=(ai.up Y).trans (aj.up Y);have f:Up w2.heap.size w2 w5:=av.trans (q.mono aw);have c:w5.heap[w3.heap.size]?=some (.cells ⟨[.int .i64 0,.slice kad (Pi (n/2^3)).length kcap,.int .i64 0,Bm [],.slice none 0 0,.slice none 0 0]⟩ 40 (0,0)):=(by simpa using aj.at_);have r:RS w5 (fun b=>w.heap.size<=b) (.slice kad (Pi (n/2^3)).length kcap) (Pi (n/2^3)):=RS.move (Cc.up q (fun b h _=>by omega)) ae;generalize bq:w3.heap.size=tb at *;clear ai aj ae;repeat first|refine Aa Z ?_|apply Ab|apply Ac|refine Bo Z Z (dD n 8 (by omega) _ _) Z ?_|refine Cr (x:=.seq _ (.block _ _)) (σ:=Unit) (fun _ w'=>XcAt w' (fun b=>w.heap.size<=b) tb (Hp n)/\Up w2.heap.size w2 w'/\tb<w'.heap.size) (fun _=>[(3,lv),(6,.pointer (F tb)),(12,.slice (some ⟨b,o,none⟩) M cap),(13,.int .i64 (M:Int)),(14,.int .i64 (m:Int))]) ?_ ?_|apply Ad|apply Ag
  ·have br:n%8<8:=Nat.mod_lt _ (by omega);have bm:=r;rcases (by omega:n%8=0∨n%8=1∨n%8=2∨3<=n%8) with h|h|h|h
   ·have d:Hp n=.tab (Pi (n/2^3)):=(by unfold Hp;rw [h];rfl);(repeat first|refine Aa Z ?_|refine Ao Z (by first|omega|decide) ?_|apply Am|apply An|apply Af);refine Bk Z Z Z c Z Z (fun w6 a=>?_);(repeat first|apply Aq|apply Bj);refine Bh () ⟨?_,f.trans (a.up (by omega)),by rw [a.size];exact Ah c⟩ ⟨Z,Z,Z,Z,Z,V⟩;rw [d];exact⟨_,_,_,_,_,a.at_,r.keep (fun g o hg ho ht=>a.keep ho (fun e=>by subst e;rw [c] at ho;cases ho;simp [Ce] at ht)),nd0 _ _,RS.nil _ _⟩
   ·have d:Hp n=.tab (Pi (n/2^3)):=(by unfold Hp;rw [h];rfl);(repeat first|refine Aa Z ?_|apply Ab|refine Ao Z (by first|omega|decide) ?_|refine Aj Z (by first|omega|decide) ?_|apply Am);refine Bk Z Z Z c Z Z (fun w6 a=>?_);(repeat first|apply Aq|apply Bj);refine Bh () ⟨?_,f.trans (a.up (by omega)),by rw [a.size];exact Ah c⟩ ⟨Z,Z,Z,Z,Z,V⟩;rw [d];exact⟨_,_,_,_,_,a.at_,r.keep (fun g o hg ho ht=>a.keep ho (fun e=>by subst e;rw [c] at ho;cases ho;simp [Ce] at ht)),nd0 _ _,RS.nil _ _⟩
   ·have d:Hp n=.atab (Pi (n/2^3)):=(by unfold Hp;rw [h];rfl);(repeat first|refine Aa Z ?_|apply Ab|apply Ac|refine Ao Z (by first|omega|decide) ?_|refine Aj Z (by first|omega|decide) ?_|apply Am);refine Bk Z Z Z c Z Z (fun w6 a=>?_);(repeat first|apply Aq|apply Bj);refine Bh () ⟨?_,f.trans (a.up (by omega)),by rw [a.size];exact Ah c⟩ ⟨Z,Z,Z,Z,Z,V⟩;rw [d];exact⟨_,_,_,_,_,a.at_,r.keep (fun g o hg ho ht=>a.keep ho (fun e=>by subst e;rw [c] at ho;cases ho;simp [Ce] at ht)),nd0 _ _,RS.nil _ _⟩
   ·have d:Hp n=.kv (Pi (n/2^3)) (mt 2 (n/2^12)):=by
     unfold Hp;split<;>first|omega|rfl
    have ax:n/2^12<UU:=Nat.lt_of_le_of_lt (Nat.div_le_self _ _) bc;(repeat first|refine Aa Z ?_|apply Ab|apply Ac|refine Aj Z (by first|omega|decide) ?_|apply Am);refine Bo Z Z (Yk n 12 (by omega) _ _ _) Z ?_;refine Ae Z Z Z (mtC_all 2 (by omega) (n/2^12) w5 ax) ?_;rintro e w6 ⟨a',b',c',d',rfl,t,y,aa⟩;refine T2 Z Z ?_;have z:=aa.at (Ah c) c;obtain⟨o1,o2,o3,_⟩:=t.one;have o4:=y.one;have bn:=q.size;have bh:=aa.size;(repeat (refine Aa Z ?_));refine Bx Z Z Z (by simp [o1,o2,o3,o4]) z (by simp) Z (fun w7 ab=>?_);have ay:∀(g:Nat) (o:Obj),w6.heap[g]?=some o->(Ce o=9∨Ce o=37)->g≠tb:=fun g o ho ht e=>by
     subst e;rw [z] at ho;cases ho;simp [Ce] at ht
    have ak:∀(P P':Nat->Prop),(∀b,P b->P' b)->Cc P P' w6 w7:=fun P P' hp b o hb ho ht=>⟨ab.keep ho (ay b o ho ht),hp b hb⟩;(repeat first|apply Aq|apply Bj);refine Bh () ⟨?_,(f.trans (aa.mono (by omega))).trans (ab.up (by omega)),by rw [ab.size];exact Ah z⟩ ⟨Z,Z,Z,Z,Z,V⟩;rw [d];exact⟨_,_,_,_,_,by simpa [Hh] using ab.at_,RS.move ((Cc.up aa (fun b h _=>h)).trans (ak _ _ (fun b h=>h))) r,Nd.move (ak _ _ (fun b h=>by omega)) _ _ _ _ t,RS.move (ak _ _ (fun b h=>by omega)) y⟩
  ·rintro _ w6 ⟨⟨kv,a',b',c',d',z,y,t,af⟩,k,bo⟩;obtain⟨o1,o2,o3,_⟩:=t.one;have o4:=y.one;have o5:=af.one;have al:∀u∈[Value.int .i64 (Hh (Hp n):Int),kv,a',b',c',d'],Bp u=true:=fun u hu=>by
    simp only [List.mem_cons,List.not_mem_nil,or_false] at hu;rcases hu with rfl|rfl|rfl|rfl|rfl|rfl
    ·rfl
    ·exact o4
    ·exact o1
    ·exact o2
    ·exact o3
    ·exact o5
   (repeat first|refine Aa Z ?_|refine Fz (b:=tb) Z Z z Z Z ?_|apply Am);refine Ec Z Z (bsE1 _ _ _ _ _ _) Z (fun w7 p=>?_);have am:=k.size;have bi:w7.ownsRow w.heap.size 40 6 lv m xs:=Bi hO (fun g o hg h=>p.keep (k.at (Ah h) h));have bj:Dp w7 (fun b=>w.heap.size<=b) ((Gb l).take m) xs:=Dp.move (Cc.up (k.trans (p.up am)) (fun b h _=>h)) _ _ hL;have an:Ef (fun b=>w.heap.size<=b) w6 w7:=Ef.fm (p.fm (B:=0) (T:=[]) O) (by simp) (by simp);refine Md (m:=1) [.int .i64 (Hh (Hp n):Int),kv,a',b',c',d'] Z Z (rfl:Fx 24=some (40,6)) bi Z (fun j u hu=>?_) al (by omega) (by rw [p.size];omega) (fun lv' w8 bk az _=>?_)
   ·rw [Dw];exact Ar p.at_ (by simpa using hu)
   have ac:Ef (fun b=>w.heap.size<=b) w7 w8:=Ef.fm az (by simp) (by simp);refine⟨_,rfl,?_⟩;(repeat first|refine Aa Z ?_|apply Am|apply Aq|apply An|apply Bj|refine Ay Z Z (by omega) Z ?_);refine Ap (m+1,lv') ⟨⟨_,bk,?_⟩,((hU.trans (k.mono ba)).trans (p.up (by omega))).trans (az.up.mono (by omega)),by dsimp only;omega⟩ (by dsimp only;omega) ⟨Z,Z,Z,Z,V⟩;dsimp only;rw [ah];exact Dp.snoc (Dp.keep ac _ _ bj) (by rw [hO.1,List.length_take,ag];omega) ((y.keep an).keep ac) (Xj.of (Nd.keep ac _ _ _ _ (Nd.keep an _ _ _ _ t))) ((af.keep an).keep ac)
 ·have bl:m=M:=(by omega);subst bl;(repeat first|refine Aa Z ?_|apply Ab|apply Ac|refine Aj Z (by first|omega|decide) ?_|apply Ad|apply An|apply Cn|apply Ci|apply Ba|apply Ai);refine Ak Z Z ⟨lv,xs,rfl,by rw [ag];exact hO,?_,hU⟩;rw [<-ag,List.take_length] at hL;exact hL
end
end Go.Proofs.YtaccphdkapmdhaaGreat
