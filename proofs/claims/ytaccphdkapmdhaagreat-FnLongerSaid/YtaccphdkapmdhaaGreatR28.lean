/- The writer writes texts that read as what it was told. No condition. -/
import Derived.Test.YtaccphdkapmdhaaGreatR25
import Derived.Test.YtaccphdkapmdhaaGreatR27
namespace Go.Proofs.YtaccphdkapmdhaaGreat
set_option maxRecDepth 100000
set_option maxHeartbeats 64000000
set_option linter.all false
section
theorem and15 (a:Nat) (ha:a<2^62) (t:Nat) (w:World):(binOp .and t (.int .i64 (a:Int)) (.int .i64 15)).run PP w=.ok (.int .i64 ((a%16:Nat):Int)) w:=by
 have h:(BitVec.ofInt 64 (a:Int) &&& BitVec.ofInt 64 (15:Int)).toNat=a%16:=by
  have e:BitVec.ofInt 64 (15:Int)=BitVec.ofNat 64 15:=(by decide);rw [Ha,e,BitVec.toNat_and,BitVec.toNat_ofNat,BitVec.toNat_ofNat,Nat.mod_eq_of_lt (by omega),Nat.mod_eq_of_lt (by omega)];exact Nat.and_two_pow_sub_one_eq_mod a 4
 show (Op.intBits .and .i64 (a:Int) (15:Int)).run PP w=_;unfold Op.intBits;simp only [Sem.run_pure];rw [show (BitVec.ofInt IntKind.i64.bits (a:Int) &&& BitVec.ofInt IntKind.i64.bits (15:Int)).toNat=a%16 from h,Ei (by omega)]
attribute [local irreducible] binOp IntKind.wrap Sem.run
theorem Wx (c:UInt8) (w:World):Calls PP 53 #[u8 c] w fun e w'=>e=.returned (.bool (Er c))/\w'=w:=by
 refine Bf (L:=[(0,u8 c)]) Tryz.func53 Z Z Z ⟨Z,V⟩ ?_;have key:c.toNat<45∨c.toNat=45∨(45<c.toNat/\c.toNat<48)∨(48<=c.toNat/\c.toNat<=57)∨(57<c.toNat/\c.toNat<65)∨(65<=c.toNat/\c.toNat<=90)∨(90<c.toNat/\c.toNat<95)∨c.toNat=95∨c.toNat=96∨(97<=c.toNat/\c.toNat<=122)∨122<c.toNat:=by omega
 rcases key with h|h|h|h|h|h|h|h|h|h|h;all_goals
  (repeat first|refine Aa Z ?_|apply Ab|apply Ac|refine Au Z ?_|apply Ai|refine Bc Z Z (by first|omega|decide) ?_|refine Az Z Z (by first|omega|decide) ?_);refine Ak Z Z ⟨?_,rfl⟩;refine congrArg Ending.returned (congrArg Value.bool ?_);first
   | (rw [Fj (by omega)];simp only [Er];symm;rw [decide_eq_true_eq];omega)
   | (rw [Ew (by omega)];simp only [Er];symm;rw [decide_eq_false_iff_not];omega)
   | (simp only [Er];symm;rw [decide_eq_true_eq];omega)
theorem Vb.at {k:Bs} (h:Vb k) {i:Nat} {c:UInt8} (hc:k[i]?=some c):97<=c.toNat/\c.toNat<=122:=h c (List.mem_of_getElem? hc)
theorem Yn (k:Bs) (w:World) (hk:Vb k):Calls PP 54 #[Bm k,.bool false] w fun e w'=>e=.returned (.bool true)/\Up w.heap.size w w':=by
 refine Bf (L:=[(0,Bm k),(1,.bool false)]) Tryz.func54 Z Z Z ⟨Z,Z,V⟩ ?_;repeat first|refine Aa Z ?_|apply Ab|apply Ac|apply Ad
 refine eO Z Z Z (fun w1 hA=>?_);have a:=hA.at_;have hU:Up w.heap.size w w1:=hA.up Y;generalize hb:w.heap.size=b at *;repeat first|apply Ab|apply Ag
 refine Bg (σ:=Nat) (I:=fun i w'=>w'.heap[b]?=some (.stringIter ⟨k.toArray⟩ i)/\i<=k.length/\Up b w w') (m:=fun i=>k.length-i) (Lf:=fun _=>[(0,Bm k),(1,.bool false),(8,.pointer (F b))]) 0 ⟨a,Nat.zero_le _,hU⟩ ⟨Z,Z,Z,V⟩ ?_;clear a hU hA;rintro i w2 ⟨a,hi,hU⟩;by_cases f:i<k.length
 ·obtain⟨c,hc⟩:∃c,k[i]?=some c:=⟨_,Yd f⟩;have hl:=hk.at hc;apply Ad;apply Am;refine iW Z Z a hc (by omega) Z (fun w3 d=>?_);(repeat first|refine Aa Z ?_|apply Ab|apply Ac|refine Bn Z (by first|with_reducible rfl|exact Bool.not_false) ?_|refine Aj Z (by first|omega|decide) ?_|refine Au Z ?_|apply Ad|apply Ag|apply An|apply Bj|apply Af|refine Az Z Z (by first|omega|decide) ?_);exact Ap (i+1) ⟨d.at_,by omega,hU.trans (d.up Y)⟩ (by omega) ⟨Z,Z,Z,V⟩
 ·apply Ad;apply Am;refine cG Z Z a (by omega) Z ?_;(repeat first|refine Aa Z ?_|apply Ab|apply Ac|refine Bb Z (by first|with_reducible rfl|exact Bool.not_true) ?_|apply Ad|apply An|apply Cn|apply Ci|apply Ba|apply Ai);exact Ak Z Z ⟨rfl,hU⟩
def hexTab:Bs:=[48,49,50,51,52,53,54,55,56,57,97,98,99,100,101,102,65,66,67,68,69,70]
theorem kD:∀d:Fin 16,∃c,hexTab[d.val]?=some c/\Fb c=d.val:=by decide
theorem nB (v k m:Nat):(v/2^(4*(k+1)))%16^m*16+(v/2^(4*k))%16=(v/2^(4*k))%16^(m+1):=by
 have h1:v/2^(4*(k+1))=v/2^(4*k)/16:=by
  rw [Nat.div_div_eq_div_mul];congr 1;rw [show 4*(k+1)=4*k+4 by omega,Nat.pow_add]
 rw [h1];generalize v/2^(4*k)=u;have h2:=Nat.mod_mul (x:=u) (a:=16) (b:=16^m);rw [Nat.pow_succ,Nat.mul_comm (16^m) 16,h2];omega
theorem iF (v n:Nat) (w:World) (hv:v<2147483648) (hn:n<=8):
  Calls PP 89 #[.int .i64 (v:Int),.int .i64 (n:Int)] w fun e w'=>∃ds,e=.returned (Bm ds)/\ds.length=n/\(∀x∈ds,Fb x<16)/\Ja ds=v%16^n/\Up w.heap.size w w':=by
 refine Bf (L:=[(0,.int .i64 (v:Int)),(1,.int .i64 (n:Int))]) Tryz.func89 Z Z Z ⟨Z,Z,V⟩ ?_;repeat first|refine Aa Z ?_|apply Ab|apply Ac
 refine Ec Z Z bs0 Z (fun w1 hA=>?_);have hO:Ob w.heap.size w1 (.slice (F w.heap.size) 0 0) []:=Ob.lit hA Z Z Y (by omega);have hU:Up w.heap.size w w1:=hA.up Y;repeat first|refine Aa Z ?_|apply Ab|apply Ac|apply Ad|apply Ag|refine Fs Z Z (by omega) Z ?_
 refine Bg (σ:=Nat×Bs×Value) (I:=fun s w'=>s.1<=n/\Ob w.heap.size w' s.2.2 s.2.1/\s.2.1.length=s.1/\(∀x∈s.2.1,Fb x<16)/\Ja s.2.1=(v/2^(4*(n-s.1)))%16^s.1/\Up w.heap.size w w')
  (m:=fun s=>n-s.1) (Lf:=fun s=>[(0,.int .i64 (v:Int)),(1,.int .i64 (n:Int)),(5,s.2.2),(6,.int .i64 ((n:Int)-1-s.1))])
  (0,[],.slice (F w.heap.size) 0 0) ⟨Nat.zero_le _,hO,rfl,fun x hx=>by simp at hx,by simp [Ja,Nat.mod_one],hU⟩ ⟨rfl,rfl,rfl,by simp;rfl,trivial⟩ ?_
 clear hO hU hA;rintro⟨m,ds,dv⟩ w2 ⟨hm,hO,hl,hx,hh,hU⟩;dsimp only at hm hO hl hx hh ⊢;by_cases j:m<n
 ·obtain⟨k,hk⟩:∃k,n=m+1+k:=⟨n-(m+1),by omega⟩;have e1:(n:Int)-1-m=(k:Int):=(by omega);rw [e1];obtain⟨c,hc,a⟩:=kD ⟨(v/2^(4*k))%16,Nat.mod_lt _ (by omega)⟩;have l:v/2^(4*k)<=v:=Nat.div_le_self _ _;(repeat first|refine Aa Z ?_|apply Ab|apply Ac|refine Ao Z (by first|omega|decide) ?_|refine iX Z Z (by omega) Z ?_|apply Ad|apply Am|apply Ag|apply An|apply Af);refine Bo Z Z (by have:=shrU .i64 v (4*k) (by omega) (by decide) 3 w2 .i64;rw [Int.natCast_mul] at this;exact this) Z ?_;refine Bo Z Z (and15 _ (by omega) _ _) Z ?_;refine WL.is Z Z Z hc Z ?_;refine Ec Z Z (bs1 _) Z (fun w3 hA=>?_);have b:Ob w.heap.size w3 dv ds:=hO.upS (hA.up Y);refine Kb [c] Z Z b rfl hA.at_ Z (by omega) (by have:=hU.size;rw [hA.size];omega) (fun dv' w4 d f=>⟨_,rfl,?_⟩);(repeat first|refine Aa Z ?_|apply Am|apply Aq|apply An|apply Bj|refine Fs Z Z (by omega) Z ?_);refine Ap (m+1,ds++[c],dv') ⟨by dsimp only;omega,d,by simp [hl],fun x g=>?_,?_,(hU.trans (hA.up hU.size)).trans f⟩ (by dsimp only;omega) ⟨rfl,rfl,rfl,?_,trivial⟩
  ·rcases List.mem_append.1 g with h|h
   ·exact hx x h
   ·simp only [List.mem_singleton] at h;subst h;rw [a];exact Nat.mod_lt _ (by omega)
  ·dsimp only;rw [Su,hh,a];have e2:n-m=k+1:=(by omega);have e3:n-(m+1)=k:=(by omega);rw [e2,e3];exact nB v k m
  ·dsimp only;rw [show (n:Int)-1-((m+1:Nat):Int)=(k:Int)-1 by omega];rfl
 ·have i:m=n:=(by omega);subst i;rw [Nat.sub_self] at hh;(repeat first|refine Aa Z ?_|apply Ab|apply Ac|refine Aj Z (by first|omega|decide) ?_|apply Ad|apply An|apply Cn|apply Ci|apply Ba);refine Th ds Z Z hO.rb Z ?_;(repeat first|refine Aa Z ?_|apply Ab|apply Ai);refine Ak Z Z ⟨ds,rfl,hl,hx,by simpa using hh,hU⟩
theorem Rf (sp:Nat) (code:Bs) (i:Nat) (c:UInt8) (w:World) (hS:SB w sp code i) (hi:i<=999999980) (hc:97<=c.toNat/\c.toNat<=122):
  Calls PP 55 #[.pointer (F sp),.int .i32 (c.toNat:Int),.bool false] w (Wro sp code i 12 (EscS c) w):=by
 have r:=hS.lt;refine Bf (L:=[(0,.pointer (F sp)),(1,.int .i32 (c.toNat:Int)),(2,.bool false)]) Tryz.func55 Z Z Z ⟨Z,Z,Z,V⟩ ?_;repeat first|refine Aa Z ?_|apply Ab|apply Ac|apply Ad
 refine eO Z Z Z (fun w1 hA=>?_);have d:=hA.at_;have hF:Fm sp [68] w w1:=hA.fm (by omega);have j:=hS.fm (hA.fm (B:=0) (T:=[]) O) (by simp) (by simp);generalize hb:w.heap.size=b at *;have n:sp<b:=by omega
 clear hS hA;repeat first|apply Ab|apply Ag
 refine Bg (σ:=Nat) (I:=fun k w'=>w'.heap[b]?=some (.stringIter ⟨([8,9,12,13,34,92]:Bs).toArray⟩ k)/\k<=6/\SB w' sp code i/\Fm sp [68] w w') (m:=fun k=>6-k) (Lf:=fun _=>[(0,.pointer (F sp)),(1,.int .i32 (c.toNat:Int)),(2,.bool false),(9,.pointer (F b))]) 0 ⟨d,by omega,j,hF⟩ ⟨Z,Z,Z,Z,V⟩ ?_;clear d j hF;rintro k w2 ⟨d,hk,hS,hF⟩;by_cases s:k<6
 ·obtain⟨x,hx,t⟩:∃x:UInt8,([8,9,12,13,34,92]:Bs)[k]?=some x/\x.toNat<=92:=by
   rcases (by omega:k=0∨k=1∨k=2∨k=3∨k=4∨k=5) with rfl|rfl|rfl|rfl|rfl|rfl<;>exact⟨_,rfl,by decide⟩
  apply Ad;apply Am;refine iW Z Z d hx (by omega) Z (fun w3 a=>?_);have l:Fm 0 [1001] w2 w3:=a.fm d O (by simp [Ce]) rfl;(repeat first|refine Aa Z ?_|apply Ab|apply Ac|refine Bn Z (by first|with_reducible rfl|exact Bool.not_false) ?_|refine Aj Z (by first|omega|decide) ?_|apply Ad|apply Ag|apply An|apply Bj|apply Af);exact Ap (k+1) ⟨a.at_,by omega,hS.fms (a.fm (T:=[1001]) d (Nat.le_of_lt n) (by simp [Ce]) rfl) (by simp),hF.stN a (by omega) (by omega)⟩ (by omega) ⟨Z,Z,Z,Z,V⟩
 ·apply Ad;apply Am;refine cG Z Z d (by simp;omega) Z ?_;(repeat first|refine Aa Z ?_|apply Ab|apply Ac|refine Bb Z (by first|with_reducible rfl|exact Bool.not_true) ?_|refine Aj Z (by first|omega|decide) ?_|refine Au Z ?_|apply Ad|apply Ag|apply An|apply Cn|apply Ci|apply Ba|refine Az Z Z (by first|omega|decide) ?_);refine Ae Z Z Z (En sp code i 9 w2 hS (by omega) (by omega)) ?_;rintro e w3 ⟨rfl,a,l⟩;refine T2 Z Z ?_;have p1:=Gg.to code (show i+1=i+1 from rfl);have f:=hF.trans l;by_cases h0:Mq code i%9=0
  ·(repeat first|refine Aa Z ?_|apply Ab|apply Ac|refine Ao Z (by first|omega|decide) ?_|refine Au Z ?_|refine Bc Z Z (by first|omega|decide) ?_|refine Ff Z Z (Ei (by omega)) Z ?_);refine Ae Z Z Z (iF c.toNat 4 w3 (by omega) (by omega)) ?_;rintro e w4 ⟨ds,rfl,hl,hx,hh,hU⟩;refine T2 Z Z ?_;(repeat first|refine Aa Z ?_|apply Ab|refine Bo Z Z (Bt [92,117] ds (by simp;omega) _ _) Z ?_|apply Bl|apply Bv|apply Ai);have p:=a.lt;refine Ak Z Z ⟨92::117::ds,i+1,rfl,.inr ⟨ds,.inl ⟨rfl,hl⟩,hx,?_⟩,a.fm (hU.fm (B':=0) (T:=[]) Y O) (by simp) (by simp),f.trans (hU.fm Y (by omega)),by simp only [Ya];omega⟩;rw [hh,Nat.mod_eq_of_lt];omega
  ·(repeat first|refine Aa Z ?_|apply Ab|apply Ac|refine Bb Z (by first|with_reducible rfl|exact Bool.not_true) ?_|refine Au Z ?_|refine Az Z Z (by first|omega|decide) ?_);refine Ae Z Z Z (En sp code (i+1) 9 w3 a (by omega) (by omega)) ?_;rintro e w4 ⟨rfl,h,o⟩;refine T2 Z Z ?_;have p2:=Gg.to code (show i+1+1=i+2 by omega);have g:=f.trans o;by_cases h1:Mq code (i+1)%9=0
   ·(repeat first|refine Aa Z ?_|apply Ab|apply Ac|refine Ao Z (by first|omega|decide) ?_|refine Ff Z Z (Ei (by omega)) Z ?_);refine Ae Z Z Z (iF c.toNat 8 w4 (by omega) (by omega)) ?_;rintro e w5 ⟨ds,rfl,hl,hx,hh,hU⟩;refine T2 Z Z ?_;(repeat first|refine Aa Z ?_|apply Ab|refine Bo Z Z (Bt [92,85] ds (by simp;omega) _ _) Z ?_|apply Bl|apply Bv|apply Ai);have q:=h.lt;refine Ak Z Z ⟨92::85::ds,i+1+1,rfl,.inr ⟨ds,.inr ⟨rfl,hl⟩,hx,?_⟩,h.fm (hU.fm (B':=0) (T:=[]) Y O) (by simp) (by simp),g.trans (hU.fm Y (by omega)),by simp only [Ya];omega⟩;rw [hh,Nat.mod_eq_of_lt];omega
   ·(repeat first|refine Aa Z ?_|apply Ab|apply Ac|refine Aj Z (by first|omega|decide) ?_|apply An|apply Bj|apply Af);refine Nh Z Z (lT c (by omega) w4) Z ?_;(repeat first|refine Aa Z ?_|apply Ab|apply Ai);exact Ak Z Z ⟨[c],i+1+1,rfl,.inl rfl,h,g,by simp only [List.length_singleton];omega⟩
end
section
attribute [local irreducible] binOp IntKind.wrap Sem.run
def RS (w:World) (P:Nat->Prop) (v:Value) (ks:List Bs):Prop:=∃ad cap,v=.slice ad ks.length cap/\(ks≠[]->∃b dc fz,(P b/\ks.length<=cap)/\ad=some ⟨b,0,none⟩/\w.heap[b]?=some (.cells dc 9 fz)/\∀(i:Nat) (k:Bs),ks[i]?=some k->dc[i]?=some (Bm k))
theorem RS.keep {w w':World} {P:Nat->Prop} {v:Value} {ks:List Bs} (h:RS w P v ks) (hk:∀b o,P b->w.heap[b]?=some o->(Ce o=9∨Ce o=37)->w'.heap[b]?=some o):RS w' P v ks:=by
 obtain⟨ad,cap,h1,h2⟩:=h;refine⟨ad,cap,h1,fun a=>?_⟩;obtain⟨b,dc,fz,hp,h3,h4,h5⟩:=h2 a;exact⟨b,dc,fz,hp,h3,hk b _ hp.1 h4 (.inl rfl),h5⟩
theorem RS.mono {w:World} {P P':Nat->Prop} {v:Value} {ks:List Bs} (h:RS w P v ks) (hp:∀b,P b->P' b):RS w P' v ks:=by
 obtain⟨ad,cap,h1,h2⟩:=h;refine⟨ad,cap,h1,fun c=>?_⟩;obtain⟨b,dc,fz,a,h3,h4,h5⟩:=h2 c;exact⟨b,dc,fz,⟨hp b a.1,a.2⟩,h3,h4,h5⟩
def kK (k:Bs):Nat:=11+12*k.length
def Me:List Bs->Nat
 | []=>0
 | k::ks=>kK k+Me ks
theorem Ut:∀(a b:List Bs),Me (a++b)=Me a+Me b
 | [],b=>by simp [Me]
 | k::a,b=>by simp only [List.cons_append,Me,Ut a b];omega
theorem Us:∀(ks:List Bs),ks.length<=Me ks
 | []=>Nat.le_refl _
 | k::ks=>by
  have:=Us ks;simp only [Ya,Me,kK];omega
theorem Rc (sp:Nat) (code:Bs) (i:Nat) (P:Nat->Prop) (kv:Value) (ks:List Bs) (w:World) (hS:SB w sp code i) (hR:RS w P kv ks) (ax:∀k∈ks,Vb k) (h0:ks≠[]) (hi:Gg code i+Me ks<=900000000):
  Calls PP 28 #[.pointer (F sp),kv] w (Wro sp code i (Me ks) (Mp ks) w):=by
 have bv:=Us ks;have bx:=hR;obtain⟨ad,cap,ay,aq⟩:=hR;obtain⟨b,dcs,fz,_,bi,hb,bj⟩:=aq h0;have bz:=hS.lt;have a:kv=.slice (F b) ks.length cap:=by rw [ay,bi]
 clear aq ay;refine Bf (L:=[(0,.pointer (F sp)),(1,kv)]) Tryz.func28 Z Z Z ⟨Z,Z,V⟩ ?_;rw [a];repeat first|refine Aa Z ?_|apply Ab|apply Ac|apply Ad|apply Ag
 rw [<-a];refine Bg (σ:=Nat×Bs×Nat) (I:=fun s w'=>Xv (ks.take s.1) s.2.1/\SB w' sp code s.2.2/\Fm sp [68] w w'/\s.1<=ks.length/\s.2.1.length+Gg code s.2.2<=Gg code i+Me (ks.take s.1))
  (m:=fun s=>ks.length-s.1) (Lf:=fun s=>[(0,.pointer (F sp)),(5,Bm s.2.1),(12,kv),(13,.int .i64 (ks.length:Int)),(14,.int .i64 (s.1:Int))])
  (0,[],i) ⟨.inl ⟨by simp,rfl⟩,hS,Fm.refl _ _ _,Nat.zero_le _,by simp [Me]⟩ ⟨rfl,rfl,by rw [a];rfl,rfl,rfl,trivial⟩ ?_
 clear hS;rintro⟨m,out,j⟩ w1 ⟨hD,hS,hF,hm,hp⟩;dsimp only at hD hS hm hp ⊢;have az:=Gg.ge code j;have d:Me (ks.take m)<=Me ks:=by
  have:=Ut (ks.take m) (ks.drop m);rw [List.take_append_drop] at this;omega
 by_cases ba:m<ks.length
 ·obtain⟨k,hk⟩:∃k,ks[m]?=some k:=⟨_,Yd ba⟩;have y:ks.take (m+1)=ks.take m++[k]:=(by rw [List.take_add_one,hk];rfl);have ac:Me (ks.take (m+1))=Me (ks.take m)+(11+12*k.length):=(by rw [y,Ut];simp [Me,kK]);have bw:Me (ks.take (m+1))<=Me ks:=by
   have:=Ut (ks.take (m+1)) (ks.drop (m+1));rw [List.take_append_drop] at this;omega
  have d:Vb k:=ax k (List.mem_of_getElem? hk);have bk:w1.cell? ⟨b,m,none⟩=some (Bm k):=Ar (hF.keep _ _ hb (by simp [Ce])) (bj m k hk);rw [a];repeat first|refine Aa Z ?_|apply Ab|apply Ac|refine Ao Z (by first|omega|decide) ?_|refine Ax (i:=m) Z Z Z ba (by rw [Yi,Nat.mul_one];rfl) ?_|refine Aw Z Z bk Z ?_|refine Cr (x:=.seq _ (.cond _ _ _)) (σ:=Bs×Nat) (fun s w'=>(∀x,Js k x->Xv (ks.take (m+1)) (s.1++x))/\SB w' sp code s.2/\Fm sp [68] w w'/\s.1.length+Gg code s.2<=Gg code i+Me (ks.take m)+7) (fun s=>[(0,.pointer (F sp)),(5,Bm s.1),(7,Bm k),(12,kv),(13,.int .i64 (ks.length:Int)),(14,.int .i64 (m:Int))]) ?_ ?_|apply Ad|apply Ag|apply An|apply Af
  ·by_cases bl:m=0
   ·subst bl;have bc:out=[]:=by
     rcases hD with ⟨_,h⟩|⟨ks',k',o,s,h,_⟩
     ·exact h
     ·simp at h
    subst bc;(repeat first|refine Aj Z (by first|omega|decide) ?_|apply Af);refine Bh ([],j) ⟨fun x hx=>?_,hS,hF,by dsimp only;omega⟩ ⟨rfl,rfl,rfl,by rw [a];rfl,rfl,rfl,trivial⟩;rw [y];simpa using Xv.first hx
   ·have z:ks.take m≠[]:=by
     intro h;have:=congrArg List.length h;rw [List.length_take,List.length_nil] at this;omega
    (repeat first|refine Aa Z ?_|refine Ao Z (by first|omega|decide) ?_|apply Am);refine Ae Z Z Z (Ds sp code j w1 hS (by omega)) ?_;rintro e w2 ⟨s1,rfl,bm,ca,n,r⟩;refine T2 Z Z ?_;(repeat first|refine Aa Z ?_|refine Bo Z Z (Bt s1 [46] (by simp;omega) _ _) Z ?_);refine Ae Z Z Z (Ds sp code (j+1) w2 n (by omega)) ?_;rintro e w3 ⟨s2,rfl,bn,cb,ae,bo⟩;refine T2 Z Z ?_;have p3:=Gg.to code (show j+1+1=j+2 by omega);(repeat (refine Bo Z Z (Bt (s1++[46]) s2 (by simp;omega) _ _) Z ?_));refine Bo Z Z (Bt out _ (by simp;omega) _ _) Z ?_;(repeat first|refine Aa Z ?_|apply Aq);refine Bh (out++(s1++[46]++s2),j+1+1) ⟨fun x hx=>?_,ae,(hF.trans r).trans bo,by dsimp only;simp only [Ye,List.length_singleton];omega⟩ ⟨rfl,rfl,rfl,by rw [a];rfl,rfl,rfl,trivial⟩;rw [y];exact hD.more z bm bn hx
  ·clear hD hS hF hp;rintro⟨out2,j2⟩ w2 ⟨p,n,r,bd⟩;dsimp only at p n bd;have ar:=Gg.ge code j2;rw [<-a];have be:=r.size;(repeat first|refine Aa Z ?_|apply Ab|apply Ac|apply Ad|apply Ag);have bp:dc ((⟨k.toArray⟩:ByteArray)≠⟨#[]⟩)=!k.isEmpty:=by
    cases k with
    | nil=>exact Ew (by simp)
    | cons c k=>exact Fj (fun h=>by have:=Ms.1 (show (⟨(c::k).toArray⟩:ByteArray)=⟨([]:Bs).toArray⟩ from h);simp at this)
   rw [bp];have cc:12*k.length<=900000000:=(by omega);refine Bg (σ:=Nat) (I:=fun q w'=>w'=w2/\q<=k.length) (m:=fun q=>k.length-q) (Lf:=fun q=>[(0,.pointer (F sp)),(5,Bm out2),(7,Bm k),(8,.bool (!k.isEmpty)),(12,kv),(13,.int .i64 (ks.length:Int)),(14,.int .i64 (m:Int)),(32,.int .i64 (k.length:Int)),(33,.int .i64 (q:Int))]) 0 ⟨rfl,Nat.zero_le _⟩ ⟨Z,Z,Z,Z,Z,Z,Z,Z,Z,V⟩ ?_;rintro q w3 ⟨rfl,hq⟩;by_cases af:q<k.length
   ·obtain⟨c,hc⟩:∃c,k[q]?=some c:=⟨_,Yd af⟩;have ap:=d.at hc;have bq:Er c=true:=(by simp only [Er,decide_eq_true_eq];omega);have z:(!k.isEmpty)=true:=(by cases k<;>simp_all);have ag:=Wx c w3;rw [bq] at ag;simp only [z];(repeat first|refine Aa Z ?_|apply Ab|apply Ac|refine Ao Z (by first|omega|decide) ?_|refine WL.is Z Z Z hc Z ?_|refine Au Z ?_|apply Ad|apply Am|apply Ag|apply An|apply Af);refine Ae Z Z Z ag ?_;rintro e w4 ⟨rfl,rfl⟩;refine T2 Z Z ?_;(repeat first|refine Aa Z ?_|refine Au Z ?_|apply Am|apply Aq|apply An|apply Bj|refine Ay Z Z (by omega) Z ?_);exact Ap (q+1) ⟨rfl,by omega⟩ (by omega) ⟨Z,Z,Z,Z,Z,Z,Z,Z,Z,V⟩
   ·clear hq;by_cases bf:k=[]
    ·have z:(!k.isEmpty)=false:=(by simp [bf]);simp only [z];(repeat first|refine Aa Z ?_|apply Ab|apply Ac|refine Bb Z (by first|with_reducible rfl|exact Bool.not_true) ?_|refine Aj Z (by first|omega|decide) ?_|refine Au Z ?_|apply Ad|apply Ag|apply An|apply Cn|apply Ci|apply Ba);refine Ae Z Z Z (Yn k w3 d) ?_;rintro e w4 ⟨rfl,ah⟩;refine T2 Z Z ?_;have bg:=n.lt;have ai:Fm sp [68] w3 w4:=ah.fm Y (by omega);have ae:=n.fm (ah.fm (B':=0) (T:=[]) Y O) (by simp) (by simp);have ar:=Gg.ge code j2;(repeat first|refine Aa Z ?_|refine Au Z ?_);refine Ae Z Z Z (En sp code j2 2 w4 ae (by omega) (by omega)) ?_;rintro e w5 ⟨rfl,f,aa⟩;refine T2 Z Z ?_;have p4:=Gg.to code (show j2+1=j2+1 from rfl);have g:=(r.trans ai).trans aa;by_cases h0:Mq code j2%2=0
     ·(repeat first|refine Aa Z ?_|apply Ab|refine Ao Z (by first|omega|decide) ?_|refine Bo Z Z (Bt [39] k (by simp;omega) _ _) Z ?_|refine Au Z ?_|apply Am);refine Bo Z Z (Bt _ [39] (by simp;omega) _ _) Z ?_;refine Bo Z Z (Bt out2 _ (by simp;omega) _ _) Z ?_;(repeat first|refine Aa Z ?_|apply Am|apply Aq|apply An|apply Bj|refine Ay Z Z (by omega) Z ?_);refine Ap (m+1,out2++(([39]++k)++[39]),j2+1) ⟨p _ (by have:=Js.lit d;simpa using this),f,g,by dsimp only;omega,by dsimp only;rw [ac];simp only [Ye,List.length_singleton];omega⟩ (by dsimp only;omega) ⟨Z,Z,Z,Z,Z,V⟩
     ·(repeat first|refine Aa Z ?_|apply Ab|apply Ac|refine Aj Z (by first|omega|decide) ?_|refine Bo Z Z (Bt out2 [34] (by simp;omega) _ _) Z ?_|refine Au Z ?_|apply Ad);refine eO Z Z Z (fun w6 t=>?_);have v:=t.at_;have aj:=f.lt;have ak:Fm sp [68] w w6:=g.trans (t.fm (by omega));have al:=f.fm (t.fm (B:=0) (T:=[]) O) (by simp) (by simp);have bh:=g.size;generalize br:w5.heap.size=bb at *;clear t;(repeat first|apply Ab|apply Ag);refine Bg (σ:=Nat×Bs×Nat) (I:=fun s w'=>w'.heap[bb]?=some (.stringIter ⟨k.toArray⟩ s.1)/\s.1<=k.length/\Ry (k.take s.1) s.2.1/\SB w' sp code s.2.2/\Fm sp [68] w w'/\s.2.1.length+Gg code s.2.2<=Gg code (j2+1)+12*s.1)
       (m:=fun s=>k.length-s.1) (Lf:=fun s=>[(0,.pointer (F sp)),(5,Bm (out2++[34]++s.2.1)),(7,Bm k),(12,kv),(13,.int .i64 (ks.length:Int)),(14,.int .i64 (m:Int)),(47,.pointer (F bb))])
       (0,[],j2+1) ⟨v,Nat.zero_le _,Ry.nil,al,ak,by simp⟩ ⟨rfl,by simp;rfl,rfl,rfl,rfl,rfl,rfl,trivial⟩ ?_
      clear v al ak;rintro⟨q,es,j⟩ w7 ⟨l,hq,hB,ab,am,au⟩;dsimp only at l hq hB ab au ⊢;have az:=Gg.ge code j;by_cases af:q<k.length
      ·obtain⟨c,hc⟩:∃c,k[q]?=some c:=⟨_,Yd af⟩;have ap:=d.at hc;apply Ad;apply Am;refine iW Z Z l hc (by omega) Z (fun w8 u=>?_);have bs:Fm 0 [1001] w7 w8:=u.fm l O (by simp [Ce]) rfl;have an:=u.at_;(repeat first|refine Aa Z ?_|apply Ab|apply Ac|refine Bn Z (by first|with_reducible rfl|exact Bool.not_false) ?_|apply Ad|apply Am|apply Ag|apply An|apply Af);refine Ae Z Z Z (Rf sp code j c w8 (ab.fms (u.fm (T:=[1001]) l (Nat.le_of_lt aj) (by simp [Ce]) rfl) (by simp)) (by omega) ap) ?_;rintro e w9 ⟨s,j',rfl,hs,av,ao,bt⟩;refine T2 Z Z ?_;(repeat first|refine Aa Z ?_|refine Bo Z Z (Bt _ s (by simp;omega) _ _) Z ?_|apply Aq|apply Bj);refine Ap (q+1,es++s,j') ⟨ao.keep _ _ an (by simp [Ce]),by dsimp only;omega,?_,av,(am.stN u (by omega) (by omega)).trans ao,by dsimp only;simp only [Ye];omega⟩ (by dsimp only;omega) ⟨rfl,by simp only [<-List.append_assoc];rfl,rfl,rfl,rfl,rfl,rfl,trivial⟩;dsimp only;rw [List.take_add_one,hc];exact hB.snoc hs
      ·have aw:q=k.length:=(by omega);subst aw;rw [List.take_length] at hB;apply Ad;apply Am;refine cG Z Z l Y Z ?_;(repeat first|refine Aa Z ?_|apply Ab|refine Bb Z (by first|with_reducible rfl|exact Bool.not_true) ?_|refine Bo Z Z (Bt _ [34] (by simp;omega) _ _) Z ?_|apply Ad|apply Am|apply Aq|apply An|apply Cn|apply Bj|apply Ci|apply Ba|refine Ay Z Z (by omega) Z ?_);refine Ap (m+1,out2++[34]++es++[34],j) ⟨?_,ab,am,by dsimp only;omega,by dsimp only;rw [ac];simp only [Ye,List.length_singleton];omega⟩ (by dsimp only;omega) ⟨Z,Z,Z,Z,Z,V⟩;have:=p _ (Js.bas d hB);simpa using this
    ·have z:(!k.isEmpty)=true:=(by cases k<;>simp_all);simp only [z];(repeat first|refine Aa Z ?_|apply Ab|apply Ac|refine Aj Z (by first|omega|decide) ?_|refine Au Z ?_|apply Ad|apply Ag|apply An|apply Cn|apply Ci|apply Ba);refine Ae Z Z Z (En sp code j2 3 w3 n (by omega) (by omega)) ?_;rintro e w4 ⟨rfl,f,aa⟩;refine T2 Z Z ?_;have p4:=Gg.to code (show j2+1=j2+1 from rfl);by_cases cd:0<Mq code j2%3
     ·(repeat first|refine Aa Z ?_|apply Ab|refine Ao Z (by first|omega|decide) ?_|refine Bo Z Z (Bt out2 k (by omega) _ _) Z ?_|refine Au Z ?_|apply Am|apply Aq|apply An|apply Bj|refine Ay Z Z (by omega) Z ?_);refine Ap (m+1,out2++k,j2+1) ⟨p _ (Js.bare d bf),f,r.trans aa,by dsimp only;omega,by dsimp only;rw [ac];simp only [Ye];omega⟩ (by dsimp only;omega) ⟨Z,Z,Z,Z,Z,V⟩
     ·have r:=r.trans aa;have bd:out2.length+Gg code (j2+1)<=Gg code i+Me (ks.take m)+8:=(by omega);clear n;have n:=f;clear f aa;generalize ce:j2+1=j3 at *;have be:=r.size;clear ar;(repeat first|refine Aa Z ?_|apply Ab|apply Ac|refine Aj Z (by first|omega|decide) ?_|refine Au Z ?_);refine Ae Z Z Z (Yn k w4 d) ?_;rintro e w5 ⟨rfl,ah⟩;refine T2 Z Z ?_;have bg:=n.lt;have ai:Fm sp [68] w4 w5:=ah.fm Y (by omega);have ae:=n.fm (ah.fm (B':=0) (T:=[]) Y O) (by simp) (by simp);have ar:=Gg.ge code j3;(repeat first|refine Aa Z ?_|refine Au Z ?_);refine Ae Z Z Z (En sp code j3 2 w5 ae (by omega) (by omega)) ?_;rintro e w6 ⟨rfl,f,aa⟩;refine T2 Z Z ?_;have p4:=Gg.to code (show j3+1=j3+1 from rfl);have g:=(r.trans ai).trans aa;by_cases h0:Mq code j3%2=0
      ·(repeat first|refine Aa Z ?_|apply Ab|refine Ao Z (by first|omega|decide) ?_|refine Bo Z Z (Bt [39] k (by simp;omega) _ _) Z ?_|refine Au Z ?_|apply Am);refine Bo Z Z (Bt _ [39] (by simp;omega) _ _) Z ?_;refine Bo Z Z (Bt out2 _ (by simp;omega) _ _) Z ?_;(repeat first|refine Aa Z ?_|apply Am|apply Aq|apply An|apply Bj|refine Ay Z Z (by omega) Z ?_);refine Ap (m+1,out2++(([39]++k)++[39]),j3+1) ⟨p _ (by have:=Js.lit d;simpa using this),f,g,by dsimp only;omega,by dsimp only;rw [ac];simp only [Ye,List.length_singleton];omega⟩ (by dsimp only;omega) ⟨Z,Z,Z,Z,Z,V⟩
      ·(repeat first|refine Aa Z ?_|apply Ab|apply Ac|refine Aj Z (by first|omega|decide) ?_|refine Bo Z Z (Bt out2 [34] (by simp;omega) _ _) Z ?_|refine Au Z ?_|apply Ad);refine eO Z Z Z (fun w7 t=>?_);have v:=t.at_;have aj:=f.lt;have ak:Fm sp [68] w w7:=g.trans (t.fm (by omega));have al:=f.fm (t.fm (B:=0) (T:=[]) O) (by simp) (by simp);have bh:=g.size;generalize br:w6.heap.size=bb at *;clear t;(repeat first|apply Ab|apply Ag);refine Bg (σ:=Nat×Bs×Nat) (I:=fun s w'=>w'.heap[bb]?=some (.stringIter ⟨k.toArray⟩ s.1)/\s.1<=k.length/\Ry (k.take s.1) s.2.1/\SB w' sp code s.2.2/\Fm sp [68] w w'/\s.2.1.length+Gg code s.2.2<=Gg code (j3+1)+12*s.1)
        (m:=fun s=>k.length-s.1) (Lf:=fun s=>[(0,.pointer (F sp)),(5,Bm (out2++[34]++s.2.1)),(7,Bm k),(12,kv),(13,.int .i64 (ks.length:Int)),(14,.int .i64 (m:Int)),(47,.pointer (F bb))])
        (0,[],j3+1) ⟨v,Nat.zero_le _,Ry.nil,al,ak,by simp⟩ ⟨rfl,by simp;rfl,rfl,rfl,rfl,rfl,rfl,trivial⟩ ?_
       clear v al ak;rintro⟨q,es,j⟩ w8 ⟨l,hq,hB,ab,am,au⟩;dsimp only at l hq hB ab au ⊢;have az:=Gg.ge code j;by_cases af:q<k.length
       ·obtain⟨c,hc⟩:∃c,k[q]?=some c:=⟨_,Yd af⟩;have ap:=d.at hc;apply Ad;apply Am;refine iW Z Z l hc (by omega) Z (fun w9 u=>?_);have bs:Fm 0 [1001] w8 w9:=u.fm l O (by simp [Ce]) rfl;have an:=u.at_;(repeat first|refine Aa Z ?_|apply Ab|apply Ac|refine Bn Z (by first|with_reducible rfl|exact Bool.not_false) ?_|apply Ad|apply Am|apply Ag|apply An|apply Af);refine Ae Z Z Z (Rf sp code j c w9 (ab.fms (u.fm (T:=[1001]) l (Nat.le_of_lt aj) (by simp [Ce]) rfl) (by simp)) (by omega) ap) ?_;rintro e cf ⟨s,j',rfl,hs,av,ao,bt⟩;refine T2 Z Z ?_;(repeat first|refine Aa Z ?_|refine Bo Z Z (Bt _ s (by simp;omega) _ _) Z ?_|apply Aq|apply Bj);refine Ap (q+1,es++s,j') ⟨ao.keep _ _ an (by simp [Ce]),by dsimp only;omega,?_,av,(am.stN u (by omega) (by omega)).trans ao,by dsimp only;simp only [Ye];omega⟩ (by dsimp only;omega) ⟨rfl,by simp only [<-List.append_assoc];rfl,rfl,rfl,rfl,rfl,rfl,trivial⟩;dsimp only;rw [List.take_add_one,hc];exact hB.snoc hs
       ·have aw:q=k.length:=(by omega);subst aw;rw [List.take_length] at hB;apply Ad;apply Am;refine cG Z Z l Y Z ?_;(repeat first|refine Aa Z ?_|apply Ab|refine Bb Z (by first|with_reducible rfl|exact Bool.not_true) ?_|refine Bo Z Z (Bt _ [34] (by simp;omega) _ _) Z ?_|apply Ad|apply Am|apply Aq|apply An|apply Cn|apply Bj|apply Ci|apply Ba|refine Ay Z Z (by omega) Z ?_);refine Ap (m+1,out2++[34]++es++[34],j) ⟨?_,ab,am,by dsimp only;omega,by dsimp only;rw [ac];simp only [Ye,List.length_singleton];omega⟩ (by dsimp only;omega) ⟨Z,Z,Z,Z,Z,V⟩;have:=p _ (Js.bas d hB);simpa using this
 ·have bu:m=ks.length:=(by omega);subst bu;rw [List.take_length] at hD hp;(repeat first|refine Aa Z ?_|apply Ab|apply Ac|refine Aj Z (by first|omega|decide) ?_|apply Ad|apply An|apply Cn|apply Ci|apply Ba|apply Ai);exact Ak Z Z ⟨out,j,rfl,hD.key h0,hS,hF,hp⟩
end
section
mutual
def Nd (w:World) (P:Nat->Prop):Bz->Value->Value->Value->Prop
 | .sc kind text,a,b,c=>a=.int .i64 (kind:Int)/\b=Bm text/\∃ad cap,c=.slice ad 0 cap
 | .arr vs,a,b,c=>a=.int .i64 8/\b=Bm []/\∃ad cap,c=.slice ad vs.length cap/\(vs≠[]->∃g cur,P g/\ad=some ⟨g,0,none⟩/\w.heap[g]?=some (.cells ⟨cur⟩ 37 (0,0))/\Ee w P vs cur)
 | .tbl es,a,b,c=>a=.int .i64 9/\b=Bm []/\∃ad cap,c=.slice ad es.length cap/\(es≠[]->∃g cur,P g/\ad=some ⟨g,0,none⟩/\w.heap[g]?=some (.cells ⟨cur⟩ 37 (0,0))/\Dy w P es cur)
def Ee (w:World) (P:Nat->Prop):List Bz->List Value->Prop
 | [],_=>True
 | v::vs,l=>∃a b c d r,l=a::b::c::d::r/\Nd w P v a b c/\RS w P d []/\Ee w P vs r
def Dy (w:World) (P:Nat->Prop):List (List Bs×Bz)->List Value->Prop
 | [],_=>True
 | (ks,v)::es,l=>∃a b c d r,l=a::b::c::d::r/\Nd w P v a b c/\RS w P d ks/\Dy w P es r
end
def Ef (P:Nat->Prop) (w w':World):Prop:=∀b o,P b->w.heap[b]?=some o->(Ce o=9∨Ce o=37)->w'.heap[b]?=some o
theorem Ef.fm {P:Nat->Prop} {w w':World} {B:Nat} {T:List Nat} (hf:Fm B T w w') (h9:9∉T) (a:37∉T):Ef P w w':=fun b o _ ho ht=>hf.keep _ _ ho (by rcases ht with h|h<;>rw [h]<;>assumption)
mutual
theorem Nd.keep {w w':World} {P:Nat->Prop} (hk:Ef P w w'):∀(v:Bz) (a b c:Value),Nd w P v a b c->Nd w' P v a b c
 | .sc _ _,a,b,c,h=>by simpa only [Nd] using h
 | .arr vs,a,b,c,h=>by
  simp only [Nd] at h ⊢;obtain⟨h1,h2,ad,cap,h3,h4⟩:=h;refine⟨h1,h2,ad,cap,h3,fun hne=>?_⟩;obtain⟨g,cur,hp,h5,h6,h7⟩:=h4 hne;exact⟨g,cur,hp,h5,hk g _ hp h6 (.inr rfl),Ee.keep hk vs cur h7⟩
 | .tbl es,a,b,c,h=>by
  simp only [Nd] at h ⊢;obtain⟨h1,h2,ad,cap,h3,h4⟩:=h;refine⟨h1,h2,ad,cap,h3,fun hne=>?_⟩;obtain⟨g,cur,hp,h5,h6,h7⟩:=h4 hne;exact⟨g,cur,hp,h5,hk g _ hp h6 (.inr rfl),Dy.keep hk es cur h7⟩
theorem Ee.keep {w w':World} {P:Nat->Prop} (hk:Ef P w w'):∀(vs:List Bz) (l:List Value),Ee w P vs l->Ee w' P vs l
 | [],_,_=>trivial
 | v::vs,l,h=>by
  simp only [Ee] at h ⊢;obtain⟨a,b,c,d,r,h1,h2,h3,h4⟩:=h;exact⟨a,b,c,d,r,h1,Nd.keep hk v a b c h2,h3.keep hk,Ee.keep hk vs r h4⟩
theorem Dy.keep {w w':World} {P:Nat->Prop} (hk:Ef P w w'):∀(es:List (List Bs×Bz)) (l:List Value),Dy w P es l->Dy w' P es l
 | [],_,_=>trivial
 | (ks,v)::es,l,h=>by
  simp only [Dy] at h ⊢;obtain⟨a,b,c,d,r,h1,h2,h3,h4⟩:=h;exact⟨a,b,c,d,r,h1,Nd.keep hk v a b c h2,h3.keep hk,Dy.keep hk es r h4⟩
end
mutual
theorem Nd.mono {w:World} {P P':Nat->Prop} (hp:∀b,P b->P' b):∀(v:Bz) (a b c:Value),Nd w P v a b c->Nd w P' v a b c
 | .sc _ _,a,b,c,h=>by simpa only [Nd] using h
 | .arr vs,a,b,c,h=>by
  simp only [Nd] at h ⊢;obtain⟨h1,h2,ad,cap,h3,h4⟩:=h;refine⟨h1,h2,ad,cap,h3,fun hne=>?_⟩;obtain⟨g,cur,hpg,h5,h6,h7⟩:=h4 hne;exact⟨g,cur,hp g hpg,h5,h6,Ee.mono hp vs cur h7⟩
 | .tbl es,a,b,c,h=>by
  simp only [Nd] at h ⊢;obtain⟨h1,h2,ad,cap,h3,h4⟩:=h;refine⟨h1,h2,ad,cap,h3,fun hne=>?_⟩;obtain⟨g,cur,hpg,h5,h6,h7⟩:=h4 hne;exact⟨g,cur,hp g hpg,h5,h6,Dy.mono hp es cur h7⟩
theorem Ee.mono {w:World} {P P':Nat->Prop} (hp:∀b,P b->P' b):∀(vs:List Bz) (l:List Value),Ee w P vs l->Ee w P' vs l
 | [],_,_=>trivial
 | v::vs,l,h=>by
  simp only [Ee] at h ⊢;obtain⟨a,b,c,d,r,h1,h2,h3,h4⟩:=h;exact⟨a,b,c,d,r,h1,Nd.mono hp v a b c h2,h3.mono hp,Ee.mono hp vs r h4⟩
theorem Dy.mono {w:World} {P P':Nat->Prop} (hp:∀b,P b->P' b):∀(es:List (List Bs×Bz)) (l:List Value),Dy w P es l->Dy w P' es l
 | [],_,_=>trivial
 | (ks,v)::es,l,h=>by
  simp only [Dy] at h ⊢;obtain⟨a,b,c,d,r,h1,h2,h3,h4⟩:=h;exact⟨a,b,c,d,r,h1,Nd.mono hp v a b c h2,h3.mono hp,Dy.mono hp es r h4⟩
end
theorem Ee.get {w:World} {P:Nat->Prop}:∀{vs:List Bz} {l:List Value} {m:Nat} {v:Bz},Ee w P vs l->vs[m]?=some v->
  ∃a b c d,(∀(j:Nat) (x:Value),[a,b,c,d][j]?=some x->l[m*4+j]?=some x)/\Nd w P v a b c/\RS w P d []
 | [],_,_,_,_,h=>by simp at h
 | u::vs,l,0,v,hn,h=>by
  simp only [Ee] at hn;obtain⟨a,b,c,d,r,rfl,h2,h3,h4⟩:=hn;simp only [List.getElem?_cons_zero,Yb] at h;subst h;refine⟨a,b,c,d,fun j x hx=>?_,h2,h3⟩;have hj:=(Yc.1 hx).1;simp only [Ya,List.length_nil] at hj;rw [show 0*4+j=j by omega,show a::b::c::d::r=[a,b,c,d]++r from rfl,Yf (by simp;omega)];exact hx
 | u::vs,l,m+1,v,hn,h=>by
  simp only [Ee] at hn;obtain⟨a,b,c,d,r,rfl,h2,h3,h4⟩:=hn;rw [List.getElem?_cons_succ] at h;obtain⟨a',b',c',d',q1,q2,q3⟩:=Ee.get h4 h;refine⟨a',b',c',d',fun j x hx=>?_,q2,q3⟩;rw [show (m+1)*4+j=(m*4+j)+1+1+1+1 by omega];simp only [List.getElem?_cons_succ];exact q1 j x hx
theorem Dy.get {w:World} {P:Nat->Prop}:∀{es:List (List Bs×Bz)} {l:List Value} {m:Nat} {ks:List Bs} {v:Bz},Dy w P es l->es[m]?=some (ks,v)->
  ∃a b c d,(∀(j:Nat) (x:Value),[a,b,c,d][j]?=some x->l[m*4+j]?=some x)/\Nd w P v a b c/\RS w P d ks
 | [],_,_,_,_,_,h=>by simp at h
 | (ks',u)::vs,l,0,ks,v,hn,h=>by
  simp only [Dy] at hn;obtain⟨a,b,c,d,r,rfl,h2,h3,h4⟩:=hn;simp only [List.getElem?_cons_zero,Yb,Prod.mk.injEq] at h;obtain⟨rfl,rfl⟩:=h;refine⟨a,b,c,d,fun j x hx=>?_,h2,h3⟩;have hj:=(Yc.1 hx).1;simp only [Ya,List.length_nil] at hj;rw [show 0*4+j=j by omega,show a::b::c::d::r=[a,b,c,d]++r from rfl,Yf (by simp;omega)];exact hx
 | u::vs,l,m+1,ks,v,hn,h=>by
  obtain⟨ks',u⟩:=u;simp only [Dy] at hn;obtain⟨a,b,c,d,r,rfl,h2,h3,h4⟩:=hn;rw [List.getElem?_cons_succ] at h;obtain⟨a',b',c',d',q1,q2,q3⟩:=Dy.get h4 h;refine⟨a',b',c',d',fun j x hx=>?_,q2,q3⟩;rw [show (m+1)*4+j=(m*4+j)+1+1+1+1 by omega];simp only [List.getElem?_cons_succ];exact q1 j x hx
theorem Ee.snoc {w:World} {P:Nat->Prop}:∀{vs:List Bz} {l:List Value} {v:Bz} {a b c d:Value},Ee w P vs l->l.length=vs.length*4->Nd w P v a b c->RS w P d []->Ee w P (vs++[v]) (l++[a,b,c,d])
 | [],l,v,a,b,c,d,_,hl,h1,h2=>by
  have:l=[]:=List.eq_nil_of_length_eq_zero (by simpa using hl);subst this;simp only [List.nil_append,Ee];exact⟨a,b,c,d,[],rfl,h1,h2,trivial⟩
 | u::vs,l,v,a,b,c,d,hn,hl,h1,h2=>by
  simp only [Ee] at hn;obtain⟨a',b',c',d',r,rfl,q1,q2,q3⟩:=hn;simp only [List.cons_append,Ee];exact⟨a',b',c',d',r++[a,b,c,d],rfl,q1,q2,Ee.snoc q3 (by simp at hl;omega) h1 h2⟩
theorem Dy.snoc {w:World} {P:Nat->Prop}:∀{es:List (List Bs×Bz)} {l:List Value} {ks:List Bs} {v:Bz} {a b c d:Value},Dy w P es l->l.length=es.length*4->Nd w P v a b c->RS w P d ks->Dy w P (es++[(ks,v)]) (l++[a,b,c,d])
 | [],l,ks,v,a,b,c,d,_,hl,h1,h2=>by
  have:l=[]:=List.eq_nil_of_length_eq_zero (by simpa using hl);subst this;simp only [List.nil_append,Dy];exact⟨a,b,c,d,[],rfl,h1,h2,trivial⟩
 | (ks',u)::vs,l,ks,v,a,b,c,d,hn,hl,h1,h2=>by
  simp only [Dy] at hn;obtain⟨a',b',c',d',r,rfl,q1,q2,q3⟩:=hn;simp only [List.cons_append,Dy];exact⟨a',b',c',d',r++[a,b,c,d],rfl,q1,q2,Dy.snoc q3 (by simp at hl;omega) h1 h2⟩
theorem Nd.one {w:World} {P:Nat->Prop} {v:Bz} {a b c:Value} (h:Nd w P v a b c):Bp a=true/\Bp b=true/\Bp c=true/\jY c:=by
 cases v with
 | sc kind text=>
  simp only [Nd] at h;obtain⟨rfl,rfl,ad,cap,rfl⟩:=h;exact⟨Z,Z,Z,V⟩
 | arr vs=>
  simp only [Nd] at h;obtain⟨rfl,rfl,ad,cap,rfl,_⟩:=h;exact⟨Z,Z,Z,V⟩
 | tbl es=>
  simp only [Nd] at h;obtain⟨rfl,rfl,ad,cap,rfl,_⟩:=h;exact⟨Z,Z,Z,V⟩
theorem RS.one {w:World} {P:Nat->Prop} {v:Value} {ks:List Bs} (h:RS w P v ks):Bp v=true:=by
 obtain⟨ad,cap,rfl,_⟩:=h;rfl
mutual
def Zs:Bz->Prop
 | .sc kind text=>kind=1/\text=[55]
 | .arr vs=>Ui vs
 | .tbl es=>Uj es
def Ui:List Bz->Prop
 | []=>True
 | v::vs=>Zs v/\Ui vs
def Uj:List (List Bs×Bz)->Prop
 | []=>True
 | (ks,v)::es=>(ks≠[]/\∀k∈ks,Vb k)/\Zs v/\Uj es
end
mutual
def kV:Bz->Nat
 | .sc _ text=>text.length
 | .arr vs=>25+Sc vs
 | .tbl es=>5+Oc es
def Sc:List Bz->Nat
 | []=>0
 | v::vs=>43+kV v+Sc vs
def Oc:List (List Bs×Bz)->Nat
 | []=>0
 | (ks,v)::es=>14+Me ks+kV v+Oc es
end
theorem Uq:∀(a b:List Bz),Sc (a++b)=Sc a+Sc b
 | [],b=>by simp [Sc]
 | v::a,b=>by simp only [List.cons_append,Sc,Uq a b];omega
theorem Ur:∀(a b:List (List Bs×Bz)),Oc (a++b)=Oc a+Oc b
 | [],b=>by simp [Oc]
 | (ks,v)::a,b=>by simp only [List.cons_append,Oc,Ur a b];omega
theorem iB:∀(a:List Bz),a.length<=Sc a
 | []=>Nat.le_refl _
 | v::a=>by have:=iB a;simp only [Ya,Sc];omega
theorem aN:∀(a:List (List Bs×Bz)),a.length<=Oc a
 | []=>Nat.le_refl _
 | (ks,v)::a=>by have:=aN a;simp only [Ya,Oc];omega
theorem Ui.mem:∀{vs:List Bz},Ui vs->∀v∈vs,Zs v
 | [],_,v,hv=>by simp at hv
 | u::vs,h,v,hv=>by
  simp only [Ui] at h;rcases List.mem_cons.1 hv with rfl|hv
  ·exact h.1
  ·exact Ui.mem h.2 v hv
theorem Uj.mem:∀{es:List (List Bs×Bz)},Uj es->∀ks v,(ks,v)∈es->(ks≠[]/\∀k∈ks,Vb k)/\Zs v
 | [],_,ks,v,hv=>by simp at hv
 | (ks',u)::es,h,ks,v,hv=>by
  simp only [Uj] at h;rcases List.mem_cons.1 hv with e|hv
  ·simp only [Prod.mk.injEq] at e;obtain⟨rfl,rfl⟩:=e;exact⟨h.1,h.2.1⟩
  ·exact Uj.mem h.2.2 ks v hv
end
end Go.Proofs.YtaccphdkapmdhaaGreat
