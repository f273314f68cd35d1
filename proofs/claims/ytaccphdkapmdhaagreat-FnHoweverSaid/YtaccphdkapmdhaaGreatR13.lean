/- The parser reads numbers, dates and strings as the grammar says. No condition. -/
import Derived.Test.YtaccphdkapmdhaaGreatR12
namespace Go.Proofs.YtaccphdkapmdhaaGreat
set_option maxRecDepth 100000
set_option maxHeartbeats 64000000
set_option linter.all false
section
inductive Gt (p:UInt8->Bool):Bs->Nat->Prop
 | stop {b:Bs}:(∀c,b.head?=some c->p c=false/\c≠95)->Gt p b 0
 | dig {c:UInt8} {b:Bs} {n:Nat}:p c=true->Gt p b n->Gt p (c::b) (n+1)
 | und {c:UInt8} {b:Bs} {n:Nat}:p c=true->Gt p b n->Gt p (95::c::b) (n+2)
def Gw (base:Nat) (c:UInt8):Bool:=decide (Fb c<base)
theorem bI (base:Nat):∀(b:Bs) (m:Nat),Gt (Gw base) (b.drop (Fc base b)) m->Gt (Gw base) b (Fc base b+m)
 | [],m,h=>by simpa [Fc] using h
 | c::l,m,h=>by
  rw [Fc] at h ⊢;split
  ·rename_i hc;rw [if_pos hc] at h;have:=bI base l m (by simpa using h);rw [show Fc base l+1+m=(Fc base l+m)+1 by omega];exact .dig (by simp [Gw,hc]) this
  ·rename_i hc;rw [if_neg hc] at h;simpa using h
theorem Zn (base:Nat):∀(b:Bs) (c:UInt8),(b.drop (Fc base b)).head?=some c->Gw base c=false
 | [],c,h=>by simp [Fc] at h
 | x::l,c,h=>by
  rw [Fc] at h;split at h
  ·exact Zn base l c (by simpa using h)
  ·rename_i hc;simp at h;subst h;simpa [Gw] using hc
theorem Wk {base:Nat} {b:Bs} (h:0<Fc base b):∃c t,b=c::t/\Gw base c=true:=by
 cases b with
 | nil=>simp [Fc] at h
 | cons c t=>
  rw [Fc] at h;split at h
  ·rename_i hc;exact⟨c,t,rfl,by simp [Gw,hc]⟩
  ·omega
theorem Sd.gt0 {base:Nat} (hb:base<=16) {b:Bs} {g:Nat} (h:Sd base b g):Gt (Gw base) b g/\∃c t,b=c::t/\Gw base c=true:=by
 induction h with
 | @one b k h1 h2 h3=>
  subst h1;refine⟨?_,Wk h2⟩;have:=bI base b 0 (.stop fun c hc=>⟨Zn base b c hc,fun e=>h3 (by rw [hc,e])⟩);exact this
 | @more b b' k n h1 h2 h3 h4 ih=>
  subst h1;refine⟨?_,Wk h2⟩;obtain⟨h5,c,t,rfl,hc⟩:=ih;have a:Gw base 95=false:=by
   have:Fb 95=99:=(by decide);simp [Gw,this];omega
  cases h5 with
  | stop h=>exact absurd (h c rfl).1 (by simp [hc])
  | @dig _ _ m h6 h7=>
   have:=bI base b (m+2) (by rw [h3];exact .und hc h7);rwa [show Fc base b+1+(m+1)=Fc base b+(m+2) by omega]
  | und h6 h7=>rw [a] at hc;cases hc
theorem Sd.gt {base:Nat} (hb:base<=16) {b:Bs} {g:Nat} (h:Sd base b g):∃c t n,b=c::t/\Gw base c=true/\Gt (Gw base) t n/\g=n+1:=by
 obtain⟨h5,c,t,rfl,hc⟩:=h.gt0 hb;have a:Gw base 95=false:=by
  have:Fb 95=99:=(by decide);simp [Gw,this];omega
 cases h5 with
 | stop h9=>exact absurd (h9 c rfl).1 (by simp [hc])
 | @dig _ _ m h6 h7=>exact⟨c,t,m,rfl,hc,h7,rfl⟩
 | und h6 h7=>rw [a] at hc;cases hc
theorem Yp (c:UInt8):Gw 10 c=Dj c:=by
 simp only [Gw,Dj,Fb];split
 ·rename_i h;rw [decide_eq_true h,decide_eq_true (by omega)]
 ·rename_i h;rw [decide_eq_false h];have:¬((if 97<=c.toNat/\c.toNat<=102 then c.toNat-87 else if 65<=c.toNat/\c.toNat<=70 then c.toNat-55 else 99)<10):=by
   split
   ·omega
   ·split<;>omega
  exact decide_eq_false this
theorem Em {b:Bs} {a:Nat} (h:a<b.length):b.drop a=pk b a::b.drop (a+1):=by
 rw [List.drop_eq_getElem_cons h];congr 1;simp [pk,List.getD,Yd h]
theorem Gt.le {p:UInt8->Bool} {b:Bs} {n:Nat} (h:Gt p b n):n<=b.length:=by
 induction h with
 | stop _=>exact Nat.zero_le _
 | dig _ _ ih=>simp only [Ya];omega
 | und _ _ ih=>simp only [Ya];omega
attribute [local irreducible] binOp IntKind.wrap Sem.run
def eU (f:Nat) (p:UInt8->Bool):Prop:=∀(c:UInt8) (w:World),Calls PP f #[u8 c] w fun e w'=>e=.returned (.bool (p c))/\w'=w
theorem eZ:eU 135 (Gw 10):=fun c w=>by rw [Yp];exact Dc c w
theorem tell2:eU 143 (Gw 2):=fun c w=>by
 have hp:Gw 2 c=decide (c.toNat=48∨c.toNat=49):=by
  simp only [Gw,Fb];refine decide_eq_decide.2 ?_;split
  ·omega
  ·split
   ·omega
   ·split<;>omega
 refine Bf (L:=[(0,u8 c)]) Tryz.func143 Z Z Z ⟨Z,V⟩ ?_;have key:c.toNat=48∨c.toNat=49∨(c.toNat≠48/\c.toNat≠49):=by omega
 rw [hp];rcases key with h|h|h;all_goals
  (repeat first|refine Aa Z ?_|apply Ab|apply Ac|refine Au Z ?_|apply Ai|refine Bc Z Z (by first|omega|decide) ?_|refine Az Z Z (by first|omega|decide) ?_);refine Ak Z Z ⟨?_,rfl⟩;refine congrArg Ending.returned (congrArg Value.bool ?_);first
   | (rw [Fj (by omega)];symm;rw [decide_eq_true_eq];omega)
   | (rw [Ew (by omega)];symm;rw [decide_eq_false_iff_not];omega)
   | (symm;rw [decide_eq_true_eq];omega)
theorem tell8:eU 142 (Gw 8):=fun c w=>by
 have hp:Gw 8 c=decide (48<=c.toNat/\c.toNat<=55):=by
  simp only [Gw,Fb];refine decide_eq_decide.2 ?_;split
  ·omega
  ·split
   ·omega
   ·split<;>omega
 refine Bf (L:=[(0,u8 c)]) Tryz.func142 Z Z Z ⟨Z,V⟩ ?_;have key:c.toNat<48∨(48<=c.toNat/\c.toNat<=55)∨55<c.toNat:=by omega
 rw [hp];rcases key with h|h|h;all_goals
  (repeat first|refine Aa Z ?_|apply Ab|apply Ac|refine Au Z ?_|apply Ai|refine Bc Z Z (by first|omega|decide) ?_|refine Az Z Z (by first|omega|decide) ?_);refine Ak Z Z ⟨?_,rfl⟩;refine congrArg Ending.returned (congrArg Value.bool ?_);first
   | (rw [Fj (by omega)];symm;rw [decide_eq_true_eq];omega)
   | (rw [Ew (by omega)];symm;rw [decide_eq_false_iff_not];omega)
   | (symm;rw [decide_eq_false_iff_not];omega)
theorem lQ:eU 141 (Gw 16):=fun c w=>by
 have hp:Gw 16 c=decide ((48<=c.toNat/\c.toNat<=57)∨(97<=c.toNat/\c.toNat<=102)∨(65<=c.toNat/\c.toNat<=70)):=by
  simp only [Gw,Fb];refine decide_eq_decide.2 ?_;split
  ·omega
  ·split
   ·omega
   ·split<;>omega
 refine Bf (L:=[(0,u8 c)]) Tryz.func141 Z Z Z ⟨Z,V⟩ ?_;repeat first|refine Aa Z ?_|apply Ab|apply Ac
 refine Ae Z Z Z (Dc c w) ?_;rintro e w1 ⟨rfl,rfl⟩;refine T2 Z Z ?_;rw [hp];have key:(48<=c.toNat/\c.toNat<=57)∨¬(48<=c.toNat/\c.toNat<=57):=by omega
 rcases key with h|h
 ·rw [show Dj c=true by simp only [Dj,decide_eq_true_eq];exact h];(repeat first|refine Aa Z ?_|apply Ab|refine Au Z ?_|apply Ai);refine Ak Z Z ⟨?_,rfl⟩;refine congrArg Ending.returned (congrArg Value.bool ?_);symm;rw [decide_eq_true_eq];omega
 ·rw [show Dj c=false by simp only [Dj,decide_eq_false_iff_not];exact h];have key:c.toNat<65∨(65<=c.toNat/\c.toNat<=70)∨(70<c.toNat/\c.toNat<97)∨(97<=c.toNat/\c.toNat<=102)∨102<c.toNat:=(by omega);rcases key with h|h|h|h|h;all_goals
   (repeat first|refine Aa Z ?_|apply Ab|refine Au Z ?_|apply Ai|refine Bc Z Z (by first|omega|decide) ?_|refine Az Z Z (by first|omega|decide) ?_);refine Ak Z Z ⟨?_,rfl⟩;refine congrArg Ending.returned (congrArg Value.bool ?_);first
    | (rw [Fj (by omega)];symm;rw [decide_eq_true_eq];omega)
    | (rw [Ew (by omega)];symm;rw [decide_eq_false_iff_not];omega)
    | (symm;rw [decide_eq_false_iff_not];omega)
    | (symm;rw [decide_eq_true_eq];omega)
section
variable {bd C E:Nat} {dc:Array Value} {fz:Nat×Nat}
theorem Es.pk {v b} (h:Es bd C E dc v b) {w:World} (hD:w.heap[bd]?=some (.cells dc 5 fz)) {i:Nat} (hi:i<b.length):w.cell? ⟨bd,E-b.length+i*1,none⟩=some (u8 (pk b i)):=by
 refine h.at hD ?_;simp [Go.Proofs.YtaccphdkapmdhaaGreat.pk,List.getD,Yd hi]
theorem Hd (f:Nat) (o:(Nat.ble 3 f && Nat.blt f 150)=true) (p:UInt8->Bool) (z:p 95=false) (hp:eU f p) (v:Value) (b:Bs) (j n:Nat) (w:World) (hv:Es bd C E dc v b) (hE:E<=100000000) (h0:0<b.length) (hj:j<=b.length) (hg:Gt p (b.drop j) n) (hD:w.heap[bd]?=some (.cells dc 5 fz)):
  Calls PP 144 #[v,.int .i64 (j:Int),.func (.func f) #[] #[]] w fun e w'=>e=.returned (.tuple #[.int .i64 ((j+n:Nat):Int),.nilIface])/\w'=w:=by
 have ac:=hv.le;rw [hv.val h0];refine Bf (L:=[(0,.slice (some ⟨bd,E-b.length,none⟩) b.length (C-(E-b.length))),(1,.int .i64 (j:Int)),(2,.func (.func f) #[] #[])]) Tryz.func144 Z Z Z ⟨Z,Z,Z,V⟩ ?_;repeat first|refine Aa Z ?_|apply Ab|apply Ac|apply Ad|apply Ag
 refine Bg (σ:=Nat×Nat) (I:=fun s w'=>w'=w/\s.1+s.2=j+n/\s.1<=b.length/\Gt p (b.drop s.1) s.2) (m:=fun s=>s.2)
  (Lf:=fun s=>[(0,.slice (some ⟨bd,E-b.length,none⟩) b.length (C-(E-b.length))),(1,.int .i64 (s.1:Int)),(2,.func (.func f) #[] #[])]) (j,n) ⟨rfl,rfl,hj,hg⟩ ⟨Z,Z,Z,V⟩ ?_
 rintro⟨j1,n1⟩ w1 ⟨rfl,hs,aa,k⟩;dsimp only at hs aa k ⊢;by_cases l:j1<b.length
 ·have a:=hv.pk hD l;have r:=Em l;generalize hc:pk b j1=c at *;rw [r] at k;generalize q:b.drop (j1+1)=d at k r;cases k with
  | stop h=>
   obtain⟨q1,q2⟩:=h c rfl;have q3:c.toNat≠95:=fun h=>q2 (UInt8.toNat_inj.1 h);(repeat first|refine Aa Z ?_|apply Ab|apply Ac|refine Ao Z (by first|omega|decide) ?_|refine Ax (i:=j1) Z Z Z l Z ?_|refine Aw Z Z a Z ?_|apply Ad|apply Ag|apply An|apply Af);refine Ae Z Z o (hp c w1) ?_;rintro e w2 ⟨rfl,rfl⟩;rw [q1];refine T2 Z Z ?_;(repeat first|refine Aa Z ?_|apply Ab|apply Ac|refine Bb Z (by first|with_reducible rfl|exact Bool.not_true) ?_|refine Aj Z (by first|omega|decide) ?_|apply Ad|apply An|apply Cn|apply Ci|refine Kn Z ?_|apply Af|apply Ba|apply Ai);refine Ak Z Z ⟨?_,rfl⟩;rw [<-hs];rfl
  | @dig _ _ n2 q1 q2=>
   (repeat first|refine Aa Z ?_|apply Ab|apply Ac|refine Ao Z (by first|omega|decide) ?_|refine Ax (i:=j1) Z Z Z l Z ?_|refine Aw Z Z a Z ?_|apply Ad|apply Ag|apply An|apply Af);refine Ae Z Z o (hp c w1) ?_;rintro e w2 ⟨rfl,rfl⟩;rw [q1];refine T2 Z Z ?_;(repeat first|refine Aa Z ?_|apply Ab|apply Ac|refine Bn Z (by first|with_reducible rfl|exact Bool.not_false) ?_|apply Cn|apply Ci|apply Ba|refine Ay Z Z (by omega) Z ?_);exact Ap (j1+1,n2) ⟨rfl,by dsimp only;omega,by dsimp only;omega,by dsimp only;rw [q];exact q2⟩ (by dsimp only;omega) ⟨Z,Z,Z,V⟩
  | @und c2 t n2 q1 q2=>
   have u:j1+1<b.length:=by
    have:=congrArg List.length r;simp only [Yh,Ya] at this;omega
   have g:=hv.pk hD u;have x:=Em u;have y:pk b (j1+1)=c2/\b.drop (j1+1+1)=t:=by
    rw [x] at q;simp only [List.cons.injEq] at q;exact q
   rw [y.1] at g;have ab:(95:UInt8).toNat=95:=rfl;(repeat first|refine Aa Z ?_|apply Ab|apply Ac|refine Ao Z (by first|omega|decide) ?_|refine Ax (i:=j1) Z Z Z l Z ?_|refine Aw Z Z a Z ?_|apply Ad|apply Ag|apply An|apply Af);refine Ae Z Z o (hp 95 w1) ?_;rintro e w2 ⟨rfl,rfl⟩;rw [z];refine T2 Z Z ?_;(repeat first|refine Aa Z ?_|apply Ab|apply Ac|refine Bb Z (by first|with_reducible rfl|exact Bool.not_true) ?_|refine Ao Z (by first|omega|decide) ?_|refine Ax (i:=j1+1) Z Z Z u Z ?_|refine Aw Z Z g Z ?_|refine Au Z ?_|apply Ad|apply An|apply Af|refine Ay Z Z (by omega) Z ?_|refine Az Z Z (by first|omega|decide) ?_);refine Ae Z Z o (hp c2 w2) ?_;rintro e w3 ⟨rfl,rfl⟩;rw [q1];refine T2 Z Z ?_;(repeat first|refine Aa Z ?_|apply Ab|apply Ac|refine Bb Z (by first|with_reducible rfl|exact Bool.not_true) ?_|refine Au Z ?_|apply An|apply Cn|apply Ci|apply Af|apply Ba|refine Ay Z Z (by omega) Z ?_);exact Ap (j1+2,n2) ⟨rfl,by dsimp only;omega,by dsimp only;omega,by dsimp only;rw [show j1+2=j1+1+1 by omega,y.2];exact q2⟩ (by dsimp only;omega) ⟨Z,Z,Z,V⟩
 ·have e0:b.drop j1=[]:=List.drop_eq_nil_of_le (by omega);rw [e0] at k;cases k with
  | stop h=>
   (repeat first|refine Aa Z ?_|apply Ab|apply Ac|refine Aj Z (by first|omega|decide) ?_|apply Ad|apply An|apply Cn|apply Ci|apply Ba|apply Ai);refine Ak Z Z ⟨?_,rfl⟩;rw [<-hs];rfl
end
end
section
attribute [local irreducible] binOp IntKind.wrap Sem.run
section
variable {bd C E:Nat} {dc:Array Value} {fz:Nat×Nat}
def Ft (bd C E:Nat) (dc:Array Value) (b:Bs) (n m:Nat) (w:World) (e:Ending) (w':World):Prop:=
 ∃v1 v2 v3,e=.returned (.tuple #[.int .i64 (m:Int),v1,v2,v3,.nilIface])/\Rg C E v1/\RB w' v1 (b.take n)/\Es bd C E dc v3 (b.drop n)/\Sm w w'
theorem Ft.mk {v:Value} {b:Bs} {w w':World} (hv:Es bd C E dc v b) (n m:Nat) (hn:n<=b.length) (hD:w'.heap[bd]?=some (.cells dc 5 fz)) {ad1 ad3:Option Addr} {v2:Value} (h1:Sf bd (E-b.length+0) (C-(E-b.length)-0) ad1) (h3:Sf bd (E-b.length+n) (C-(E-b.length)-n) ad3) (hs:Sm w w'):
  Ft bd C E dc b n m w (.returned (.tuple #[.int .i64 (m:Int),.slice ad1 n (C-(E-b.length)-0),v2,.slice ad3 (b.length-n) (C-(E-b.length)-n),.nilIface])) w':=
 ⟨_,_,_,rfl,hv.rg 0 n (by omega) _,hv.sub hD 0 n (by omega) h1,hv.drop n hn h3,hs⟩
theorem jP (v:Value) (c:UInt8) (base n:Nat) (r:Bs) (w:World) (hv:Es bd C E dc v (48::c::r)) (hE:E<=100000000) (hc:(c=120/\base=16)∨(c=111/\base=8)∨(c=98/\base=2)) (hg:Sd base r n) (hf:Ic ((48::c::r).drop (2+n))) (hD:w.heap[bd]?=some (.cells dc 5 fz)):
  Calls PP 134 #[v] w (Ft bd C E dc (48::c::r) (2+n) 11 w):=by
 obtain⟨b,hb⟩:∃b,b=48::c::r:=⟨_,rfl⟩;have k:base<=16:=by omega
 obtain⟨c0,t,n1,rfl,a,g,rfl⟩:=hg.gt k;have o:=g.le;have p:b.length=t.length+3:=by rw [hb];simp
 rw [<-hb] at hv hf ⊢;have q:=hv.le;have s:=hv.EC;have k0:=hv.pk hD (i:=0) (by omega);have k1:=hv.pk hD (i:=1) (by omega);have k2:=hv.pk hD (i:=2) (by omega);rw [show pk b 0=48 by rw [hb];rfl] at k0;rw [show pk b 1=c by rw [hb];rfl] at k1;rw [show pk b 2=c0 by rw [hb];rfl] at k2;have u:(48:UInt8).toNat=48:=rfl;have j:b.drop 3=t:=by rw [hb];rfl
 have l:=hv.val (by omega);subst l;refine Bf (L:=[(0,.slice (some ⟨bd,E-b.length,none⟩) b.length (C-(E-b.length)))]) Tryz.func134 Z Z Z ⟨Z,V⟩ ?_;repeat first|refine Aa Z ?_|apply Ab|apply Ac|refine Aj Z (by first|omega|decide) ?_|refine Ax (i:=0) Z Z Z (by omega) Z ?_|refine Aw Z Z k0 Z ?_|refine Au Z ?_|apply Ad|apply An|apply Af|refine Az Z Z (by first|omega|decide) ?_
 refine Ae Z Z Z (Dc 48 w) ?_;rintro e w1 ⟨rfl,rfl⟩;rw [show Dj 48=true from rfl];refine T2 Z Z ?_;have fin:∀w2:World,w2=w1->Ft bd C E dc b (2+(n1+1)) 11 w1=Ft bd C E dc b (3+n1) 11 w2:=fun w2 h=>by rw [h,show 2+(n1+1)=3+n1 by omega]
 rw [fin w1 rfl];rw [show 2+(n1+1)=3+n1 by omega] at hf;have tail:∀x:UInt8,b.length > 3+n1->x=pk b (3+n1)->¬(97<=x.toNat/\x.toNat<=122)/\¬(65<=x.toNat/\x.toNat<=90):=fun x hx he=>by
  have hw:=hf.weak;rw [Em hx,<-he] at hw;rcases hw with h|⟨c',t',h,h2⟩
  ·cases h
  ·simp only [List.cons.injEq] at h;rw [h.1];omega
 rcases hc with ⟨rfl,rfl⟩|⟨rfl,rfl⟩|⟨rfl,rfl⟩
 ·have e120:(120:UInt8).toNat=120:=rfl;have e111:(111:UInt8).toNat=111:=rfl;have e98:(98:UInt8).toNat=98:=rfl;(repeat first|refine Aa Z ?_|apply Ab|apply Ac|refine Bn Z (by first|with_reducible rfl|exact Bool.not_false) ?_|refine Bb Z (by first|with_reducible rfl|exact Bool.not_true) ?_|refine Ao Z (by first|omega|decide) ?_|refine Aj Z (by first|omega|decide) ?_|refine Ax (i:=0) Z Z Z (by omega) Z ?_|refine Aw Z Z k0 Z ?_|refine Ax (i:=1) Z Z Z (by omega) Z ?_|refine Aw Z Z k1 Z ?_|refine Ax (i:=2) Z Z Z (by omega) Z ?_|refine Aw Z Z k2 Z ?_|refine Au Z ?_|apply Ad|apply Am|apply Ag|apply Aq|apply An|apply Bj|apply Af|refine Ay Z Z (by omega) Z ?_|refine Bc Z Z (by first|omega|decide) ?_|refine Az Z Z (by first|omega|decide) ?_);refine Ae Z Z Z (lQ c0 w1) ?_;rintro e w2 ⟨rfl,rfl⟩;rw [a];refine T2 Z Z ?_;(repeat first|refine Aa Z ?_|apply Ab|apply Ac|refine Bb Z (by first|with_reducible rfl|exact Bool.not_true) ?_|refine Au Z ?_|apply An|apply Af|refine Ay Z Z (by omega) Z ?_);refine Ae Z Z Z (Hd 141 Z (Gw 16) rfl lQ _ b 3 n1 w2 hv hE (by omega) (by omega) (by rw [j];exact g) hD) ?_;rintro e w3 ⟨rfl,rfl⟩;refine T2 Z Z ?_;(repeat first|refine Aa Z ?_|apply Ab|apply Ac|refine Bb Z (by first|with_reducible rfl|exact Bool.not_true) ?_|apply Ad|apply An|apply Af);refine Cp (fun _=>True) ?_;(repeat (refine Cg (by kernel_rfl) (by first|trivial|assumption) Z ?_));refine Dr (3+n1) 0 (by kernel_rfl) trivial Z Z (Sf.mk _ _ _) Z (by simp) (by omega) (fun _=>rfl) (fun ad1 d=>?_);(repeat (refine Cg (by kernel_rfl) (by first|trivial|assumption) Z ?_));refine Dr (3+n1) 0 (by kernel_rfl) trivial Z Z (Sf.mk _ _ _) Z (by simp) (by omega) (fun _=>rfl) (fun ad2 m=>?_);(repeat (refine Cg (by kernel_rfl) (by first|trivial|assumption) Z ?_));refine Dr (b.length-(3+n1)) (3+n1) (by kernel_rfl) trivial Z Z (Sf.mk _ _ _) Z (by simp;omega) (by omega) (fun _=>rfl) (fun ad3 f=>?_);(repeat (refine Cg (by kernel_rfl) (by first|trivial|assumption) Z ?_));refine Co ?_;(repeat first|apply An|apply Bl|apply Ai);exact Ak Z Z (Ft.mk hv (3+n1) 11 (by omega) (w':=w3.drew) hD d f (Sm.refl _).drew)
 ·have e120:(120:UInt8).toNat=120:=rfl;have e111:(111:UInt8).toNat=111:=rfl;have e98:(98:UInt8).toNat=98:=rfl;(repeat first|refine Aa Z ?_|apply Ab|apply Ac|refine Bn Z (by first|with_reducible rfl|exact Bool.not_false) ?_|refine Bb Z (by first|with_reducible rfl|exact Bool.not_true) ?_|refine Ao Z (by first|omega|decide) ?_|refine Aj Z (by first|omega|decide) ?_|refine Ax (i:=0) Z Z Z (by omega) Z ?_|refine Aw Z Z k0 Z ?_|refine Ax (i:=1) Z Z Z (by omega) Z ?_|refine Aw Z Z k1 Z ?_|refine Ax (i:=2) Z Z Z (by omega) Z ?_|refine Aw Z Z k2 Z ?_|refine Au Z ?_|apply Ad|apply Am|apply Ag|apply Aq|apply An|apply Bj|apply Af|refine Ay Z Z (by omega) Z ?_|refine Bc Z Z (by first|omega|decide) ?_|refine Az Z Z (by first|omega|decide) ?_);refine Ae Z Z Z (tell8 c0 w1) ?_;rintro e w2 ⟨rfl,rfl⟩;rw [a];refine T2 Z Z ?_;(repeat first|refine Aa Z ?_|apply Ab|apply Ac|refine Bb Z (by first|with_reducible rfl|exact Bool.not_true) ?_|refine Au Z ?_|apply An|apply Af|refine Ay Z Z (by omega) Z ?_);refine Ae Z Z Z (Hd 142 Z (Gw 8) rfl tell8 _ b 3 n1 w2 hv hE (by omega) (by omega) (by rw [j];exact g) hD) ?_;rintro e w3 ⟨rfl,rfl⟩;refine T2 Z Z ?_;(repeat first|refine Aa Z ?_|apply Ab|apply Ac|refine Bb Z (by first|with_reducible rfl|exact Bool.not_true) ?_|apply Ad|apply An|apply Af);refine Cp (fun _=>True) ?_;(repeat (refine Cg (by kernel_rfl) (by first|trivial|assumption) Z ?_));refine Dr (3+n1) 0 (by kernel_rfl) trivial Z Z (Sf.mk _ _ _) Z (by simp) (by omega) (fun _=>rfl) (fun ad1 d=>?_);(repeat (refine Cg (by kernel_rfl) (by first|trivial|assumption) Z ?_));refine Dr (3+n1) 0 (by kernel_rfl) trivial Z Z (Sf.mk _ _ _) Z (by simp) (by omega) (fun _=>rfl) (fun ad2 m=>?_);(repeat (refine Cg (by kernel_rfl) (by first|trivial|assumption) Z ?_));refine Dr (b.length-(3+n1)) (3+n1) (by kernel_rfl) trivial Z Z (Sf.mk _ _ _) Z (by simp;omega) (by omega) (fun _=>rfl) (fun ad3 f=>?_);(repeat (refine Cg (by kernel_rfl) (by first|trivial|assumption) Z ?_));refine Co ?_;(repeat first|apply An|apply Bl|apply Ai);exact Ak Z Z (Ft.mk hv (3+n1) 11 (by omega) (w':=w3.drew) hD d f (Sm.refl _).drew)
 ·have e120:(120:UInt8).toNat=120:=rfl;have e111:(111:UInt8).toNat=111:=rfl;have e98:(98:UInt8).toNat=98:=rfl;(repeat first|refine Aa Z ?_|apply Ab|apply Ac|refine Bb Z (by first|with_reducible rfl|exact Bool.not_true) ?_|refine Ao Z (by first|omega|decide) ?_|refine Aj Z (by first|omega|decide) ?_|refine Ax (i:=0) Z Z Z (by omega) Z ?_|refine Aw Z Z k0 Z ?_|refine Ax (i:=1) Z Z Z (by omega) Z ?_|refine Aw Z Z k1 Z ?_|refine Ax (i:=2) Z Z Z (by omega) Z ?_|refine Aw Z Z k2 Z ?_|refine Au Z ?_|apply Ad|apply Am|apply Ag|apply Aq|apply An|apply Bj|apply Af|refine Ay Z Z (by omega) Z ?_|refine Bc Z Z (by first|omega|decide) ?_|refine Az Z Z (by first|omega|decide) ?_);refine Ae Z Z Z (tell2 c0 w1) ?_;rintro e w2 ⟨rfl,rfl⟩;rw [a];refine T2 Z Z ?_;(repeat first|refine Aa Z ?_|apply Ab|apply Ac|refine Bb Z (by first|with_reducible rfl|exact Bool.not_true) ?_|refine Au Z ?_|apply An|apply Af|refine Ay Z Z (by omega) Z ?_);refine Ae Z Z Z (Hd 143 Z (Gw 2) rfl tell2 _ b 3 n1 w2 hv hE (by omega) (by omega) (by rw [j];exact g) hD) ?_;rintro e w3 ⟨rfl,rfl⟩;refine T2 Z Z ?_;(repeat first|refine Aa Z ?_|apply Ab|apply Ac|refine Bb Z (by first|with_reducible rfl|exact Bool.not_true) ?_|apply Ad|apply An|apply Af);refine Cp (fun _=>True) ?_;(repeat (refine Cg (by kernel_rfl) (by first|trivial|assumption) Z ?_));refine Dr (3+n1) 0 (by kernel_rfl) trivial Z Z (Sf.mk _ _ _) Z (by simp) (by omega) (fun _=>rfl) (fun ad1 d=>?_);(repeat (refine Cg (by kernel_rfl) (by first|trivial|assumption) Z ?_));refine Dr (3+n1) 0 (by kernel_rfl) trivial Z Z (Sf.mk _ _ _) Z (by simp) (by omega) (fun _=>rfl) (fun ad2 m=>?_);(repeat (refine Cg (by kernel_rfl) (by first|trivial|assumption) Z ?_));refine Dr (b.length-(3+n1)) (3+n1) (by kernel_rfl) trivial Z Z (Sf.mk _ _ _) Z (by simp;omega) (by omega) (fun _=>rfl) (fun ad3 f=>?_);(repeat (refine Cg (by kernel_rfl) (by first|trivial|assumption) Z ?_));refine Co ?_;(repeat first|apply An|apply Bl|apply Ai);exact Ak Z Z (Ft.mk hv (3+n1) 11 (by omega) (w':=w3.drew) hD d f (Sm.refl _).drew)
end
theorem Po {c:UInt8} {k:Nat} (hk:k<256):c=UInt8.ofNat k↔c.toNat=k:=by
 constructor
 ·rintro rfl;simp [UInt8.toNat_ofNat'];omega
 ·intro h;refine UInt8.toNat_inj.1 ?_;rw [h];simp [UInt8.toNat_ofNat'];omega
theorem Ic.pkn {b:Bs} {n:Nat} (hf:Ic (b.drop n)) (hn:n<b.length):(pk b n).toNat=9∨(pk b n).toNat=10∨(pk b n).toNat=13∨(pk b n).toNat=32∨(pk b n).toNat=35∨(pk b n).toNat=44∨(pk b n).toNat=93∨(pk b n).toNat=125:=by
 have hw:=hf.weak;rw [Em hn] at hw;rcases hw with h|⟨c',t',h,h2⟩
 ·cases h
 ·simp only [List.cons.injEq] at h;rw [h.1];exact h2
theorem Mx {b:Bs} {n:Nat} (h:b.length<=n):pk b n=0:=by
 simp [pk,List.getD,List.getElem?_eq_none h]
section
variable {bd C E:Nat} {dc:Array Value} {fz:Nat×Nat}
theorem dec_any (v:Value) (b:Bs) (s k f e kind n:Nat) (w:World) (hv:Es bd C E dc v b) (hE:E<=100000000) (hs:s=Di b) (h1:Sd 10 (b.drop s) k) (h2:pk b s=48->k=1)
  (h3:(pk b (s+k)≠46/\f=0)∨∃g,pk b (s+k)=46/\Sd 10 (b.drop (s+k+1)) g/\f=1+g)
  (h4:(pk b (s+k+f)≠101/\pk b (s+k+f)≠69/\e=0)∨∃m g,(pk b (s+k+f)=101∨pk b (s+k+f)=69)/\(m=if pk b (s+k+f+1)=43∨pk b (s+k+f+1)=45 then 2 else 1)/\Sd 10 (b.drop (s+k+f+m)) g/\e=m+g)
  (aa:kind=(if f=0/\e=0 then 1 else 2)) (hn:n=s+k+f+e) (hr:¬(pk b 0=48/\(pk b 1=120∨pk b 1=111∨pk b 1=98))) (hf:Ic (b.drop n)) (hD:w.heap[bd]?=some (.cells dc 5 fz)):
  Calls PP 134 #[v] w (Ft bd C E dc b n (Db kind) w):=by
 obtain⟨c0,t,n0,ab,ad,al,hk⟩:=h1.gt (by omega);have d:s<b.length:=by
  apply Classical.byContradiction;intro h;rw [List.drop_eq_nil_of_le (by omega)] at ab;cases ab
 have o:=Em d;rw [ab] at o;simp only [List.cons.injEq] at o;have ae:Dj (pk b s)=true:=by rw [<-o.1,<-Yp];exact ad
 have ap:48<=(pk b s).toNat/\(pk b s).toNat<=57:=by simpa only [Dj,decide_eq_true_eq] using ae
 have z:Gt (Gw 10) (b.drop (s+1)) n0:=by rw [<-o.2];exact al
 have af:=z.le;rw [Yh] at af;have ag:(pk b s).toNat=48↔pk b s=48:=(Po (k:=48) (by omega)).symm;have ah:s<=1:=by rw [hs];unfold Di;split<;>omega
 have ar:=hv.le;have au:=hv.EC;have am:(pk b s).toNat=48->(pk b (s+1)).toNat≠120/\(pk b (s+1)).toNat≠111/\(pk b (s+1)).toNat≠98:=by
  intro h;have ai:k=1:=h2 (ag.1 h);subst ai;rcases h3 with ⟨g1,rfl⟩|⟨g,g1,_⟩
  ·rcases h4 with ⟨_,_,rfl⟩|⟨m,g,g1,_⟩
   ·rw [Nat.add_zero,Nat.add_zero] at hn;subst hn;by_cases hl:s+1<b.length
    ·have:=hf.pkn hl;omega
    ·rw [Mx (by omega)];decide
   ·rw [Nat.add_zero] at g1;rcases g1 with g1|g1<;>rw [g1]<;>decide
  ·rw [g1];decide
 have aj:=hv.val (by omega);subst aj;refine Bf (L:=[(0,.slice (some ⟨bd,E-b.length,none⟩) b.length (C-(E-b.length)))]) Tryz.func134 Z Z Z ⟨Z,V⟩ ?_;have k0:=hv.pk hD (i:=0) (by omega);have ks:=hv.pk hD (i:=s) d;repeat first|refine Aa Z ?_|apply Ab|apply Ac|refine Cr (x:=.seq (.region 2 _ _) (.cond _ _ _)) (σ:=Unit) (fun _ w'=>w'=w) (fun _=>[(0,.slice (some ⟨bd,E-b.length,none⟩) b.length (C-(E-b.length))),(7,.int .i64 (s:Int))]) ?_ ?_
 ·have e43:pk b 0=43↔(pk b 0).toNat=43:=Po (k:=43) (by omega);have e45:pk b 0=45↔(pk b 0).toNat=45:=Po (k:=45) (by omega);by_cases g43:(pk b 0).toNat=43
  ·have:s=1:=(by rw [hs,Di,if_pos (.inl (e43.2 g43))]);subst this;(repeat first|refine Aa Z ?_|apply Ab|refine Bn Z (by first|with_reducible rfl|exact Bool.not_false) ?_|refine Ax (i:=0) Z Z Z (by omega) Z ?_|refine Aw Z Z k0 Z ?_|refine Au Z ?_|apply Am|apply Aq|refine Ay Z Z (by omega) Z ?_|refine Bc Z Z (by first|omega|decide) ?_);exact Bh () Z ⟨Z,Z,V⟩
  ·by_cases g45:(pk b 0).toNat=45
   ·have:s=1:=(by rw [hs,Di,if_pos (.inr (e45.2 g45))]);subst this;(repeat first|refine Aa Z ?_|apply Ab|refine Ao Z (by first|omega|decide) ?_|refine Ax (i:=0) Z Z Z (by omega) Z ?_|refine Aw Z Z k0 Z ?_|refine Au Z ?_|apply Am|apply Aq|refine Ay Z Z (by omega) Z ?_|refine Az Z Z (by first|omega|decide) ?_);exact Bh () Z ⟨Z,Z,V⟩
   ·have:s=0:=(by rw [hs,Di,if_neg (by rw [e43,e45];omega)]);subst this;(repeat first|refine Aa Z ?_|apply Ab|refine Aj Z (by first|omega|decide) ?_|refine Ax (i:=0) Z Z Z (by omega) Z ?_|refine Aw Z Z k0 Z ?_|refine Au Z ?_|apply Af|refine Az Z Z (by first|omega|decide) ?_);exact Bh () Z ⟨Z,Z,V⟩
 ·rintro _ w1 rfl;(repeat first|refine Aa Z ?_|apply Ab|apply Ac|refine Aj Z (by first|omega|decide) ?_|refine Ax (i:=s) Z Z Z d Z ?_|refine Aw Z Z ks Z ?_|refine Au Z ?_|apply Ad|apply An|apply Af|refine Az Z Z (by first|omega|decide) ?_);refine Ae Z Z Z (Dc (pk b s) w1) ?_;rintro e1 w2 ⟨rfl,rfl⟩;rw [ae];refine T2 Z Z ?_;repeat first|refine Aa Z ?_|apply Ab|apply Ac|refine Bb Z (by first|with_reducible rfl|exact Bool.not_true) ?_|refine Cr (x:=.seq (.region 16 _ _) (.cond _ _ _)) (σ:=Unit) (fun _ w'=>w'=w2) (fun _=>[(0,.slice (some ⟨bd,E-b.length,none⟩) b.length (C-(E-b.length))),(7,.int .i64 (s:Int))]) ?_ ?_|apply An|apply Af
  ·by_cases g48:(pk b s).toNat=48
   ·obtain⟨y1,y2,y3⟩:=am g48;by_cases q:s+1<b.length
    ·have ks1:=hv.pk hD (i:=s+1) q;(repeat first|refine Aa Z ?_|apply Ab|refine Aj Z (by first|omega|decide) ?_|refine Ax (i:=s) Z Z Z d Z ?_|refine Aw Z Z ks Z ?_|refine Ax (i:=s+1) Z Z Z q Z ?_|refine Aw Z Z ks1 Z ?_|refine Au Z ?_|apply Af|refine Ay Z Z (by omega) Z ?_|refine Bc Z Z (by first|omega|decide) ?_|refine Az Z Z (by first|omega|decide) ?_);exact Bh () Z ⟨Z,Z,V⟩
    ·(repeat first|refine Aa Z ?_|apply Ab|refine Bb Z (by first|with_reducible rfl|exact Bool.not_true) ?_|refine Ax (i:=s) Z Z Z d Z ?_|refine Aw Z Z ks Z ?_|refine Au Z ?_|apply Af|refine Ay Z Z (by omega) Z ?_|refine Bc Z Z (by first|omega|decide) ?_|refine Az Z Z (by first|omega|decide) ?_);exact Bh () Z ⟨Z,Z,V⟩
   ·(repeat first|refine Aa Z ?_|apply Ab|refine Bb Z (by first|with_reducible rfl|exact Bool.not_true) ?_|refine Ax (i:=s) Z Z Z d Z ?_|refine Aw Z Z ks Z ?_|refine Au Z ?_|apply Af|refine Az Z Z (by first|omega|decide) ?_);exact Bh () Z ⟨Z,Z,V⟩
  ·rintro _ w3 rfl;(repeat first|refine Aa Z ?_|apply Ab|apply Ac|refine Ax (i:=s) Z Z Z d Z ?_|refine Aw Z Z ks Z ?_|refine Ay Z Z (by omega) Z ?_);refine Ae Z Z Z (Hd 135 Z (Gw 10) rfl eZ _ b (s+1) n0 w3 hv hE (by omega) (by omega) z hD) ?_;rintro e1 w4 ⟨rfl,rfl⟩;refine T2 Z Z ?_;rw [show s+1+n0=s+k by omega];repeat first|refine Aa Z ?_|apply Ab|apply Ac|refine Bb Z (by first|with_reducible rfl|exact Bool.not_true) ?_|refine Cr (x:=.seq (.region 43 _ _) (.cond _ _ _)) (σ:=Unit) (fun _ w'=>w'=w4) (fun _=>[(0,.slice (some ⟨bd,E-b.length,none⟩) b.length (C-(E-b.length))),(7,.int .i64 ((s+k:Nat):Int))]) ?_ ?_|apply Ad|apply An|apply Af
   ·by_cases g48:(pk b s).toNat=48
    ·have ai:=h2 (ag.1 g48);(repeat first|apply Ab|refine Aj Z (by first|omega|decide) ?_|refine Au Z ?_|apply Af|refine Ay Z Z (by omega) Z ?_|refine Bc Z Z (by first|omega|decide) ?_);exact Bh () Z ⟨Z,Z,V⟩
    ·(repeat first|apply Ab|refine Bb Z (by first|with_reducible rfl|exact Bool.not_true) ?_|refine Au Z ?_|apply Af|refine Az Z Z (by first|omega|decide) ?_);exact Bh () Z ⟨Z,Z,V⟩
   ·rintro _ w5 rfl;have e46:pk b (s+k)=46↔(pk b (s+k)).toNat=46:=Po (k:=46) (by omega);repeat first|refine Aa Z ?_|apply Ab|apply Ac|refine Cr (x:=.seq (.region 46 _ _) (.cond _ _ _)) (σ:=Unit) (fun _ w'=>w'=w5/\s+k+f<=b.length) (fun _=>[(0,.slice (some ⟨bd,E-b.length,none⟩) b.length (C-(E-b.length))),(7,.int .i64 ((s+k+f:Nat):Int)),(14,.int .i64 ((if f=0 then 11 else 10:Nat):Int))]) ?_ ?_
    ·rcases h3 with ⟨g1,rfl⟩|⟨g,g1,g2,rfl⟩
     ·rw [ne_eq,e46] at g1;by_cases hl:s+k<b.length
      ·have kp:=hv.pk hD (i:=s+k) hl;(repeat first|apply Ab|refine Aj Z (by first|omega|decide) ?_|refine Ax (i:=s+k) Z Z Z hl Z ?_|refine Aw Z Z kp Z ?_|refine Au Z ?_|apply Af|refine Bc Z Z (by first|omega|decide) ?_);exact Bh () ⟨rfl,by omega⟩ ⟨Z,Z,Z,V⟩
      ·(repeat first|apply Ab|refine Bb Z (by first|with_reducible rfl|exact Bool.not_true) ?_|refine Au Z ?_|apply Af|refine Az Z Z (by first|omega|decide) ?_);exact Bh () ⟨rfl,by omega⟩ ⟨Z,Z,Z,V⟩
     ·obtain⟨c1,t1,n1,j,q,ac,rfl⟩:=g2.gt (by omega);have l:s+k+1<b.length:=by
       apply Classical.byContradiction;intro h;rw [List.drop_eq_nil_of_le (by omega)] at j;cases j
      have a:=Em l;rw [j] at a;simp only [List.cons.injEq] at a;have c:Gt (Gw 10) (b.drop (s+k+1+1)) n1:=(by rw [<-a.2];exact ac);have r:=c.le;rw [Yh] at r;have y:Dj (pk b (s+k+1))=true:=(by rw [<-a.1,<-Yp];exact q);rw [e46] at g1;have kp:=hv.pk hD (i:=s+k) (by omega);have kp1:=hv.pk hD (i:=s+k+1) l;(repeat first|refine Aa Z ?_|apply Ab|apply Ac|refine Ao Z (by first|omega|decide) ?_|refine Ax (i:=s+k) Z Z Z (by omega) Z ?_|refine Aw Z Z kp Z ?_|refine Ax (i:=s+k+1) Z Z Z l Z ?_|refine Aw Z Z kp1 Z ?_|refine Au Z ?_|apply Ad|refine Ay Z Z (by omega) Z ?_|refine Bc Z Z (by first|omega|decide) ?_|refine Az Z Z (by first|omega|decide) ?_);refine Ae Z Z Z (Dc (pk b (s+k+1)) w5) ?_;rintro e1 w6 ⟨rfl,rfl⟩;rw [y];refine T2 Z Z ?_;(repeat first|refine Aa Z ?_|apply Ab|apply Ac|refine Bb Z (by first|with_reducible rfl|exact Bool.not_true) ?_|refine Au Z ?_|apply An|apply Af|refine Ay Z Z (by omega) Z ?_);refine Ae Z Z Z (Hd 135 Z (Gw 10) rfl eZ _ b (s+k+1+1) n1 w6 hv hE (by omega) (by omega) c hD) ?_;rintro e1 w7 ⟨rfl,rfl⟩;refine T2 Z Z ?_;rw [show s+k+1+1+n1=s+k+(1+(n1+1)) by omega];(repeat first|refine Aa Z ?_|apply Ab|apply Ac|refine Bb Z (by first|with_reducible rfl|exact Bool.not_true) ?_|apply Ad|apply Am|apply Aq|apply An|apply Af);exact Bh () ⟨rfl,by omega⟩ ⟨rfl,rfl,by rw [if_neg (by omega)];rfl,trivial⟩
    ·rintro _ w6 ⟨rfl,av⟩;generalize hp:s+k+f=p at *;have e101:pk b p=101↔(pk b p).toNat=101:=Po (k:=101) (by omega);have e69:pk b p=69↔(pk b p).toNat=69:=Po (k:=69) (by omega);have ak:Db kind=if f=0/\e=0 then 11 else 10:=by rw [aa];split<;>rfl
     repeat first|refine Aa Z ?_|apply Ac|refine Cr (x:=.seq (.region 55 _ _) (.cond _ _ _)) (σ:=Unit) (fun _ w'=>w'=w6/\n<=b.length) (fun _=>[(0,.slice (some ⟨bd,E-b.length,none⟩) b.length (C-(E-b.length))),(7,.int .i64 (n:Int)),(14,.int .i64 ((Db kind:Nat):Int))]) ?_ ?_
     ·rcases h4 with ⟨g1,g2,rfl⟩|⟨m,g,g1,g2,g3,rfl⟩
      ·have u:Db kind=if f=0 then 11 else 10:=by rw [ak];simp
       rw [Nat.add_zero] at hn;subst hn;rw [ne_eq,e101] at g1;rw [ne_eq,e69] at g2;rw [u];by_cases hl:n<b.length
       ·have kp:=hv.pk hD (i:=n) hl;(repeat first|apply Ab|refine Aj Z (by first|omega|decide) ?_|refine Ax (i:=n) Z Z Z hl Z ?_|refine Aw Z Z kp Z ?_|refine Au Z ?_|apply Af|refine Bc Z Z (by first|omega|decide) ?_|refine Az Z Z (by first|omega|decide) ?_);exact Bh () ⟨rfl,by omega⟩ ⟨Z,Z,Z,V⟩
       ·(repeat first|apply Ab|refine Bb Z (by first|with_reducible rfl|exact Bool.not_true) ?_|refine Au Z ?_|apply Af|refine Az Z Z (by first|omega|decide) ?_);exact Bh () ⟨rfl,by omega⟩ ⟨Z,Z,Z,V⟩
      ·have hm:m=1∨m=2:=(by rw [g2];split<;>omega);have u:Db kind=10:=(by rw [ak,if_neg (by omega)]);rw [u];obtain⟨c1,t1,n1,j,q,ac,rfl⟩:=g3.gt (by omega);have l:p+m<b.length:=by
        apply Classical.byContradiction;intro h;rw [List.drop_eq_nil_of_le (by omega)] at j;cases j
       have a:=Em l;rw [j] at a;simp only [List.cons.injEq] at a;have c:Gt (Gw 10) (b.drop (p+m+1)) n1:=(by rw [<-a.2];exact ac);have r:=c.le;rw [Yh] at r;have y:Dj (pk b (p+m))=true:=(by rw [<-a.1,<-Yp];exact q);have aq:48<=(pk b (p+m)).toNat/\(pk b (p+m)).toNat<=57:=(by simpa only [Dj,decide_eq_true_eq] using y);rw [e101,e69] at g1;have kp:=hv.pk hD (i:=p) (by omega);have kp1:=hv.pk hD (i:=p+1) (by omega);have kpm:=hv.pk hD (i:=p+m) l;have e43:pk b (p+1)=43↔(pk b (p+1)).toNat=43:=Po (k:=43) (by omega);have e45:pk b (p+1)=45↔(pk b (p+1)).toNat=45:=Po (k:=45) (by omega);simp only [e43,e45] at g2;rcases g1 with g1|g1;all_goals
        repeat first|refine Aa Z ?_|apply Ab|apply Ac|refine Bn Z (by first|with_reducible rfl|exact Bool.not_false) ?_|refine Ao Z (by first|omega|decide) ?_|refine Ax (i:=p) Z Z Z (by omega) Z ?_|refine Aw Z Z kp Z ?_|refine Cr (x:=.seq (.region 57 _ _) (.cond _ _ _)) (σ:=Unit) (fun _ w'=>w'=w6) (fun _=>[(0,.slice (some ⟨bd,E-b.length,none⟩) b.length (C-(E-b.length))),(7,.int .i64 ((p+m:Nat):Int))]) ?_ ?_|refine Au Z ?_|refine Ay Z Z (by omega) Z ?_|refine Bc Z Z (by first|omega|decide) ?_|refine Az Z Z (by first|omega|decide) ?_
        ·by_cases g43:(pk b (p+1)).toNat=43
         ·rw [if_pos (.inl g43)] at g2;subst g2;(repeat first|refine Aa Z ?_|apply Ab|refine Bn Z (by first|with_reducible rfl|exact Bool.not_false) ?_|refine Ax (i:=p+1) Z Z Z (by omega) Z ?_|refine Aw Z Z kp1 Z ?_|refine Au Z ?_|apply Am|apply Aq|refine Ay Z Z (by omega) Z ?_|refine Bc Z Z (by first|omega|decide) ?_);exact Bh () Z ⟨Z,Z,V⟩
         ·by_cases g45:(pk b (p+1)).toNat=45
          ·rw [if_pos (.inr g45)] at g2;subst g2;(repeat first|refine Aa Z ?_|apply Ab|refine Ao Z (by first|omega|decide) ?_|refine Ax (i:=p+1) Z Z Z (by omega) Z ?_|refine Aw Z Z kp1 Z ?_|refine Au Z ?_|apply Am|apply Aq|refine Ay Z Z (by omega) Z ?_|refine Az Z Z (by first|omega|decide) ?_);exact Bh () Z ⟨Z,Z,V⟩
          ·rw [if_neg (by omega)] at g2;subst g2;(repeat first|apply Ab|refine Aj Z (by first|omega|decide) ?_|refine Ax (i:=p+1) Z Z Z (by omega) Z ?_|refine Aw Z Z kp1 Z ?_|refine Au Z ?_|apply Af|refine Az Z Z (by first|omega|decide) ?_);exact Bh () Z ⟨Z,Z,V⟩
        ·rintro _ w7 rfl;(repeat first|refine Aa Z ?_|apply Ac|refine Ax (i:=p+m) Z Z Z l Z ?_|refine Aw Z Z kpm Z ?_|refine Au Z ?_|apply Ad|refine Az Z Z (by first|omega|decide) ?_);refine Ae Z Z Z (Dc (pk b (p+m)) w7) ?_;rintro e1 w8 ⟨rfl,rfl⟩;rw [y];refine T2 Z Z ?_;(repeat first|refine Aa Z ?_|apply Ab|apply Ac|refine Bb Z (by first|with_reducible rfl|exact Bool.not_true) ?_|refine Au Z ?_|apply An|apply Af|refine Ay Z Z (by omega) Z ?_);refine Ae Z Z Z (Hd 135 Z (Gw 10) rfl eZ _ b (p+m+1) n1 w8 hv hE (by omega) (by omega) c hD) ?_;rintro e1 w9 ⟨rfl,rfl⟩;refine T2 Z Z ?_;rw [show p+m+1+n1=n by omega];(repeat first|refine Aa Z ?_|apply Ab|apply Ac|refine Bb Z (by first|with_reducible rfl|exact Bool.not_true) ?_|apply Ad|apply Am|apply Aq|apply An|apply Af);exact Bh () ⟨rfl,by omega⟩ ⟨Z,Z,Z,V⟩
     ·rintro _ w7 ⟨rfl,an⟩;repeat first|refine Aa Z ?_|apply Ab|apply Ac|refine Cr (x:=.seq (.region 66 _ _) (.cond _ _ _)) (σ:=Unit) (fun _ w'=>w'=w7) (fun _=>[(0,.slice (some ⟨bd,E-b.length,none⟩) b.length (C-(E-b.length))),(7,.int .i64 (n:Int)),(14,.int .i64 ((Db kind:Nat):Int))]) ?_ ?_
      ·by_cases hl:n<b.length
       ·have kp:=hv.pk hD (i:=n) hl;have aw:=hf.pkn hl;have key:(pk b n).toNat<65∨(pk b n).toNat=93∨(pk b n).toNat=125:=(by omega);rcases key with key|key|key;all_goals
         (repeat first|refine Aa Z ?_|apply Ab|apply Ac|refine Bb Z (by first|with_reducible rfl|exact Bool.not_true) ?_|refine Ao Z (by first|omega|decide) ?_|refine Aj Z (by first|omega|decide) ?_|refine Ax (i:=n) Z Z Z hl Z ?_|refine Aw Z Z kp Z ?_|refine Au Z ?_|apply Af|refine Bc Z Z (by first|omega|decide) ?_|refine Az Z Z (by first|omega|decide) ?_);exact Bh () Z ⟨Z,Z,Z,V⟩
       ·(repeat first|refine Aj Z (by first|omega|decide) ?_|apply Af);exact Bh () Z ⟨Z,Z,Z,V⟩
      ·rintro _ w8 rfl;(repeat (apply Ad));refine Cp (fun _=>True) ?_;(repeat (refine Cg (by kernel_rfl) (by first|trivial|assumption) Z ?_));refine Dr n 0 (by kernel_rfl) trivial Z Z (Sf.mk _ _ _) Z (by simp) (by omega) (fun _=>rfl) (fun ad1 ah=>?_);(repeat (refine Cg (by kernel_rfl) (by first|trivial|assumption) Z ?_));refine Dr n 0 (by kernel_rfl) trivial Z Z (Sf.mk _ _ _) Z (by simp) (by omega) (fun _=>rfl) (fun ad2 ax=>?_);(repeat (refine Cg (by kernel_rfl) (by first|trivial|assumption) Z ?_));refine Dr (b.length-n) n (by kernel_rfl) trivial Z Z (Sf.mk _ _ _) Z (by simp;omega) (by omega) (fun _=>rfl) (fun ad3 ao=>?_);(repeat (refine Cg (by kernel_rfl) (by first|trivial|assumption) Z ?_));refine Co ?_;(repeat first|apply An|apply Ai);exact Ak Z Z (Ft.mk hv n (Db kind) an (w':=w8.drew) hD ah ao (Sm.refl _).drew)
end
section
variable {bd C E:Nat} {dc:Array Value} {fz:Nat×Nat}
theorem fR (v:Value) (c:UInt8) (x y z:UInt8) (r:Bs) (w:World) (hv:Es bd C E dc v (c::x::y::z::r)) (hE:E<=100000000) (hc:c=43∨c=45) (hx:(x=105/\y=110/\z=102)∨(x=110/\y=97/\z=110)) (hD:w.heap[bd]?=some (.cells dc 5 fz)):
  Calls PP 134 #[v] w (Ft bd C E dc (c::x::y::z::r) 4 10 w):=by
 obtain⟨b,hb⟩:∃b,b=c::x::y::z::r:=⟨_,rfl⟩;have l:b.length=r.length+4:=by rw [hb];simp
 have a:(b.drop 1).take 3=[x,y,z]:=by rw [hb];rfl
 have h:pk b 0=c:=by rw [hb];rfl
 have j:pk b 1=x:=by rw [hb];rfl
 rw [<-hb] at hv ⊢;clear hb;have m:=hv.le;have n:=hv.EC;have k0:=hv.pk hD (i:=0) (by omega);have k1:=hv.pk hD (i:=1) (by omega);rw [h] at k0;rw [j] at k1;have e:c.toNat=43∨c.toNat=45:=by rcases hc with rfl|rfl<;>simp
 have g:=hv.val (by omega);subst g;refine Bf (L:=[(0,.slice (some ⟨bd,E-b.length,none⟩) b.length (C-(E-b.length)))]) Tryz.func134 Z Z Z ⟨Z,V⟩ ?_;repeat first|refine Aa Z ?_|apply Ab|apply Ac|refine Cr (x:=.seq (.region 2 _ _) (.cond _ _ _)) (σ:=Unit) (fun _ w'=>w'=w) (fun _=>[(0,.slice (some ⟨bd,E-b.length,none⟩) b.length (C-(E-b.length))),(7,.int .i64 1)]) ?_ ?_
 ·rcases e with e|e
  ·(repeat first|refine Aa Z ?_|apply Ab|refine Bn Z (by first|with_reducible rfl|exact Bool.not_false) ?_|refine Ax (i:=0) Z Z Z (by omega) Z ?_|refine Aw Z Z k0 Z ?_|refine Au Z ?_|apply Am|apply Aq|refine Ay Z Z (by omega) Z ?_|refine Bc Z Z (by first|omega|decide) ?_);exact Bh () Z ⟨Z,Z,V⟩
  ·(repeat first|refine Aa Z ?_|apply Ab|refine Ao Z (by first|omega|decide) ?_|refine Ax (i:=0) Z Z Z (by omega) Z ?_|refine Aw Z Z k0 Z ?_|refine Au Z ?_|apply Am|apply Aq|refine Ay Z Z (by omega) Z ?_|refine Az Z Z (by first|omega|decide) ?_);exact Bh () Z ⟨Z,Z,V⟩
 ·rintro _ w1 rfl;rcases hx with ⟨rfl,rfl,rfl⟩|⟨rfl,rfl,rfl⟩
  ·have e105:(105:UInt8).toNat=105:=rfl;(repeat first|refine Aa Z ?_|apply Ab|apply Ac|refine Bn Z (by first|with_reducible rfl|exact Bool.not_false) ?_|refine Aj Z (by first|omega|decide) ?_|refine Ax (i:=1) Z Z Z (by omega) Z ?_|refine Aw Z Z k1 Z ?_|refine Au Z ?_|apply Ad|apply An|apply Af|refine Ay Z Z (by omega) Z ?_|refine Bc Z Z (by first|omega|decide) ?_|refine Az Z Z (by first|omega|decide) ?_);refine Fw 3 1 Z Z (Sf.mk _ _ _) Z Z (by omega) (fun _=>rfl) (fun ad hs=>?_);have d:=hv.sub hD 1 3 (by omega) hs;rw [a] at d;(repeat first|refine Aa Z ?_|apply Ab|apply Ac|refine Aj Z (by first|omega|decide) ?_|refine Th [105,110,102] Z Z d Z ?_|refine Au Z ?_|apply Ad|apply An|apply Af|refine Ay Z Z (by omega) Z ?_);refine Cp (fun _=>True) ?_;(repeat (refine Cg (by kernel_rfl) (by first|trivial|assumption) Z ?_));refine Dr 4 0 (by kernel_rfl) trivial Z Z (Sf.mk _ _ _) Z Z (by omega) (fun _=>rfl) (fun ad1 f=>?_);(repeat (refine Cg (by kernel_rfl) (by first|trivial|assumption) Z ?_));refine Dr 4 0 (by kernel_rfl) trivial Z Z (Sf.mk _ _ _) Z Z (by omega) (fun _=>rfl) (fun ad2 k=>?_);(repeat (refine Cg (by kernel_rfl) (by first|trivial|assumption) Z ?_));refine Dr (b.length-4) 4 (by kernel_rfl) trivial Z Z (Sf.mk _ _ _) Z (by simp;omega) (by omega) (fun _=>rfl) (fun ad3 a=>?_);(repeat (refine Cg (by kernel_rfl) (by first|trivial|assumption) Z ?_));refine Co ?_;(repeat first|apply An|apply Bl|apply Ai);exact Ak Z Z (Ft.mk hv 4 10 (by omega) (w':=w1.drew) hD f a (Sm.refl _).drew)
  ·have e105:(110:UInt8).toNat=110:=rfl;(repeat first|refine Aa Z ?_|apply Ab|apply Ac|refine Ao Z (by first|omega|decide) ?_|refine Aj Z (by first|omega|decide) ?_|refine Ax (i:=1) Z Z Z (by omega) Z ?_|refine Aw Z Z k1 Z ?_|refine Au Z ?_|apply Ad|apply Am|apply An|apply Af|refine Ay Z Z (by omega) Z ?_|refine Az Z Z (by first|omega|decide) ?_);refine Fw 3 1 Z Z (Sf.mk _ _ _) Z Z (by omega) (fun _=>rfl) (fun ad hs=>?_);have d:=hv.sub hD 1 3 (by omega) hs;rw [a] at d;(repeat first|refine Aa Z ?_|apply Ab|apply Ac|refine Aj Z (by first|omega|decide) ?_|refine Th [110,97,110] Z Z d Z ?_|refine Au Z ?_|apply Ad|apply An|apply Af|refine Ay Z Z (by omega) Z ?_);refine Cp (fun _=>True) ?_;(repeat (refine Cg (by kernel_rfl) (by first|trivial|assumption) Z ?_));refine Dr 4 0 (by kernel_rfl) trivial Z Z (Sf.mk _ _ _) Z Z (by omega) (fun _=>rfl) (fun ad1 f=>?_);(repeat (refine Cg (by kernel_rfl) (by first|trivial|assumption) Z ?_));refine Dr 4 0 (by kernel_rfl) trivial Z Z (Sf.mk _ _ _) Z Z (by omega) (fun _=>rfl) (fun ad2 k=>?_);(repeat (refine Cg (by kernel_rfl) (by first|trivial|assumption) Z ?_));refine Dr (b.length-4) 4 (by kernel_rfl) trivial Z Z (Sf.mk _ _ _) Z (by simp;omega) (by omega) (fun _=>rfl) (fun ad3 a=>?_);(repeat (refine Cg (by kernel_rfl) (by first|trivial|assumption) Z ?_));refine Co ?_;(repeat first|apply An|apply Bl|apply Ai);exact Ak Z Z (Ft.mk hv 4 10 (by omega) (w':=w1.drew) hD f a (Sm.refl _).drew)
def Rv (bd C E:Nat) (dc:Array Value) (pp:Nat) (ad0:Option Addr) (left:Value) (nest:Int) (ns:List Be) (m:Nat) (text r:Bs) (w:World) (e:Ending) (w':World):Prop:=
 ∃v',e=.returned (.tuple #[.int .i32 ((ns.length+1:Nat):Int),v',.nilIface])/\Es bd C E dc v' r/\PS w' pp (.slice ad0 E C) left nest (ns++[⟨m,some text,0,0⟩])/\Fm pp [52,104] w w'
theorem Vl (pp:Nat) (ad0:Option Addr) (left:Value) (nest:Int) (ns:List Be) (v:Value) (b:Bs) (n m:Nat) (w:World) (hv:Es bd C E dc v b) (hE:E<=100000000)
  (hs:Calls PP 134 #[v] w (Ft bd C E dc b n m w)) (l:m<=100) (hP:PS w pp (.slice ad0 E C) left nest ns) (hm:ns.length<=400000000):
  Calls PP 123 #[.pointer (F pp),v] w (Rv bd C E dc pp ad0 left nest ns m (b.take n) (b.drop n) w):=by
 have hC:=hv.C63;have o:=hP.lt;refine Bf (L:=[(0,.pointer (F pp)),(1,v)]) Tryz.func123 Z Z Z ⟨Z,Z,V⟩ ?_;repeat first|refine Aa Z ?_|apply Ab|apply Ac
 refine Ae Z Z Z hs ?_;rintro e w1 ⟨v1,v2,v3,rfl,h1,h2,h3,f⟩;refine T2 Z Z ?_;repeat first|refine Aa Z ?_|apply Ab|apply Ac|refine Bb Z (by first|with_reducible rfl|exact Bool.not_true) ?_|apply Ad|apply An|apply Af
 have c:Up w.heap.size w w1:=f.up;obtain⟨nv,xs,g,_,_⟩:=hP.up c;refine Ae Z Z Z (Jw pp E C ad0 _ v1 left nv .nilIface _ w1 g h1 hC hE) ?_;rintro e w2 ⟨a,b2,rfl,d⟩;refine T2 Z Z ?_;have h:=h2.upS d;obtain⟨ad2,cap2,rfl,-⟩:=h2;repeat (refine Aa Z ?_)
 refine Cx Z Z (Td _ _ _ _ _ _) Z ?_;have i:=(hP.up c).up d;refine Ae Z Z Z (Ho pp _ left nest ns m 0 0 a b2 _ (some (b.take n)) w2 i trivial (fun s hs=>by cases hs;exact h) hm) ?_;rintro e w3 ⟨rfl,j,k⟩;refine T2 Z Z ?_;repeat first|refine Aa Z ?_|apply Ab|apply Ac|apply Ai
 exact Ak Z Z ⟨_,rfl,h3,j,((c.fm Y (by omega)).trans (d.fm Y (by have:=c.size;omega))).trans k⟩
end
section
variable {bd C E:Nat} {dc:Array Value} {fz:Nat×Nat}
theorem Zx (v:Value) (b word:Bs) (n m:Nat) (w:World) (hv:Es bd C E dc v b) (hE:E<=100000000) (h0:0<n) (hw:b.take n=word) (hn:n=word.length) (hD:w.heap[bd]?=some (.cells dc 5 fz)):
  Calls PP 131 #[v,Bm word,.int .i64 (m:Int)] w (Ft bd C E dc b n m w):=by
 have f:n<=b.length:=by
  have:=congrArg List.length hw;rw [List.length_take] at this;omega
 have g:=hv.le;have i:=hv.EC;have j:(ByteArray.mk word.toArray).size=n:=by rw [hn];simp [ByteArray.size]
 have a:=hv.val (by omega);subst a;refine Bf (L:=[(0,.slice (some ⟨bd,E-b.length,none⟩) b.length (C-(E-b.length))),(1,Bm word),(2,.int .i64 (m:Int))]) Tryz.func131 Z Z Z ⟨Z,Z,Z,V⟩ ?_;repeat first|refine Aa Z ?_|apply Ab|apply Ac|refine Au Z ?_|apply Ad|refine Az Z Z (by first|omega|decide) ?_
 refine Fw n 0 Z Z (Sf.mk _ _ _) Z (by show ((ByteArray.mk word.toArray).size:Int)=_;omega) (by omega) (fun _=>rfl) (fun ad hs=>?_);have c:=hv.sub hD 0 n (by omega) hs;rw [List.drop_zero,hw] at c;repeat first|apply Ab|refine Th word Z Z c Z ?_|refine Aj Z (fun h=>h rfl) ?_|refine Au Z ?_|apply Ad|apply An|apply Af
 refine Cp (fun _=>True) ?_;repeat (refine Cg (by kernel_rfl) (by first|trivial|assumption) Z ?_)
 refine Dr n 0 (by kernel_rfl) trivial Z Z (Sf.mk _ _ _) Z (by show ((ByteArray.mk word.toArray).size:Int)=_;omega) (by omega) (fun _=>rfl) (fun ad1 d=>?_);repeat (refine Cg (by kernel_rfl) (by first|trivial|assumption) Z ?_)
 refine Dr n 0 (by kernel_rfl) trivial Z Z (Sf.mk _ _ _) Z (by show ((ByteArray.mk word.toArray).size:Int)=_;omega) (by omega) (fun _=>rfl) (fun ad2 k=>?_);repeat (refine Cg (by kernel_rfl) (by first|trivial|assumption) Z ?_)
 refine Dr (b.length-n) n (by kernel_rfl) trivial Z Z (Sf.mk _ _ _) (by show ((ByteArray.mk word.toArray).size:Int)=_;omega) (by simp;omega) (by omega) (fun _=>rfl) (fun ad3 e=>?_);repeat (refine Cg (by kernel_rfl) (by first|trivial|assumption) Z ?_)
 refine Co ?_;repeat first|apply An|apply Ai
 exact Ak Z Z (Ft.mk hv n m (by omega) (w':=w.drew) hD d e (Sm.refl _).drew)
theorem cL (pp:Nat) (ad0:Option Addr) (left:Value) (nest:Int) (ns:List Be) (v:Value) (b word:Bs) (n m:Nat) (w:World) (hv:Es bd C E dc v b) (hE:E<=100000000) (h0:0<n) (hw:b.take n=word) (hn:n=word.length) (l:m<=100) (hD:w.heap[bd]?=some (.cells dc 5 fz))
  (hP:PS w pp (.slice ad0 E C) left nest ns) (hm:ns.length<=400000000):
  Calls PP 120 #[.pointer (F pp),v,Bm word,.int .i64 (m:Int)] w (Rv bd C E dc pp ad0 left nest ns m (b.take n) (b.drop n) w):=by
 have hC:=hv.C63;have o:=hP.lt;refine Bf (L:=[(0,.pointer (F pp)),(1,v),(2,Bm word),(3,.int .i64 (m:Int))]) Tryz.func120 Z Z Z ⟨Z,Z,Z,Z,V⟩ ?_;repeat first|refine Aa Z ?_|apply Ab|apply Ac
 refine Ae Z Z Z (Zx v b word n m w hv hE h0 hw hn hD) ?_;rintro e w1 ⟨v1,v2,v3,rfl,h1,h2,h3,f⟩;refine T2 Z Z ?_;repeat first|refine Aa Z ?_|apply Ab|apply Ac|refine Bb Z (by first|with_reducible rfl|exact Bool.not_true) ?_|apply Ad|apply An|apply Af
 have c:Up w.heap.size w w1:=f.up;obtain⟨nv,xs,g,_,_⟩:=hP.up c;refine Ae Z Z Z (Jw pp E C ad0 _ v1 left nv .nilIface _ w1 g h1 hC hE) ?_;rintro e w2 ⟨a,b2,rfl,d⟩;refine T2 Z Z ?_;have h:=h2.upS d;obtain⟨ad2,cap2,rfl,-⟩:=h2;repeat (refine Aa Z ?_)
 refine Cx Z Z (Td _ _ _ _ _ _) Z ?_;have i:=(hP.up c).up d;refine Ae Z Z Z (Ho pp _ left nest ns m 0 0 a b2 _ (some (b.take n)) w2 i trivial (fun s hs=>by cases hs;exact h) hm) ?_;rintro e w3 ⟨rfl,j,k⟩;refine T2 Z Z ?_;repeat first|refine Aa Z ?_|apply Ab|apply Ac|apply Ai
 exact Ak Z Z ⟨_,rfl,h3,j,((c.fm Y (by omega)).trans (d.fm Y (by have:=c.size;omega))).trans k⟩
end
end
end Go.Proofs.YtaccphdkapmdhaaGreat
