/- The parser reads numbers, dates and strings as the grammar says. No condition. -/
import Derived.Test.YtaccphdkapmdhaaGreatR13
namespace Go.Proofs.YtaccphdkapmdhaaGreat
set_option maxRecDepth 100000
set_option maxHeartbeats 64000000
set_option linter.all false
section
attribute [local irreducible] binOp IntKind.wrap Sem.run
theorem jZ {b:Bs} {n:Nat} (h:b.length<=n):Dj (pk b n)=false:=by rw [Mx h];rfl
theorem fP {b:Bs} (h0:Dj (pk b 0)=true):Jj b↔Dj (pk b 1)=true/\(pk b 2).toNat=58:=by
 unfold Jj Da;rw [show (pk b 2=58)↔(pk b 2).toNat=58 from Po (k:=58) (by omega)];constructor
 ·rintro⟨h1,h2⟩;exact⟨h1 1 (by omega),h2⟩
 ·rintro⟨h1,h2⟩;refine⟨fun i hi=>?_,h2⟩;rcases (by omega:i=0∨i=1) with rfl|rfl
  ·exact h0
  ·exact h1
theorem fQ {b:Bs} (h0:Dj (pk b 0)=true):Gd b↔Dj (pk b 1)=true/\Dj (pk b 2)=true/\Dj (pk b 3)=true/\(pk b 4).toNat=45:=by
 unfold Gd Da;rw [show (pk b 4=45)↔(pk b 4).toNat=45 from Po (k:=45) (by omega)];constructor
 ·rintro⟨h1,h2⟩;exact⟨h1 1 (by omega),h1 2 (by omega),h1 3 (by omega),h2⟩
 ·rintro⟨h1,h2,h3,h4⟩;refine⟨fun i hi=>?_,h4⟩;rcases (by omega:i=0∨i=1∨i=2∨i=3) with rfl|rfl|rfl|rfl
  ·exact h0
  ·exact h1
  ·exact h2
  ·exact h3
section
variable {bd C E:Nat} {dc:Array Value} {fz:Nat×Nat}
theorem Xs (v:Value) (b:Bs) (w:World) (hv:Es bd C E dc v b) (hE:E<=100000000) (h0:Dj (pk b 0)=true) (hD:w.heap[bd]?=some (.cells dc 5 fz)):
  Calls PP 124 #[v] w fun e w'=>∃r,e=.returned (.bool r)/\(r=true↔Gd b∨Jj b)/\w'=w:=by
 rw [fP h0,fQ h0];have g:=hv.le;have f:0<b.length:=by
  apply Classical.byContradiction;intro h;rw [jZ (by omega)] at h0;cases h0
 have c:=hv.val f;subst c;refine Bf (L:=[(0,.slice (some ⟨bd,E-b.length,none⟩) b.length (C-(E-b.length)))]) Tryz.func124 Z Z Z ⟨Z,V⟩ ?_;by_cases h3:3<=b.length
 ·have k1:=hv.pk hD (i:=1) (by omega);have k2:=hv.pk hD (i:=2) (by omega);(repeat first|refine Aa Z ?_|apply Ab|apply Ac|refine Ax (i:=1) Z Z Z (by omega) Z ?_|refine Aw Z Z k1 Z ?_|refine Au Z ?_|apply Ad|refine Bc Z Z (by first|omega|decide) ?_);refine Ae Z Z Z (Dc (pk b 1) w) ?_;rintro e w1 ⟨rfl,rfl⟩;refine T2 Z Z ?_;cases d1:Dj (pk b 1) with
  | false=>
   by_cases h5:5<=b.length
   ·(repeat first|refine Aa Z ?_|apply Ab|apply Ac|refine Bb Z (by first|with_reducible rfl|exact Bool.not_true) ?_|refine Ax (i:=1) Z Z Z (by omega) Z ?_|refine Aw Z Z k1 Z ?_|refine Au Z ?_|apply Ad|apply An|apply Af|refine Bc Z Z (by first|omega|decide) ?_);refine Ae Z Z Z (Dc (pk b 1) w1) ?_;rintro e w2 ⟨rfl,rfl⟩;rw [d1];refine T2 Z Z ?_;(repeat first|refine Aa Z ?_|apply Ab|apply Ac|refine Bb Z (by first|with_reducible rfl|exact Bool.not_true) ?_|refine Au Z ?_|apply An|apply Af|apply Ai);exact Ak Z Z ⟨_,rfl,by simp,rfl⟩
   ·(repeat first|refine Aa Z ?_|apply Ab|apply Ac|refine Bb Z (by first|with_reducible rfl|exact Bool.not_true) ?_|refine Au Z ?_|apply Ad|apply An|apply Af|apply Ai|refine Az Z Z (by first|omega|decide) ?_);exact Ak Z Z ⟨_,rfl,by simp,rfl⟩
  | true=>
   by_cases a:(pk b 2).toNat=58
   ·(repeat first|refine Aa Z ?_|apply Ab|apply Ac|refine Ao Z (by first|omega|decide) ?_|refine Ax (i:=2) Z Z Z (by omega) Z ?_|refine Aw Z Z k2 Z ?_|refine Au Z ?_|apply Bl|apply Ai);exact Ak Z Z ⟨_,rfl,by simp [a],rfl⟩
   ·by_cases h5:5<=b.length
    ·have k3:=hv.pk hD (i:=3) (by omega);have k4:=hv.pk hD (i:=4) (by omega);(repeat first|refine Aa Z ?_|apply Ab|apply Ac|refine Aj Z (by first|omega|decide) ?_|refine Ax (i:=2) Z Z Z (by omega) Z ?_|refine Aw Z Z k2 Z ?_|refine Ax (i:=1) Z Z Z (by omega) Z ?_|refine Aw Z Z k1 Z ?_|refine Au Z ?_|apply Ad|apply An|apply Af|refine Bc Z Z (by first|omega|decide) ?_);refine Ae Z Z Z (Dc (pk b 1) w1) ?_;rintro e w2 ⟨rfl,rfl⟩;rw [d1];refine T2 Z Z ?_;(repeat first|refine Aa Z ?_|refine Ax (i:=2) Z Z Z (by omega) Z ?_|refine Aw Z Z k2 Z ?_|refine Au Z ?_);refine Ae Z Z Z (Dc (pk b 2) w2) ?_;rintro e w3 ⟨rfl,rfl⟩;refine T2 Z Z ?_;cases d2:Dj (pk b 2) with
     | false=>
      (repeat first|refine Aa Z ?_|apply Ab|apply Ac|refine Bb Z (by first|with_reducible rfl|exact Bool.not_true) ?_|refine Au Z ?_|apply An|apply Af|apply Ai);exact Ak Z Z ⟨_,rfl,by simp [a],rfl⟩
     | true=>
      (repeat first|refine Aa Z ?_|refine Ax (i:=3) Z Z Z (by omega) Z ?_|refine Aw Z Z k3 Z ?_|refine Au Z ?_);refine Ae Z Z Z (Dc (pk b 3) w3) ?_;rintro e w4 ⟨rfl,rfl⟩;refine T2 Z Z ?_;cases d3:Dj (pk b 3) with
      | false=>
       (repeat first|refine Aa Z ?_|apply Ab|apply Ac|refine Bb Z (by first|with_reducible rfl|exact Bool.not_true) ?_|refine Au Z ?_|apply An|apply Af|apply Ai);exact Ak Z Z ⟨_,rfl,by simp [a],rfl⟩
      | true=>
       by_cases d:(pk b 4).toNat=45
       ·(repeat first|refine Aa Z ?_|apply Ab|apply Ac|refine Ao Z (by first|omega|decide) ?_|refine Ax (i:=4) Z Z Z (by omega) Z ?_|refine Aw Z Z k4 Z ?_|refine Au Z ?_|apply Bl|apply Ai);exact Ak Z Z ⟨_,rfl,by simp [d],rfl⟩
       ·(repeat first|refine Aa Z ?_|apply Ab|apply Ac|refine Aj Z (by first|omega|decide) ?_|refine Ax (i:=4) Z Z Z (by omega) Z ?_|refine Aw Z Z k4 Z ?_|refine Au Z ?_|apply An|apply Af|apply Ai);exact Ak Z Z ⟨_,rfl,by simp [a,d],rfl⟩
    ·have h4:(pk b 4).toNat=0:=(by rw [Mx (by omega)];rfl);(repeat first|refine Aa Z ?_|apply Ab|apply Ac|refine Bb Z (by first|with_reducible rfl|exact Bool.not_true) ?_|refine Aj Z (by first|omega|decide) ?_|refine Ax (i:=2) Z Z Z (by omega) Z ?_|refine Aw Z Z k2 Z ?_|refine Au Z ?_|apply Ad|apply An|apply Af|apply Ai|refine Az Z Z (by first|omega|decide) ?_);exact Ak Z Z ⟨_,rfl,by simp [a,h4],rfl⟩
 ·have h2:(pk b 2).toNat=0:=(by rw [Mx (by omega)];rfl);have h4:(pk b 4).toNat=0:=(by rw [Mx (by omega)];rfl);(repeat first|refine Aa Z ?_|apply Ab|apply Ac|refine Bb Z (by first|with_reducible rfl|exact Bool.not_true) ?_|refine Au Z ?_|apply Ad|apply An|apply Af|apply Ai|refine Az Z Z (by first|omega|decide) ?_);exact Ak Z Z ⟨_,rfl,by simp [h2,h4],rfl⟩
def iE (c:UInt8):Bool:=decide (c.toNat=90∨c.toNat=122∨c.toNat=43∨c.toNat=45)
theorem dQ (v:Value) (l:Bs) (w:World) (hv:RB w v l) (hl:l.length<=100000000):
  Calls PP 145 #[v] w fun e w'=>e=.returned (.bool (l.any iE))/\w'=w:=by
 obtain⟨ad,cap,rfl,hc⟩:=hv;refine Bf (L:=[(0,.slice ad l.length cap)]) Tryz.func145 Z Z Z ⟨Z,V⟩ ?_;repeat first|refine Aa Z ?_|apply Ab|apply Ac|apply Ad|apply Ag
 refine Bg (σ:=Nat) (I:=fun i w'=>w'=w/\i<=l.length/\(l.take i).any iE=false) (m:=fun i=>l.length-i)
  (Lf:=fun i=>[(5,.slice ad l.length cap),(6,.int .i64 (l.length:Int)),(7,.int .i64 (i:Int))]) 0 ⟨rfl,Nat.zero_le _,by simp⟩ ⟨Z,Z,Z,V⟩ ?_
 rintro i w1 ⟨rfl,hi,hz⟩;by_cases d:i<l.length
 ·obtain⟨c,f⟩:∃c,l[i]?=some c:=⟨_,Yd d⟩;obtain⟨b,o,dc,fz,rfl,hb,p⟩:=hc (by rintro rfl;simp at d);have a:w1.cell? ⟨b,o+i*1,none⟩=some (u8 c):=(by rw [Nat.mul_one];exact Ar hb (p i c f));have g:l.take (i+1)=l.take i++[c]:=(by rw [List.take_add_one,f];rfl);by_cases j:c.toNat=90∨c.toNat=122∨c.toNat=43∨c.toNat=45
  ·have k:l.any iE=true:=List.any_eq_true.2 ⟨c,List.mem_of_getElem? f,by simpa [iE] using j⟩;rw [k];rcases j with h|h|h|h;all_goals
    (repeat first|refine Aa Z ?_|apply Ab|apply Ac|refine Bn Z (by first|with_reducible rfl|exact Bool.not_false) ?_|refine Ao Z (by first|omega|decide) ?_|refine Ax (i:=i) Z Z Z d Z ?_|refine Aw Z Z a Z ?_|refine Au Z ?_|apply Ad|apply Ag|apply An|apply Bl|apply Bv|apply Af|apply Ai|refine Bc Z Z (by first|omega|decide) ?_|refine Az Z Z (by first|omega|decide) ?_);exact Ak Z Z ⟨rfl,rfl⟩
  ·(repeat first|refine Aa Z ?_|apply Ab|apply Ac|refine Ao Z (by first|omega|decide) ?_|refine Aj Z (by first|omega|decide) ?_|refine Ax (i:=i) Z Z Z d Z ?_|refine Aw Z Z a Z ?_|refine Au Z ?_|apply Ad|apply Am|apply Ag|apply Aq|apply An|apply Bj|apply Af|refine Ay Z Z (by omega) Z ?_|refine Az Z Z (by first|omega|decide) ?_);exact Ap (i+1) ⟨rfl,by omega,by rw [g,List.any_append,hz];simp [iE];omega⟩ (by omega) ⟨Z,Z,Z,V⟩
 ·have n:l.take i=l:=List.take_of_length_le (by omega);rw [n] at hz;rw [hz];(repeat first|refine Aa Z ?_|apply Ab|apply Ac|refine Aj Z (by first|omega|decide) ?_|apply Ad|apply An|apply Cn|apply Ci|apply Ba|apply Ai);exact Ak Z Z ⟨rfl,rfl⟩
end
def Dt (c:UInt8):Prop:=(48<=c.toNat/\c.toNat<=57)∨c.toNat=58∨c.toNat=45∨c.toNat=43∨c.toNat=46∨c.toNat=90∨c.toNat=122
theorem aS {c:UInt8} (h:¬(48<=c.toNat/\c.toNat<=57)):Dj c=false:=by simp only [Dj,decide_eq_false_iff_not];exact h
theorem isDig_y {c:UInt8} (h:48<=c.toNat/\c.toNat<=57):Dj c=true:=by simp only [Dj,decide_eq_true_eq];exact h
section
variable {bd C E:Nat} {dc:Array Value} {fz:Nat×Nat}
theorem Je (v:Value) (b:Bs) (n m:Nat) (sep:Bool) (w:World) (hv:Es bd C E dc v b) (hE:E<=100000000) (ac:3<=n) (ae:n<=b.length)
  (d:sep=true->11<n/\(((pk b 10).toNat=84∨(pk b 10).toNat=116)∨((pk b 10).toNat=32/\Dj (pk b 11)=true))) (s:∀i,i<n->(sep=true->i≠10)->Dt (pk b i)) (hf:Ic (b.drop n))
  (hm:m=if (pk b 2).toNat=58 then 13 else if sep=false then 12 else if (((b.drop 11).take (n-11)).any iE)=true then 15 else 14) (hD:w.heap[bd]?=some (.cells dc 5 fz)):
  Calls PP 136 #[v] w (Ft bd C E dc b n m w):=by
 have af:=hv.le;have ag:=hv.EC;have o:=hv.val (by omega);subst o;refine Bf (L:=[(0,.slice (some ⟨bd,E-b.length,none⟩) b.length (C-(E-b.length)))]) Tryz.func136 Z Z Z ⟨Z,V⟩ ?_;repeat first|refine Aa Z ?_|apply Ab|apply Ac|refine Cr (x:=.block 0 _) (σ:=Unit) (fun _ w'=>w'=w) (fun _=>[(0,.slice (some ⟨bd,E-b.length,none⟩) b.length (C-(E-b.length))),(7,.int .i64 (n:Int)),(8,.int .i64 (if sep=true then 10 else -1))]) ?_ ?_|apply Ag
 ·skip;refine Bg (σ:=Nat) (I:=fun i w'=>w'=w/\i<=n) (m:=fun i=>n-i)
   (Lf:=fun i=>[(0,.slice (some ⟨bd,E-b.length,none⟩) b.length (C-(E-b.length))),(7,.int .i64 (i:Int)),(8,.int .i64 (if sep=true/\10<i then 10 else -1))]) 0 ⟨rfl,Nat.zero_le _⟩ ⟨rfl,rfl,by rw [if_neg (by omega)];rfl,trivial⟩ ?_
  rintro i w1 ⟨rfl,hi⟩;by_cases t:i=n
  ·subst t;have a:(if sep=true/\10<i then (10:Int) else -1)=if sep=true then 10 else -1:=by
    cases sep with
    | false=>rfl
    | true=>rw [if_pos ⟨rfl,by have:=(d rfl).1;omega⟩,if_pos rfl]
   by_cases hl:i<b.length
   ·have ki:=hv.pk hD (i:=i) hl;have ah:=hf.pkn hl;have c:Dj (pk b i)=false:=aS (by omega);by_cases u:(pk b i).toNat=32
    ·by_cases g:i+1<b.length
     ·have ki1:=hv.pk hD (i:=i+1) g;have p:Dj (pk b (i+1))=false:=by
       rw [Em hl,Em g,show pk b i=32 from (Po (k:=32) (by omega)).2 u] at hf;exact hf.blank
      (repeat first|refine Aa Z ?_|apply Ab|apply Ac|refine Ao Z (by first|omega|decide) ?_|refine Ax (i:=i) Z Z Z hl Z ?_|refine Aw Z Z ki Z ?_|apply Ad|apply Ag|apply An|apply Af);refine Ae Z Z Z (Dc (pk b i) w1) ?_;rintro e w2 ⟨rfl,rfl⟩;rw [c];refine T2 Z Z ?_;(repeat first|refine Aa Z ?_|apply Ab|apply Ac|refine Aj Z (by first|omega|decide) ?_|refine Ax (i:=i+1) Z Z Z g Z ?_|refine Aw Z Z ki1 Z ?_|refine Au Z ?_|apply Ad|apply An|apply Af|refine Ay Z Z (by omega) Z ?_|refine Bc Z Z (by first|omega|decide) ?_|refine Az Z Z (by first|omega|decide) ?_);refine Ae Z Z Z (Dc (pk b (i+1)) w2) ?_;rintro e w3 ⟨rfl,rfl⟩;rw [p];refine T2 Z Z ?_;(repeat first|apply Ab|refine Bb Z (by first|with_reducible rfl|exact Bool.not_true) ?_|refine Au Z ?_|apply An|apply Cn|apply Ci|refine Kn Z ?_|apply Af|apply Ba);exact Bh () Z ⟨rfl,rfl,by rw [<-a];rfl,trivial⟩
     ·(repeat first|refine Aa Z ?_|apply Ab|apply Ac|refine Ao Z (by first|omega|decide) ?_|refine Ax (i:=i) Z Z Z hl Z ?_|refine Aw Z Z ki Z ?_|apply Ad|apply Ag|apply An|apply Af);refine Ae Z Z Z (Dc (pk b i) w1) ?_;rintro e w2 ⟨rfl,rfl⟩;rw [c];refine T2 Z Z ?_;(repeat first|refine Aa Z ?_|apply Ab|apply Ac|refine Bb Z (by first|with_reducible rfl|exact Bool.not_true) ?_|refine Aj Z (by first|omega|decide) ?_|refine Au Z ?_|apply Ad|apply An|apply Cn|apply Ci|refine Kn Z ?_|apply Af|apply Ba|refine Ay Z Z (by omega) Z ?_|refine Bc Z Z (by first|omega|decide) ?_|refine Az Z Z (by first|omega|decide) ?_);exact Bh () Z ⟨rfl,rfl,by rw [<-a];rfl,trivial⟩
    ·(repeat first|refine Aa Z ?_|apply Ab|apply Ac|refine Ao Z (by first|omega|decide) ?_|refine Ax (i:=i) Z Z Z hl Z ?_|refine Aw Z Z ki Z ?_|apply Ad|apply Ag|apply An|apply Af);refine Ae Z Z Z (Dc (pk b i) w1) ?_;rintro e w2 ⟨rfl,rfl⟩;rw [c];refine T2 Z Z ?_;(repeat first|refine Aa Z ?_|apply Ab|apply Ac|refine Bb Z (by first|with_reducible rfl|exact Bool.not_true) ?_|refine Aj Z (by first|omega|decide) ?_|refine Au Z ?_|apply Ad|apply An|apply Cn|apply Ci|refine Kn Z ?_|apply Af|apply Ba|refine Az Z Z (by first|omega|decide) ?_);exact Bh () Z ⟨rfl,rfl,by rw [<-a];rfl,trivial⟩
   ·(repeat first|refine Aa Z ?_|apply Ab|apply Ac|refine Aj Z (by first|omega|decide) ?_|apply Ad|apply Cn|apply Ci|apply Ba);exact Bh () Z ⟨rfl,rfl,by rw [<-a];rfl,trivial⟩
  ·have hl:i<b.length:=(by omega);have ki:=hv.pk hD (i:=i) hl;by_cases f:sep=true/\i=10
   ·obtain⟨rfl,rfl⟩:=f;obtain⟨y,hc⟩:=d rfl;have ki1:=hv.pk hD (i:=11) (by omega);have c:Dj (pk b 10)=false:=aS (by omega);rcases hc with (hc|hc)|⟨hc,q⟩
    ·(repeat first|refine Aa Z ?_|apply Ab|apply Ac|refine Ao Z (by first|omega|decide) ?_|refine Ax (i:=10) Z Z Z hl Z ?_|refine Aw Z Z ki Z ?_|apply Ad|apply Ag|apply An|apply Af);refine Ae Z Z Z (Dc (pk b 10) w1) ?_;rintro e w2 ⟨rfl,rfl⟩;rw [c];refine T2 Z Z ?_;(repeat first|refine Aa Z ?_|apply Ab|apply Ac|refine Bn Z (by first|with_reducible rfl|exact Bool.not_false) ?_|refine Ao Z (by first|omega|decide) ?_|refine Aj Z (by first|omega|decide) ?_|refine Au Z ?_|apply Ad|apply Am|apply An|apply Cn|apply Ci|apply Af|apply Ba|refine Ay Z Z (by omega) Z ?_|refine Bc Z Z (by first|omega|decide) ?_|refine Az Z Z (by first|omega|decide) ?_);exact Ap 11 ⟨rfl,by omega⟩ (by omega) ⟨Z,Z,Z,V⟩
    ·(repeat first|refine Aa Z ?_|apply Ab|apply Ac|refine Ao Z (by first|omega|decide) ?_|refine Ax (i:=10) Z Z Z hl Z ?_|refine Aw Z Z ki Z ?_|apply Ad|apply Ag|apply An|apply Af);refine Ae Z Z Z (Dc (pk b 10) w1) ?_;rintro e w2 ⟨rfl,rfl⟩;rw [c];refine T2 Z Z ?_;(repeat first|refine Aa Z ?_|apply Ab|apply Ac|refine Bn Z (by first|with_reducible rfl|exact Bool.not_false) ?_|refine Ao Z (by first|omega|decide) ?_|refine Aj Z (by first|omega|decide) ?_|refine Au Z ?_|apply Ad|apply Am|apply An|apply Cn|apply Ci|apply Af|apply Ba|refine Ay Z Z (by omega) Z ?_|refine Bc Z Z (by first|omega|decide) ?_|refine Az Z Z (by first|omega|decide) ?_);exact Ap 11 ⟨rfl,by omega⟩ (by omega) ⟨Z,Z,Z,V⟩
    ·(repeat first|refine Aa Z ?_|apply Ab|apply Ac|refine Ao Z (by first|omega|decide) ?_|refine Ax (i:=10) Z Z Z hl Z ?_|refine Aw Z Z ki Z ?_|apply Ad|apply Ag|apply An|apply Af);refine Ae Z Z Z (Dc (pk b 10) w1) ?_;rintro e w2 ⟨rfl,rfl⟩;rw [c];refine T2 Z Z ?_;(repeat first|refine Aa Z ?_|apply Ab|apply Ac|refine Aj Z (by first|omega|decide) ?_|refine Ax (i:=11) Z Z Z (by omega) Z ?_|refine Aw Z Z ki1 Z ?_|refine Au Z ?_|apply Ad|apply An|apply Af|refine Ay Z Z (by omega) Z ?_|refine Bc Z Z (by first|omega|decide) ?_|refine Az Z Z (by first|omega|decide) ?_);refine Ae Z Z Z (Dc (pk b 11) w2) ?_;rintro e w3 ⟨rfl,rfl⟩;rw [q];refine T2 Z Z ?_;(repeat first|refine Aa Z ?_|apply Ab|apply Ac|refine Bn Z (by first|with_reducible rfl|exact Bool.not_false) ?_|refine Ao Z (by first|omega|decide) ?_|refine Au Z ?_|apply Ad|apply Am|apply Cn|apply Ci|apply Ba|refine Ay Z Z (by omega) Z ?_);exact Ap 11 ⟨rfl,by omega⟩ (by omega) ⟨Z,Z,Z,V⟩
   ·have z:=s i (by omega) (fun h e=>f ⟨h,e⟩);have a:(if sep=true/\10<i+1 then (10:Int) else -1)=if sep=true/\10<i then 10 else -1:=by
     by_cases h:sep=true/\10<i
     ·rw [if_pos h,if_pos ⟨h.1,by omega⟩]
     ·rw [if_neg h,if_neg (fun h2=>h ⟨h2.1,by
       have:i≠10:=fun e=>f ⟨h2.1,e⟩;omega⟩)]
    by_cases j:48<=(pk b i).toNat/\(pk b i).toNat<=57
    ·(repeat first|refine Aa Z ?_|apply Ab|apply Ac|refine Ao Z (by first|omega|decide) ?_|refine Ax (i:=i) Z Z Z hl Z ?_|refine Aw Z Z ki Z ?_|apply Ad|apply Ag|apply An|apply Af);refine Ae Z Z Z (Dc (pk b i) w1) ?_;rintro e w2 ⟨rfl,rfl⟩;rw [isDig_y j];refine T2 Z Z ?_;(repeat first|refine Aa Z ?_|apply Ab|apply Ac|refine Bn Z (by first|with_reducible rfl|exact Bool.not_false) ?_|refine Au Z ?_|apply Cn|apply Ci|apply Ba|refine Ay Z Z (by omega) Z ?_);exact Ap (i+1) ⟨rfl,by omega⟩ (by omega) ⟨rfl,rfl,by rw [a];rfl,trivial⟩
    ·have aa:(pk b i).toNat=58∨(pk b i).toNat=45∨(pk b i).toNat=43∨(pk b i).toNat=46∨(pk b i).toNat=90∨(pk b i).toNat=122:=by
      rcases z with h|h
      ·exact absurd h j
      ·exact h
     (repeat first|refine Aa Z ?_|apply Ab|apply Ac|refine Ao Z (by first|omega|decide) ?_|refine Ax (i:=i) Z Z Z hl Z ?_|refine Aw Z Z ki Z ?_|apply Ad|apply Ag|apply An|apply Af);refine Ae Z Z Z (Dc (pk b i) w1) ?_;rintro e w2 ⟨rfl,rfl⟩;rw [aS j];refine T2 Z Z ?_;rcases aa with h|h|h|h|h|h;all_goals
      (repeat first|refine Aa Z ?_|apply Ab|apply Ac|refine Bn Z (by first|with_reducible rfl|exact Bool.not_false) ?_|refine Ao Z (by first|omega|decide) ?_|refine Au Z ?_|apply Cn|apply Ci|apply Ba|refine Ay Z Z (by omega) Z ?_|refine Bc Z Z (by first|omega|decide) ?_|refine Az Z Z (by first|omega|decide) ?_);exact Ap (i+1) ⟨rfl,by omega⟩ (by omega) ⟨rfl,rfl,by rw [a];rfl,trivial⟩
 ·rintro _ w1 rfl;have k2:w1.cell? ⟨bd,E-b.length+0+2*1,none⟩=some (u8 (pk b 2)):=hv.pk hD (i:=2) (by omega);(repeat first|refine Aa Z ?_|apply Ac);refine Fw n 0 Z Z (Sf.mk _ _ _) Z (by simp) (by omega) (fun _=>rfl) (fun ad hs=>?_);obtain rfl:=hs.addr (by omega);repeat first|refine Aa Z ?_|apply Ab|apply Ac|refine Cr (x:=.block 2 _) (σ:=Unit) (fun _ w'=>w'=w1) (fun _=>[(0,.slice (some ⟨bd,E-b.length,none⟩) b.length (C-(E-b.length))),(7,.int .i64 (n:Int)),(10,.slice (some ⟨bd,E-b.length+0,none⟩) n (C-(E-b.length)-0)),(11,.int .i64 (m:Int))]) ?_ ?_|apply Ag
  ·by_cases r:(pk b 2).toNat=58
   ·rw [if_pos r] at hm;subst hm;(repeat first|refine Aa Z ?_|apply Ab|refine Ao Z (by first|omega|decide) ?_|refine Ax (i:=2) Z Z Z (by omega) Z ?_|refine Aw Z Z k2 Z ?_|apply Am|apply Aq|apply Bj);exact Bh () Z ⟨Z,Z,Z,Z,V⟩
   ·rw [if_neg r] at hm;cases sep with
    | false=>
     rw [if_pos rfl] at hm;subst hm;(repeat first|refine Aa Z ?_|apply Ab|apply Ac|refine Ao Z (by first|omega|decide) ?_|refine Aj Z (by first|omega|decide) ?_|refine Ax (i:=2) Z Z Z (by omega) Z ?_|refine Aw Z Z k2 Z ?_|apply Am|apply Aq|apply Bj);exact Bh () Z ⟨Z,Z,Z,Z,V⟩
    | true=>
     rw [if_neg (by simp)] at hm;have y:=(d rfl).1;(repeat first|refine Aa Z ?_|apply Ab|apply Ac|refine Aj Z (by first|omega|decide) ?_|refine Ax (i:=2) Z Z Z (by omega) Z ?_|refine Aw Z Z k2 Z ?_|refine Ay Z Z (by omega) Z ?_);refine Fw (n-11) 11 Z Z (Sf.mk _ _ _) Z (by show (n:Int)=_;omega) (by omega) (fun _=>rfl) (fun ad3 l=>?_);have ab:=hv.sub hD 11 (n-11) (by omega) l;skip;refine Ae Z Z Z (dQ _ _ w1 ab (by simp;omega)) ?_;rintro e w2 ⟨rfl,rfl⟩;refine T2 Z Z ?_;cases hz:((b.drop 11).take (n-11)).any iE with
     | true=>
      rw [hz,if_pos rfl] at hm;subst hm;(repeat first|refine Aa Z ?_|apply Ab|refine Bn Z (by first|with_reducible rfl|exact Bool.not_false) ?_|apply Am|apply Aq|apply Bj);exact Bh () Z ⟨Z,Z,Z,Z,V⟩
     | false=>
      rw [hz,if_neg (by simp)] at hm;subst hm;(repeat first|refine Aa Z ?_|apply Ab|refine Bb Z (by first|with_reducible rfl|exact Bool.not_true) ?_|apply Am|apply Aq|apply Bj);exact Bh () Z ⟨Z,Z,Z,Z,V⟩
  ·rintro _ w2 rfl;(repeat (apply Ad));refine Cp (fun _=>True) ?_;(repeat (refine Cg (by kernel_rfl) (by first|trivial|assumption) Z ?_));refine Dr (b.length-n) n (by kernel_rfl) trivial Z Z (Sf.mk _ _ _) Z (by simp;omega) (by omega) (fun _=>rfl) (fun ad3 l=>?_);(repeat (refine Cg (by kernel_rfl) (by first|trivial|assumption) Z ?_));refine Co ?_;(repeat first|apply An|apply Ai);exact Ak Z Z (Ft.mk hv n m (by omega) (w':=w2.drew) hD hs l (Sm.refl _).drew)
end
end
section
def Ct (c:UInt8):Prop:=(48<=c.toNat/\c.toNat<=57)∨c.toNat=58∨c.toNat=46
theorem Ej {b:Bs} {n k i:Nat} (h:Da b n k) (hi:i<k):48<=(pk b (n+i)).toNat/\(pk b (n+i)).toNat<=57:=by
 have:=h i hi;simpa only [Dj,decide_eq_true_eq] using this
theorem Wl:∀(l:Bs) (i:Nat),i<Fc 10 l->48<=(pk l i).toNat/\(pk l i).toNat<=57
 | [],i,h=>by simp [Fc] at h
 | c::l,i,h=>by
  rw [Fc] at h;split at h
  ·rename_i hc;cases i with
   | zero=>
    have:Gw 10 c=true:=(by simp [Gw,hc]);rw [Yp] at this;show 48<=c.toNat/\c.toNat<=57;simpa only [Dj,decide_eq_true_eq] using this
   | succ i=>exact Wl l i (by omega)
  ·omega
theorem cI.all {b:Bs} {n k:Nat} (h:cI b n k):8<=k/\(∀i,i<k->Ct (pk b (n+i)))/\Dj (pk b n)=true/\(pk b (n+2)).toNat=58:=by
 have Zl:Da b n 2->pk b (n+2)=58->Da b (n+3) 2->pk b (n+5)=58->Da b (n+6) 2->∀i,i<8->Ct (pk b (n+i)):=fun h1 h2 h3 h4 h5 i hi=>by
  rcases (by omega:i=0∨i=1∨i=2∨i=3∨i=4∨i=5∨i=6∨i=7) with rfl|rfl|rfl|rfl|rfl|rfl|rfl|rfl
  ·exact .inl (Ej h1 (i:=0) (by omega))
  ·exact .inl (Ej h1 (i:=1) (by omega))
  ·rw [h2];exact .inr (.inl rfl)
  ·exact .inl (Ej h3 (i:=0) (by omega))
  ·exact .inl (Ej h3 (i:=1) (by omega))
  ·rw [h4];exact .inr (.inl rfl)
  ·exact .inl (Ej h5 (i:=0) (by omega))
  ·exact .inl (Ej h5 (i:=1) (by omega))
 cases h with
 | plain h1 h2 h3 h4 h5 h6=>exact⟨Nat.le_refl _,Zl h1 h2 h3 h4 h5,h1 0 (by omega),by rw [h2];rfl⟩
 | frac f h1 h2 h3 h4 h5 h6 h7 h8=>
  refine⟨by omega,fun i hi=>?_,h1 0 (by omega),by rw [h2];rfl⟩;by_cases a:i<8
  ·exact Zl h1 h2 h3 h4 h5 i a
  ·by_cases c:i=8
   ·subst c;rw [h6];exact .inr (.inr rfl)
   ·have:=Wl (b.drop (n+9)) (i-9) (by omega);rw [Lu,show n+9+(i-9)=n+i by omega] at this;exact .inl this
theorem Mw {b:Bs} {n:Nat} (h:(pk b n).toNat≠0):n<b.length:=by
 apply Classical.byContradiction;intro h2;rw [Mx (by omega)] at h;exact h rfl
theorem Wz {b:Bs} {n:Nat} (hn:n<=b.length) {p:UInt8->Bool}:((b.drop 11).take (n-11)).any p=true↔∃i,11<=i/\i<n/\p (pk b i)=true:=by
 rw [List.any_eq_true];constructor
 ·rintro⟨x,hx,hp⟩;obtain⟨i,hi⟩:=List.getElem?_of_mem hx;have a:=(Yc.1 hi).1;simp only [List.length_take,Yh] at a;rw [List.getElem?_take,if_pos (by omega),List.getElem?_drop] at hi;refine⟨11+i,by omega,by omega,?_⟩;rw [pk,List.getD,hi];exact hp
 ·rintro⟨i,h1,h2,h3⟩;refine⟨pk b i,?_,h3⟩;refine List.mem_of_getElem? (i:=i-11) ?_;rw [List.getElem?_take,if_pos (by omega),List.getElem?_drop,show 11+(i-11)=i by omega];simp [pk,List.getD,Yd (show i<b.length by omega)]
attribute [local irreducible] binOp IntKind.wrap Sem.run
section
variable {bd C E:Nat} {dc:Array Value} {fz:Nat×Nat}
theorem bK (pp:Nat) (ad0:Option Addr) (left:Value) (nest:Int) (ns:List Be) (v:Value) (b:Bs) (n m:Nat) (w:World) (hv:Es bd C E dc v b) (hE:E<=100000000)
  (hs:Calls PP 136 #[v] w (Ft bd C E dc b n m w)) (l:m<=100) (hP:PS w pp (.slice ad0 E C) left nest ns) (hm:ns.length<=400000000):
  Calls PP 125 #[.pointer (F pp),v] w (Rv bd C E dc pp ad0 left nest ns m (b.take n) (b.drop n) w):=by
 have hC:=hv.C63;have o:=hP.lt;refine Bf (L:=[(0,.pointer (F pp)),(1,v)]) Tryz.func125 Z Z Z ⟨Z,Z,V⟩ ?_;repeat first|refine Aa Z ?_|apply Ab|apply Ac
 refine Ae Z Z Z hs ?_;rintro e w1 ⟨v1,v2,v3,rfl,h1,h2,h3,f⟩;refine T2 Z Z ?_;repeat first|refine Aa Z ?_|apply Ab|apply Ac|refine Bb Z (by first|with_reducible rfl|exact Bool.not_true) ?_|apply Ad|apply An|apply Af
 have c:Up w.heap.size w w1:=f.up;obtain⟨nv,xs,g,_,_⟩:=hP.up c;refine Ae Z Z Z (Jw pp E C ad0 _ v1 left nv .nilIface _ w1 g h1 hC hE) ?_;rintro e w2 ⟨a,b2,rfl,d⟩;refine T2 Z Z ?_;have h:=h2.upS d;obtain⟨ad2,cap2,rfl,-⟩:=h2;repeat (refine Aa Z ?_)
 refine Cx Z Z (Td _ _ _ _ _ _) Z ?_;have i:=(hP.up c).up d;refine Ae Z Z Z (Ho pp _ left nest ns m 0 0 a b2 _ (some (b.take n)) w2 i trivial (fun s hs=>by cases hs;exact h) hm) ?_;rintro e w3 ⟨rfl,j,k⟩;refine T2 Z Z ?_;repeat first|refine Aa Z ?_|apply Ab|apply Ac|apply Ai
 exact Ak Z Z ⟨_,rfl,h3,j,((c.fm Y (by omega)).trans (d.fm Y (by have:=c.size;omega))).trans k⟩
theorem eF (v:Value) (b:Bs) (kind n:Nat) (w:World) (hv:Es bd C E dc v b) (hE:E<=100000000) (hn:Lp b kind n) (hk:4<=kind) (hf:Ic (b.drop n)) (hD:w.heap[bd]?=some (.cells dc 5 fz)):
  Calls PP 136 #[v] w (Ft bd C E dc b n (Db kind) w):=by
 have day:Gd b->Da b 5 2->pk b 7=45->Da b 8 2->10<=b.length/\(∀i,i<10->Dt (pk b i))/\(pk b 2).toNat≠58:=by
  rintro⟨h1,h2⟩ h3 h4 h5;have h9:=Ej h5 (i:=1) (by omega);have p:=Ej h1 (i:=2) (by omega);refine⟨by have:=Mw (b:=b) (n:=9) (by show (pk b (8+1)).toNat≠0;omega);omega,fun i hi=>?_,by rw [show (2:Nat)=0+2 from rfl];omega⟩;rcases (by omega:i=0∨i=1∨i=2∨i=3∨i=4∨i=5∨i=6∨i=7∨i=8∨i=9) with rfl|rfl|rfl|rfl|rfl|rfl|rfl|rfl|rfl|rfl
  ·exact .inl (Ej h1 (i:=0) (by omega))
  ·exact .inl (Ej h1 (i:=1) (by omega))
  ·exact .inl (Ej h1 (i:=2) (by omega))
  ·exact .inl (Ej h1 (i:=3) (by omega))
  ·rw [h2];exact .inr (.inr (.inl rfl))
  ·exact .inl (Ej h3 (i:=0) (by omega))
  ·exact .inl (Ej h3 (i:=1) (by omega))
  ·rw [h4];exact .inr (.inr (.inl rfl))
  ·exact .inl (Ej h5 (i:=0) (by omega))
  ·exact .inl (Ej h5 (i:=1) (by omega))
 have ct_dt:∀{c:UInt8},Ct c->Dt c:=fun {c} h=>by
  rcases h with h|h|h
  ·exact .inl h
  ·exact .inr (.inl h)
  ·exact .inr (.inr (.inr (.inr (.inl h))))
 have ct_z:∀{c:UInt8},Ct c->iE c=false:=fun {c} h=>by
  simp only [iE,decide_eq_false_iff_not];unfold Ct at h;omega
 have tsp:(pk b 10=84∨pk b 10=32)->Dj (pk b 11)=true->(((pk b 10).toNat=84∨(pk b 10).toNat=116)∨((pk b 10).toNat=32/\Dj (pk b 11)=true)):=fun h hd=>by
  rcases h with h|h
  ·exact .inl (.inl (by rw [h];rfl))
  ·exact .inr ⟨by rw [h];rfl,hd⟩
 cases hn with
 | date h1 h2 h3 h4 h5 h6 h7=>
  obtain⟨d1,d2,d3⟩:=day h1 h2 h3 h4;exact Je v b 10 12 false w hv hE (by omega) d1 (fun h=>by cases h) (fun i hi _=>d2 i hi) hf (by rw [if_neg d3,if_pos rfl]) hD
 | @dateTime k h1 h2 h3 h4 h5 h6 h7 h8 h9 j=>
  obtain⟨d1,d2,d3⟩:=day h1 h2 h3 h4;obtain⟨c1,c2,c3,c4⟩:=h6.all;have e:=c2 (k-1) (by omega);have f:11+(k-1)<b.length:=Mw (by unfold Ct at e;omega);have a:((b.drop 11).take (11+k-11)).any iE=false:=by
   cases hz:((b.drop 11).take (11+k-11)).any iE with
   | false=>rfl
   | true=>
    obtain⟨i,i1,i2,i3⟩:=(Wz (by omega)).1 hz;have:=ct_z (c2 (i-11) (by omega));rw [show 11+(i-11)=i by omega,i3] at this;cases this
  refine Je v b (11+k) 14 true w hv hE (by omega) (by omega) (fun _=>⟨by omega,tsp h5 c3⟩) (fun i hi g=>?_) hf (by rw [if_neg d3,if_neg (by simp),if_neg (by rw [a];simp)]) hD;have:=g rfl;by_cases d:i<10
  ·exact d2 i d
  ·have:=c2 (i-11) (by omega);rw [show 11+(i-11)=i by omega] at this;exact ct_dt this
 | @offZ k h1 h2 h3 h4 h5 h6 h7=>
  obtain⟨d1,d2,d3⟩:=day h1 h2 h3 h4;obtain⟨c1,c2,c3,c4⟩:=h6.all;have l:(pk b (11+k)).toNat=90:=(by rw [h7];rfl);have f:11+k<b.length:=Mw (by omega);have a:((b.drop 11).take (12+k-11)).any iE=true:=(Wz (by omega)).2 ⟨11+k,by omega,by omega,by rw [h7];rfl⟩;refine Je v b (12+k) 15 true w hv hE (by omega) (by omega) (fun _=>⟨by omega,tsp h5 c3⟩) (fun i hi g=>?_) hf (by rw [if_neg d3,if_neg (by simp),if_pos a]) hD;have:=g rfl;by_cases d:i<10
  ·exact d2 i d
  ·by_cases m:i=11+k
   ·subst m;exact .inr (.inr (.inr (.inr (.inr (.inl l)))))
   ·have:=c2 (i-11) (by omega);rw [show 11+(i-11)=i by omega] at this;exact ct_dt this
 | @offN k h1 h2 h3 h4 h5 h6 h7 h8 h9 j=>
  obtain⟨d1,d2,d3⟩:=day h1 h2 h3 h4;obtain⟨c1,c2,c3,c4⟩:=h6.all;have l:(pk b (11+k)).toNat=43∨(pk b (11+k)).toNat=45:=(by rcases h7 with h|h<;>rw [h]<;>simp);have z0:=Ej h8 (i:=0) (by omega);have z1:=Ej h8 (i:=1) (by omega);have z3:=Ej j (i:=0) (by omega);have z4:=Ej j (i:=1) (by omega);have f:15+k+1<b.length:=Mw (by omega);have a:((b.drop 11).take (17+k-11)).any iE=true:=(Wz (by omega)).2 ⟨11+k,by omega,by omega,by simp only [iE,decide_eq_true_eq];omega⟩;refine Je v b (17+k) 15 true w hv hE (by omega) (by omega) (fun _=>⟨by omega,tsp h5 c3⟩) (fun i hi g=>?_) hf (by rw [if_neg d3,if_neg (by simp),if_pos a]) hD;have:=g rfl;by_cases d:i<10
  ·exact d2 i d
  ·by_cases m:i<11+k
   ·have:=c2 (i-11) (by omega);rw [show 11+(i-11)=i by omega] at this;exact ct_dt this
   ·rcases (by omega:i=11+k∨i=12+k+0∨i=12+k+1∨i=14+k∨i=15+k+0∨i=15+k+1) with rfl|rfl|rfl|rfl|rfl|rfl
    ·unfold Dt;omega
    ·exact .inl z0
    ·exact .inl z1
    ·rw [h9];exact .inr (.inl rfl)
    ·exact .inl z3
    ·exact .inl z4
 | time h1 h2 h3=>
  obtain⟨c1,c2,c3,c4⟩:=h3.all;have e:=c2 (n-1) (by omega);have f:0+(n-1)<b.length:=Mw (by unfold Ct at e;omega);refine Je v b n 13 false w hv hE (by omega) (by omega) (fun h=>by cases h) (fun i hi _=>?_) hf (by rw [if_pos (by simpa using c4)]) hD;have:=c2 i hi;rw [Yi] at this;exact ct_dt this
 | radix _ _ _=>omega
 | inf _=>omega
 | nan _=>omega
 | dec _ _ _ _ _ _ _ o=>split at o<;>omega
end
end
section
theorem Sk {q:UInt8} {l:Bs} {i:Nat} (h:i<l.length):Cb q (l.drop i)=if pk l i=q then Cb q (l.drop (i+1))+1 else 0:=by rw [Em h];rfl
theorem Pz {q:UInt8} {l:Bs} {i:Nat} (h:l.length<=i):Cb q (l.drop i)=0:=by rw [List.drop_eq_nil_of_le h];rfl
theorem Mv {q:UInt8}:∀(l:Bs),Cb q l<=l.length
 | []=>Nat.le_refl _
 | c::l=>by
  rw [Cb];have:=Mv (q:=q) l;simp only [Ya];split<;>omega
theorem Kj {q:UInt8}:∀(l:Bs) (m:Nat),m<=Cb q l->l.take m=List.replicate m q
 | _,0,_=>by simp
 | [],m+1,h=>by simp [Cb] at h
 | c::l,m+1,h=>by
  rw [Cb] at h;split at h
  ·rename_i hc;subst hc;rw [List.take_succ_cons,Kj (q:=c) l m (by omega),List.replicate_succ]
  ·omega
theorem Fv.q {t o r:Bs} (h:Fv (39::t) o r):(3<=Cb 39 (39::t)/\Cb 39 (39::t)<=5/\o=(39::t).take (Cb 39 (39::t)-3)/\r=(39::t).drop (Cb 39 (39::t)))∨
  (0<Cb 39 (39::t)/\Cb 39 (39::t)<3/\∃o',Fv ((39::t).drop (Cb 39 (39::t))) o' r/\o=(39::t).take (Cb 39 (39::t))++o'):=by
 generalize hl:(39:UInt8)::t=l at h;cases h with
 | close n h1 h2 h3=>
  subst h1;exact .inl ⟨h2,h3,(Kj l _ (by omega)).symm,rfl⟩
 | quote n h1 h2 h3 h4=>
  subst h1;exact .inr ⟨h2,h3,_,h4,by rw [Kj l _ Y]⟩
 | lf _=>simp at hl
 | crlf _=>simp at hl
 | sign n h1 _ _ _=>rw [<-hl] at h1;simp at h1
theorem Lt {c:UInt8} {t:Bs} (h:c.toNat=10∨c.toNat=13):Dm (c::t)=0:=by
 rw [Dm,if_neg (by simp only [Gj,decide_eq_true_eq];omega),if_pos (by omega)]
theorem Fv.nlf {t o r:Bs} (h:Fv (10::t) o r):∃o',Fv t o' r/\o=10::o':=by
 generalize hl:(10:UInt8)::t=l at h;cases h with
 | close n h1 h2 h3=>rw [<-hl,Cb,if_neg (by decide)] at h1;omega
 | quote n h1 h2 h3 h4=>rw [<-hl,Cb,if_neg (by decide)] at h1;omega
 | lf h=>
  simp only [List.cons.injEq,true_and] at hl;subst hl;exact⟨_,h,rfl⟩
 | crlf _=>simp at hl
 | sign n h1 h2 h3 _=>
  rw [<-hl,Lt (.inl rfl)] at h2;omega
theorem Fv.ncr {t o r:Bs} (h:Fv (13::t) o r):∃t' o',t=10::t'/\Fv t' o' r/\o=13::10::o':=by
 generalize hl:(13:UInt8)::t=l at h;cases h with
 | close n h1 h2 h3=>rw [<-hl,Cb,if_neg (by decide)] at h1;omega
 | quote n h1 h2 h3 h4=>rw [<-hl,Cb,if_neg (by decide)] at h1;omega
 | lf h=>simp at hl
 | crlf h=>
  simp only [List.cons.injEq,true_and] at hl;exact⟨_,_,hl,h,rfl⟩
 | sign n h1 h2 h3 _=>
  rw [<-hl,Lt (.inr rfl)] at h2;omega
theorem El {q c:UInt8} {t:Bs} (h:c≠q):Cb q (c::t)=0:=by rw [Cb,if_neg h]
theorem Fv.plain {c:UInt8} {t o r:Bs} (h:Fv (c::t) o r) (hc:32<=c.toNat/\c.toNat<127∨c.toNat=9) (b:c.toNat≠39):∃o',Fv t o' r/\o=c::o':=by
 have a:c≠39:=fun e=>b (by rw [e];rfl);generalize hl:c::t=l at h;cases h with
 | close n h1 h2 h3=>rw [<-hl,El a] at h1;omega
 | quote n h1 h2 h3 h4=>rw [<-hl,El a] at h1;omega
 | lf h=>simp only [List.cons.injEq] at hl;rw [hl.1] at hc;simp at hc
 | crlf h=>simp only [List.cons.injEq] at hl;rw [hl.1] at hc;simp at hc
 | sign n h1 h2 h3 h4=>
  subst hl;rw [Ig hc] at h2;subst h2;exact⟨_,h4,rfl⟩
theorem Fv.mb {c:UInt8} {t o r:Bs} (h:Fv (c::t) o r) (hc:128<=c.toNat):∃n o',Ku (c::t)=n/\0<n/\Fv ((c::t).drop n) o' r/\o=(c::t).take n++o':=by
 have a:c≠39:=fun e=>by rw [e] at hc;simp at hc
 generalize hl:c::t=l at h;cases h with
 | close n h1 h2 h3=>rw [<-hl,El a] at h1;omega
 | quote n h1 h2 h3 h4=>rw [<-hl,El a] at h1;omega
 | lf h=>simp only [List.cons.injEq] at hl;rw [hl.1] at hc;simp at hc
 | crlf h=>simp only [List.cons.injEq] at hl;rw [hl.1] at hc;simp at hc
 | sign n h1 h2 h3 h4=>
  subst hl;rw [Lh hc] at h2;exact⟨n,_,h2,h3,h4,rfl⟩
theorem Fv.other {c:UInt8} {t o r:Bs} (h:Fv (c::t) o r):c.toNat=39∨c.toNat=10∨c.toNat=13∨(c.toNat≠39/\(32<=c.toNat/\c.toNat<127∨c.toNat=9))∨128<=c.toNat:=by
 apply Classical.byContradiction;intro hh;have a:c≠39:=fun e=>by rw [e] at hh;simp at hh
 generalize hl:c::t=l at h;cases h with
 | close n h1 h2 h3=>rw [<-hl,El a] at h1;omega
 | quote n h1 h2 h3 h4=>rw [<-hl,El a] at h1;omega
 | lf h=>simp only [List.cons.injEq] at hl;rw [hl.1] at hh;simp at hh
 | crlf h=>simp only [List.cons.injEq] at hl;rw [hl.1] at hh;simp at hh
 | sign n h1 h2 h3 h4=>
  subst hl;rw [Jc (by omega)] at h2;omega
theorem Fv.nil {o r:Bs} (h:Fv [] o r):False:=by
 generalize hl:([]:Bs)=l at h;cases h with
 | close n h1 h2 h3=>rw [<-hl] at h1;simp [Cb] at h1;omega
 | quote n h1 h2 h3 h4=>rw [<-hl] at h1;simp [Cb] at h1;omega
 | lf h=>cases hl
 | crlf h=>cases hl
 | sign n h1 h2 h3 h4=>rw [<-hl] at h2;simp [Dm] at h2;omega
theorem Fv.run {l o r:Bs} (h:Fv l o r):∃m o',MR l m/\Fv (l.drop m) o' r/\o=l.take m++o':=
 Si (G:=fun l o=>Fv l o r) (fun _ _ _ h a=>h.mb a) l.length l o Y h
theorem Ko {l0 out o':Bs} {s i m:Nat} (h:out=(l0.take i).drop s++((l0.drop i).take m++o')) (h1:s<=i) (hi:i<=l0.length):out=(l0.take (i+m)).drop s++o':=by
 rw [h,<-List.append_assoc];congr 1;rw [List.take_add,List.drop_append,List.length_take];have:s-min i l0.length=0:=by omega
 rw [this,List.drop_zero]
theorem gW (l:Bs):∃s,s<=l.length/\Hz l=l.drop s/\((s=1/\(pk l 0).toNat=10)∨(s=2/\(pk l 0).toNat=13/\(pk l 1).toNat=10)∨(s=0/\(pk l 0).toNat≠10/\¬((pk l 0).toNat=13/\(pk l 1).toNat=10))):=by
 cases l with
 | nil=>exact⟨0,by simp,rfl,.inr (.inr ⟨rfl,by decide,by decide⟩)⟩
 | cons c t=>
  by_cases a:c=10
  ·subst a;exact⟨1,by simp,rfl,.inl ⟨rfl,rfl⟩⟩
  ·by_cases b:c=13
   ·subst b;cases t with
    | nil=>exact⟨0,by simp,rfl,.inr (.inr ⟨rfl,by decide,by decide⟩)⟩
    | cons d t=>
     by_cases hd:d=10
     ·subst hd;exact⟨2,by simp,rfl,.inr (.inl ⟨rfl,rfl,rfl⟩)⟩
     ·refine⟨0,by simp,?_,.inr (.inr ⟨rfl,by show (13:UInt8).toNat≠10;decide,fun h=>hd (UInt8.toNat_inj.1 h.2)⟩)⟩;unfold Hz;split
      ·rename_i h;simp at h
      ·rename_i h;simp at h;exact absurd h.1 hd
      ·rfl
   ·refine⟨0,by simp,?_,.inr (.inr ⟨rfl,fun h=>a (UInt8.toNat_inj.1 h),fun h=>b (UInt8.toNat_inj.1 h.1)⟩)⟩;unfold Hz;split
    ·rename_i h;simp at h;exact absurd h.1 a
    ·rename_i h;simp at h;exact absurd h.1 b
    ·rfl
attribute [local irreducible] binOp IntKind.wrap Sem.run
section
variable {bd C E:Nat} {dc:Array Value} {fz:Nat×Nat}
theorem mM (p v:Value) (l out r:Bs) (w:World) (hv:Es bd C E dc v (39::39::39::l)) (hE:E<=100000000) (hn:Fv (Hz l) out r) (hD:w.heap[bd]?=some (.cells dc 5 fz)):
  Calls PP 118 #[p,v] w fun e w'=>∃v1 v2 v3,e=.returned (.tuple #[v1,v2,v3,.nilIface])/\Rg C E v1/\RB w' v2 out/\Es bd C E dc v3 r/\Sm w w':=by
 obtain⟨s,an,ac,hs⟩:=gW l;rw [ac] at hn;obtain⟨l0,d⟩:∃l0,l0=39::39::39::l:=⟨_,rfl⟩;have al:l0.length=l.length+3:=by rw [d];simp
 have o:pk l 0=pk l0 3:=by rw [d];rfl
 have t:pk l 1=pk l0 4:=by rw [d];rfl
 have u:l.drop s=l0.drop (3+s):=by rw [d,Nat.add_comm];rfl
 rw [u] at hn;rw [o,t] at hs;rw [<-d] at hv;clear d ac u o t;have ao:=hv.le;have ap:=hv.EC;have ad:=hv.val (by omega);subst ad;refine Bf (L:=[(0,p),(1,.slice (some ⟨bd,E-l0.length,none⟩) l0.length (C-(E-l0.length)))]) Tryz.func118 Z Z Z ⟨Z,Z,V⟩ ?_;repeat first|refine Aa Z ?_|apply Ab|apply Ac|refine Cr (x:=.seq (.region 2 _ _) (.cond _ _ _)) (σ:=Unit) (fun _ w'=>w'=w) (fun _=>[(1,.slice (some ⟨bd,E-l0.length,none⟩) l0.length (C-(E-l0.length))),(8,.int .i64 ((3+s:Nat):Int))]) ?_ ?_
 ·by_cases h3:3<l0.length
  ·have k3:=hv.pk hD (i:=3) h3;rcases hs with ⟨rfl,q1⟩|⟨rfl,q1,q2⟩|⟨rfl,q1,q2⟩
   ·(repeat first|refine Aa Z ?_|apply Ab|refine Ao Z (by first|omega|decide) ?_|refine Ax (i:=3) Z Z Z (by omega) Z ?_|refine Aw Z Z k3 Z ?_|refine Au Z ?_|apply Am|apply Aq|refine Ay Z Z (by omega) Z ?_|refine Bc Z Z (by first|omega|decide) ?_);exact Bh () Z ⟨Z,Z,V⟩
   ·have k4:=hv.pk hD (i:=4) (by omega);(repeat first|refine Aa Z ?_|apply Ab|apply Ac|refine Ao Z (by first|omega|decide) ?_|refine Aj Z (by first|omega|decide) ?_|refine Ax (i:=3) Z Z Z (by omega) Z ?_|refine Aw Z Z k3 Z ?_|refine Ax (i:=4) Z Z Z (by omega) Z ?_|refine Aw Z Z k4 Z ?_|refine Au Z ?_|apply Am|apply Aq|refine Ay Z Z (by omega) Z ?_|refine Bc Z Z (by first|omega|decide) ?_);exact Bh () Z ⟨Z,Z,V⟩
   ·by_cases h4:4<l0.length
    ·have k4:=hv.pk hD (i:=4) h4;by_cases y:(pk l0 3).toNat=13
     ·have:(pk l0 4).toNat≠10:=fun h=>q2 ⟨y,h⟩;(repeat first|refine Aa Z ?_|apply Ab|apply Ac|refine Aj Z (by first|omega|decide) ?_|refine Ax (i:=3) Z Z Z (by omega) Z ?_|refine Aw Z Z k3 Z ?_|refine Ax (i:=4) Z Z Z (by omega) Z ?_|refine Aw Z Z k4 Z ?_|refine Au Z ?_|apply Af|refine Ay Z Z (by omega) Z ?_|refine Bc Z Z (by first|omega|decide) ?_);exact Bh () Z ⟨Z,Z,V⟩
     ·(repeat first|refine Aa Z ?_|apply Ab|apply Ac|refine Bb Z (by first|with_reducible rfl|exact Bool.not_true) ?_|refine Aj Z (by first|omega|decide) ?_|refine Ax (i:=3) Z Z Z (by omega) Z ?_|refine Aw Z Z k3 Z ?_|refine Au Z ?_|apply Af|refine Ay Z Z (by omega) Z ?_|refine Bc Z Z (by first|omega|decide) ?_|refine Az Z Z (by first|omega|decide) ?_);exact Bh () Z ⟨Z,Z,V⟩
    ·(repeat first|refine Aa Z ?_|apply Ab|apply Ac|refine Bb Z (by first|with_reducible rfl|exact Bool.not_true) ?_|refine Aj Z (by first|omega|decide) ?_|refine Ax (i:=3) Z Z Z (by omega) Z ?_|refine Aw Z Z k3 Z ?_|refine Au Z ?_|apply Af|refine Ay Z Z (by omega) Z ?_|refine Bc Z Z (by first|omega|decide) ?_|refine Az Z Z (by first|omega|decide) ?_);exact Bh () Z ⟨Z,Z,V⟩
  ·exact (Fv.nil (by rw [List.drop_eq_nil_of_le (by omega)] at hn;exact hn)).elim
 ·rintro _ w0 rfl;have z:3+s<=l0.length:=(by omega);clear hs;(repeat first|refine Aa Z ?_|apply Ab|apply Ac|apply Ad|apply Ag);refine Bg (σ:=Nat) (I:=fun i w'=>w'=w0/\3+s<=i/\i<=l0.length/\∃o',Fv (l0.drop i) o' r/\out=(l0.take i).drop (3+s)++o') (m:=fun j=>l0.length-j)
   (Lf:=fun i=>[(1,.slice (some ⟨bd,E-l0.length,none⟩) l0.length (C-(E-l0.length))),(8,.int .i64 (i:Int)),(9,.int .i64 ((3+s:Nat):Int))]) (3+s) ⟨rfl,Nat.le_refl _,z,_,hn,by simp⟩ ⟨Z,Z,Z,V⟩ ?_
  clear hn;rintro i w1 ⟨rfl,f,hi,o',hm,a⟩;by_cases ae:i<l0.length
  ·have ki:=hv.pk hD ae;have b:=Em ae;rw [b] at hm;rcases hm.other with aa|af|y|hp|ag
   ·have e39:pk l0 i=39:=(Po (k:=39) (by omega)).2 aa;rw [e39] at hm b;repeat first|refine Aa Z ?_|apply Ab|apply Ac|refine Ao Z (by first|omega|decide) ?_|refine Ax (i:=i) Z Z Z (by omega) Z ?_|refine Aw Z Z ki Z ?_|refine Cr (x:=.block 3 _) (σ:=Unit) (fun _ w'=>w'=w1) (fun _=>[(1,.slice (some ⟨bd,E-l0.length,none⟩) l0.length (C-(E-l0.length))),(8,.int .i64 (i:Int)),(9,.int .i64 ((3+s:Nat):Int)),(11,.int .i64 ((i+Cb 39 (l0.drop i):Nat):Int))]) ?_ ?_|apply Ad|apply Ag|apply An|apply Af
    ·refine Bg (σ:=Nat) (I:=fun j w'=>w'=w1/\j<=l0.length/\j+Cb 39 (l0.drop j)=i+Cb 39 (l0.drop i)) (m:=fun j=>l0.length-j)
      (Lf:=fun j=>[(1,.slice (some ⟨bd,E-l0.length,none⟩) l0.length (C-(E-l0.length))),(8,.int .i64 (i:Int)),(9,.int .i64 ((3+s:Nat):Int)),(11,.int .i64 (j:Int))]) i ⟨rfl,hi,rfl⟩ ⟨Z,Z,Z,Z,V⟩ ?_
     rintro j w2 ⟨rfl,hj,hq⟩;by_cases ah:j<l0.length
     ·have kj:=hv.pk hD ah;rw [Sk ah] at hq;by_cases hc:(pk l0 j).toNat=39
      ·rw [if_pos (show pk l0 j=39 from (Po (k:=39) (by omega)).2 hc)] at hq;(repeat first|refine Aa Z ?_|apply Ab|apply Ac|refine Ao Z (by first|omega|decide) ?_|refine Ax (i:=j) Z Z Z (by omega) Z ?_|refine Aw Z Z kj Z ?_|refine Au Z ?_|apply Ad|apply Am|apply Ag|apply Aq|apply An|apply Bj|apply Af|refine Ay Z Z (by omega) Z ?_|refine Bc Z Z (by first|omega|decide) ?_);exact Ap (j+1) ⟨rfl,by omega,by omega⟩ (by omega) ⟨Z,Z,Z,Z,V⟩
      ·rw [if_neg (show ¬pk l0 j=39 from fun e=>hc (by rw [e];rfl)),Nat.add_zero] at hq;(repeat first|refine Aa Z ?_|apply Ab|apply Ac|refine Aj Z (by first|omega|decide) ?_|refine Ax (i:=j) Z Z Z (by omega) Z ?_|refine Aw Z Z kj Z ?_|refine Au Z ?_|apply Ad|apply Cn|apply Ci|apply Ba|refine Bc Z Z (by first|omega|decide) ?_);exact Bh () Z ⟨rfl,rfl,rfl,by rw [<-hq];rfl,trivial⟩
     ·rw [Pz (by omega),Nat.add_zero] at hq;(repeat first|refine Aa Z ?_|apply Ab|apply Ac|refine Bb Z (by first|with_reducible rfl|exact Bool.not_true) ?_|refine Au Z ?_|apply Ad|apply Cn|apply Ci|apply Ba|refine Az Z Z (by first|omega|decide) ?_);exact Bh () Z ⟨rfl,rfl,rfl,by rw [<-hq];rfl,trivial⟩
    ·rintro _ w2 rfl;have ai:=Mv (q:=39) (l0.drop i);rw [Yh] at ai;have hq:=hm.q;rw [<-b] at hq;generalize Cb 39 (l0.drop i)=n at hq ai ⊢;rcases hq with ⟨g1,g2,g3,g4⟩|⟨g1,g2,o2,g3,g4⟩
     ·(repeat first|refine Aa Z ?_|apply Ab|apply Ac|refine Ao Z (by first|omega|decide) ?_|refine Aj Z (by first|omega|decide) ?_|apply Ad|apply An|apply Af|refine Ay Z Z (by omega) Z ?_|refine Fs Z Z (by omega) Z ?_);refine Cp (fun _=>True) ?_;(repeat (refine Cg (by kernel_rfl) (by first|trivial|assumption) Z ?_));refine Dr (i+n) 0 (by kernel_rfl) trivial Z Z (Sf.mk _ _ _) Z (by simp) (by omega) (fun _=>rfl) (fun ad1 aq=>?_);(repeat (refine Cg (by kernel_rfl) (by first|trivial|assumption) Z ?_));refine Dr (i+n-3-(3+s)) (3+s) (by kernel_rfl) trivial Z Z (Sf.mk _ _ _) Z (by simp only [Option.getD];omega) (by omega) (fun _=>rfl) (fun ad2 ak=>?_);(repeat (refine Cg (by kernel_rfl) (by first|trivial|assumption) Z ?_));refine Dr (l0.length-(i+n)) (i+n) (by kernel_rfl) trivial Z Z (Sf.mk _ _ _) Z (by simp;omega) (by omega) (fun _=>rfl) (fun ad3 z=>?_);(repeat (refine Cg (by kernel_rfl) (by first|trivial|assumption) Z ?_));refine Co ?_;(repeat first|apply An|apply Bl|apply Bv|apply Ai);refine Ak Z Z ⟨_,_,_,rfl,hv.rg 0 (i+n) (by omega) _,?_,?_,(Sm.refl _).drew⟩
      ·have:=hv.sub (w:=w2.drew) hD (3+s) (i+n-3-(3+s)) (by omega) ak;have h9:=Ko (out:=out) (m:=n-3) (o':=[]) (by rw [List.append_nil,<-g3];exact a) f hi;rw [List.append_nil,List.drop_take,show i+(n-3)-(3+s)=i+n-3-(3+s) by omega] at h9;rw [<-h9] at this;exact this
      ·have:=hv.drop (i+n) (by omega) z;rw [g4,List.drop_drop];exact this
     ·(repeat first|refine Aa Z ?_|apply Ab|apply Ac|refine Aj Z (by first|omega|decide) ?_|apply Ad|apply Am|apply Aq|apply An|apply Bj|apply Af|refine Fs Z Z (by omega) Z ?_);exact Ap (i+n) ⟨rfl,by omega,by omega,o2,by rw [List.drop_drop] at g3;exact g3,Ko (by rw [<-g4];exact a) f hi⟩ (by omega) ⟨Z,Z,Z,V⟩
   ·have e10:pk l0 i=10:=(Po (k:=10) (by omega)).2 af;rw [e10] at hm b;obtain⟨o2,g1,rfl⟩:=hm.nlf;(repeat first|refine Aa Z ?_|apply Ab|apply Ac|refine Bb Z (by first|with_reducible rfl|exact Bool.not_true) ?_|refine Ao Z (by first|omega|decide) ?_|refine Aj Z (by first|omega|decide) ?_|refine Ax (i:=i) Z Z Z (by omega) Z ?_|refine Aw Z Z ki Z ?_|refine Au Z ?_|apply Ad|apply Am|apply Ag|apply Aq|apply An|apply Bj|apply Af|refine Ay Z Z (by omega) Z ?_|refine Az Z Z (by first|omega|decide) ?_);exact Ap (i+1) ⟨rfl,by omega,by omega,o2,g1,Ko (m:=1) (by rw [b];exact a) f hi⟩ (by omega) ⟨Z,Z,Z,V⟩
   ·have e13:pk l0 i=13:=(Po (k:=13) (by omega)).2 y;rw [e13] at hm b;obtain⟨t',o2,ht,g1,rfl⟩:=hm.ncr;have ab:i+1<l0.length:=by
     apply Classical.byContradiction;intro h;rw [List.drop_eq_nil_of_le (by omega)] at ht;cases ht
    have ki1:=hv.pk hD ab;have c:=Em ab;rw [ht] at c;simp only [List.cons.injEq] at c;have af:(pk l0 (i+1)).toNat=10:=(by rw [<-c.1];rfl);(repeat first|refine Aa Z ?_|apply Ab|apply Ac|refine Bb Z (by first|with_reducible rfl|exact Bool.not_true) ?_|refine Ao Z (by first|omega|decide) ?_|refine Aj Z (by first|omega|decide) ?_|refine Ax (i:=i) Z Z Z (by omega) Z ?_|refine Aw Z Z ki Z ?_|refine Ax (i:=i+1) Z Z Z ab Z ?_|refine Aw Z Z ki1 Z ?_|refine Au Z ?_|apply Ad|apply Ag|apply An|apply Cn|apply Ci|refine Kn Z ?_|apply Af|apply Ba|refine Ay Z Z (by omega) Z ?_|refine Bc Z Z (by first|omega|decide) ?_|refine Az Z Z (by first|omega|decide) ?_);exact Ap (i+2) ⟨rfl,by omega,by omega,o2,by rw [show i+2=i+1+1 by omega,<-c.2];exact g1,Ko (m:=2) (by rw [b,ht];exact a) f hi⟩ (by omega) ⟨Z,Z,Z,V⟩
   ·obtain⟨aa,hp⟩:=hp;obtain⟨o2,g1,rfl⟩:=hm.plain hp aa;rcases hp with hp|hp;all_goals
     (repeat first|refine Aa Z ?_|apply Ab|apply Ac|refine Bn Z (by first|with_reducible rfl|exact Bool.not_false) ?_|refine Bb Z (by first|with_reducible rfl|exact Bool.not_true) ?_|refine Ao Z (by first|omega|decide) ?_|refine Aj Z (by first|omega|decide) ?_|refine Ax (i:=i) Z Z Z (by omega) Z ?_|refine Aw Z Z ki Z ?_|refine Au Z ?_|apply Ad|apply Am|apply Ag|apply Aq|apply An|apply Bj|apply Af|refine Ay Z Z (by omega) Z ?_|refine Bc Z Z (by first|omega|decide) ?_|refine Az Z Z (by first|omega|decide) ?_);exact Ap (i+1) ⟨rfl,by omega,by omega,o2,g1,Ko (m:=1) (by rw [b];exact a) f hi⟩ (by omega) ⟨Z,Z,Z,V⟩
   ·obtain⟨m,o2,g,g1,rfl⟩:=hm.run;have am:=g.pos ag;rw [<-b] at g g1 a;rw [List.drop_drop] at g1;have aj:=g.le;simp only [Yh] at aj;(repeat first|refine Aa Z ?_|apply Ab|apply Ac|refine Ao Z (by first|omega|decide) ?_|refine Aj Z (by first|omega|decide) ?_|refine Ax (i:=i) Z Z Z (by omega) Z ?_|refine Aw Z Z ki Z ?_|refine Au Z ?_|apply Ad|apply Ag|apply An|apply Af|refine Bc Z Z (by first|omega|decide) ?_|refine Az Z Z (by first|omega|decide) ?_);refine Ae Z Z Z (Hm _ l0 i m w1 hv hi g hD) ?_;rintro e w3 ⟨rfl,rfl⟩;refine T2 Z Z ?_;(repeat first|refine Aa Z ?_|apply Ab|apply Ac|refine Bb Z (by first|with_reducible rfl|exact Bool.not_true) ?_|apply Bj|apply Af);exact Ap (i+m) ⟨rfl,by omega,by omega,o2,g1,Ko a f hi⟩ (by omega) ⟨Z,Z,Z,V⟩
  ·exact (Fv.nil (by rw [List.drop_eq_nil_of_le (by omega)] at hm;exact hm)).elim
end
end
end Go.Proofs.YtaccphdkapmdhaaGreat
