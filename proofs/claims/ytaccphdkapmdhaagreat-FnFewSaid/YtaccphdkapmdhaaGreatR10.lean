/- The parser's scanner does as the grammar says. No condition. -/
import Derived.Test.YtaccphdkapmdhaaGreatR9
namespace Go.Proofs.YtaccphdkapmdhaaGreat
set_option maxRecDepth 100000
set_option maxHeartbeats 64000000
set_option linter.all false
section
attribute [local irreducible] binOp IntKind.wrap Sem.run
theorem Su (l:Bs) (c:UInt8):Ja (l++[c])=Ja l*16+Fb c:=by simp [Ja]
theorem hexs_lt (l:Bs) (h:∀c∈l,Fb c<16):Ja l<16^l.length:=by
 have key:∀(l:Bs) (a:Nat),(∀c∈l,Fb c<16)->l.foldl (fun v c=>v*16+Fb c) a<(a+1)*16^l.length:=by
  intro l
  induction l with
  | nil=>intro a _;simp
  | cons c l ih=>
   intro a h;have h1:=ih (a*16+Fb c) (fun x hx=>h x (by simp [hx]));have h2:=h c (by simp);simp only [List.foldl_cons,Ya];refine Nat.lt_of_lt_of_le h1 ?_;rw [Nat.pow_succ,Nat.mul_comm (16^l.length) 16,<-Nat.mul_assoc];exact Nat.mul_le_mul_right _ (by omega)
 have:=key l 0 h;simpa [Ja] using this
theorem fS {c:UInt8} (h:Fb c<16):(48<=c.toNat/\c.toNat<=57/\Fb c=c.toNat-48)∨(97<=c.toNat/\c.toNat<=102/\Fb c=c.toNat-87)∨(65<=c.toNat/\c.toNat<=70/\Fb c=c.toNat-55):=by
 unfold Fb at *;split at h
 ·rename_i h1;exact .inl ⟨h1.1,h1.2,by rw [if_pos h1]⟩
 ·split at h
  ·rename_i h1 h2;exact .inr (.inl ⟨h2.1,h2.2,by rw [if_neg h1,if_pos h2]⟩)
  ·split at h
   ·rename_i h1 h2 h3;exact .inr (.inr ⟨h3.1,h3.2,by rw [if_neg h1,if_neg h2,if_pos h3]⟩)
   ·omega
theorem or16 {a d:Nat} (ha:a<268435456) (hd:d<16) {y:Int} (hy:y=(d:Int)) (t:Nat) (w:World):(binOp .or t (.int .u32 ((a*2^4:Nat):Int)) (.int .u32 y)).run PP w=.ok (.int .u32 ((a*16+d:Nat):Int)) w:=by
 subst hy;refine or32 (by omega) (by omega) ?_ t w;have:=Nat.two_pow_add_eq_or_of_lt (i:=4) (b:=d) (by omega) a;rw [Nat.mul_comm] at this;rw [<-this]
section
variable {bd C E:Nat} {dc:Array Value} {fz:Nat×Nat}
theorem nC {l0 ds r:Bs} {n j:Nat} (hd:l0.drop n=ds++r) (hj:j<ds.length):∃h:n+j<l0.length,l0[n+j]=ds[j]:=by
 have h1:(l0.drop n)[j]?=some ds[j]:=by rw [hd,Yf hj,Yd hj]
 rw [List.getElem?_drop] at h1;obtain⟨h2,h3⟩:=Yc.1 h1;exact⟨h2,h3⟩
theorem Wi {l0 ds r:Bs} {n:Nat} (hd:l0.drop n=ds++r) (h0:0<ds.length):n+ds.length+r.length=l0.length:=by
 have:=congrArg List.length hd;simp only [Yh,Ye] at this;omega
theorem Tk (B:Nat) (v dv:Value) (l l0 ds r:Bs) (n k:Nat) (w:World) (hv:Es bd C E dc dv l0) (hd:l0.drop n=ds++r) (hk:ds.length=k) (q:0<k) (s:k<=8) (hh:∀c∈ds,Fb c<16) (hr:Jh (Ja ds))
  (hD:w.heap[bd]?=some (.cells dc 5 fz)) (hO:Ob B w v l) (hm:l.length<=1000000000) (hB:B<=w.heap.size):
  Calls PP 147 #[v,dv,.int .i64 (n:Int),.int .i64 (k:Int)] w fun e w'=>∃v',e=.returned (.tuple #[v',.int .i64 ((n+k:Nat):Int),.nilIface])/\Ob B w' v' (l++Ey (Ja ds))/\Up B w w':=by
 have p:=Wi hd (by omega);have hC:=hv.C62;have t:=hv.le;have u:=hv.EC;have d:=hv.val (by omega);subst d;refine Bf (L:=[(0,v),(1,.slice (some ⟨bd,E-l0.length,none⟩) l0.length (C-(E-l0.length))),(2,.int .i64 (n:Int)),(3,.int .i64 (k:Int))]) Tryz.func147 Z Z Z ⟨Z,Z,Z,Z,V⟩ ?_;repeat first|refine Aa Z ?_|apply Ab|apply Ac|refine Aj Z (by first|omega|decide) ?_|apply Ad|apply Ag|apply An|apply Af|refine Ay Z Z (by omega) Z ?_
 refine Bg (σ:=Nat) (I:=fun j w'=>w'=w/\j<=k) (m:=fun j=>k-j) (Lf:=fun j=>[(0,v),(1,.slice (some ⟨bd,E-l0.length,none⟩) l0.length (C-(E-l0.length))),(2,.int .i64 (n:Int)),(3,.int .i64 (k:Int)),(11,.int .u32 (Ja (ds.take j):Int)),(12,.int .i64 (j:Int))]) 0 ⟨rfl,Nat.zero_le _⟩ ⟨Z,Z,Z,Z,Z,Z,V⟩ ?_;rintro j w1 ⟨rfl,hj⟩;by_cases x:j<k
 ·obtain⟨hb,g⟩:=nC (j:=j) hd (by omega);have a:dc[E-l0.length+(n+j)]?=some (u8 ds[j]):=hv.cells _ _ (by rw [Yd hb,g]);have hx:=hh ds[j] (by simp);have hp:Ja (ds.take j)<268435456:=by
   have h1:=hexs_lt (ds.take j) (fun c hc=>hh c (List.mem_of_mem_take hc));rw [List.length_take,Nat.min_eq_left (by omega)] at h1;refine Nat.lt_of_lt_of_le h1 ?_;exact Nat.pow_le_pow_right (n:=16) (by omega) (show j<=7 by omega)
  have b:Ja (ds.take (j+1))=Ja (ds.take j)*16+Fb ds[j]:=by
   rw [<-Su,List.take_append_getElem (by omega)]
  have h:=UInt8.toNat_lt ds[j];rcases fS hx with ⟨h1,h2,h3⟩|⟨h1,h2,h3⟩|⟨h1,h2,h3⟩;all_goals
   (repeat first|refine Aa Z ?_|apply Ab|apply Ac|refine Bb Z (by first|with_reducible rfl|exact Bool.not_true) ?_|refine Ao Z (by first|omega|decide) ?_|refine Aj Z (by first|omega|decide) ?_|refine Ax (i:=n+j) Z Z (by omega) (by omega) Z ?_|refine Av Z Z hD (by simpa using a) Z ?_|refine Oo Z Z (by omega) Z ?_|refine Qp Z Z (by omega) Z ?_|refine Bo Z Z (shl32 (n:=4) (by omega) (by omega) _ _) Z ?_|refine Bo Z Z (or16 hp hx (by omega) _ _) Z ?_|refine Au Z ?_|apply Ad|apply Am|apply Ag|apply Aq|apply An|apply Bj|apply Af|refine Ay Z Z (by omega) Z ?_|refine Bc Z Z (by first|omega|decide) ?_|refine Az Z Z (by first|omega|decide) ?_|refine Ff Z Z (Hl (by omega)) Z ?_);exact Ap (j+1) ⟨rfl,by omega⟩ (by omega) ⟨rfl,rfl,rfl,rfl,by rw [b];rfl,rfl,trivial⟩
 ·have f:j=k:=(by omega);subst f;have ht:ds.take j=ds:=List.take_of_length_le (by omega);rw [ht];have o:=hr;obtain⟨y,z⟩:=o;have key:Ja ds<55296∨57343<Ja ds:=(by omega);rcases key with h1|h1;all_goals
   (repeat first|refine Aa Z ?_|apply Ab|apply Ac|refine Bb Z (by first|with_reducible rfl|exact Bool.not_true) ?_|refine Aj Z (by first|omega|decide) ?_|refine Au Z ?_|apply Ad|apply An|apply Cn|apply Ci|apply Af|apply Ba|refine Bc Z Z (by first|omega|decide) ?_|refine Az Z Z (by first|omega|decide) ?_|refine Ff Z Z (Gu (by omega)) Z ?_);refine Ae Z Z Z (lU B v l (Ja ds) w1 hr hO hm hB) ?_;rintro e w2 ⟨v',rfl,h4,h5⟩;refine T2 Z Z ?_;(repeat first|refine Aa Z ?_|apply Ab|apply Ai|refine Ay Z Z (by omega) Z ?_);exact Ak Z Z ⟨_,rfl,h4,h5⟩
end
theorem dX {c x:UInt8} (h:Rh c=some x):(c.toNat=98/\x=8)∨(c.toNat=116/\x=9)∨(c.toNat=110/\x=10)∨(c.toNat=102/\x=12)∨(c.toNat=114/\x=13)∨(c.toNat=34/\x=34)∨(c.toNat=92/\x=92):=by
 unfold Rh at h
 (repeat' split at h)<;>first
  | (cases h;done)
  | (simp only [Yb] at h;subst h;rename_i e;subst e;decide)
theorem Le {l0 r:Bs} {n:Nat} {c:UInt8} (h:l0.drop n=c::r):n<l0.length/\l0[n]?=some c/\l0.drop (n+1)=r:=by
 have h1:(l0.drop n)[0]?=some c:=by rw [h];rfl
 rw [List.getElem?_drop,Nat.add_zero] at h1;refine⟨(Yc.1 h1).1,h1,?_⟩;rw [<-List.drop_drop,h,List.drop_one,List.tail_cons]
section
variable {bd C E:Nat} {dc:Array Value} {fz:Nat×Nat}
theorem Qt (B:Nat) (v dv:Value) (l l0 b u b':Bs) (n:Nat) (w:World) (hv:Es bd C E dc dv l0) (hd:l0.drop n=b) (he:Vc b u b')
  (hD:w.heap[bd]?=some (.cells dc 5 fz)) (hO:Ob B w v l) (hm:l.length<=1000000000) (hB:B<=w.heap.size):
  Calls PP 139 #[v,dv,.int .i64 (n:Int)] w fun e w'=>∃v' m,e=.returned (.tuple #[v',.int .i64 ((m:Nat):Int),.nilIface])/\Ob B w' v' (l++u)/\Up B w w'/\l0.drop m=b'/\n<m/\m<=l0.length/\u.length<=m-n:=by
 have hC:=hv.C62;have f:=hv.le;have g:=hv.EC;have j:n<l0.length:=by
  cases he with
  | ch h=>exact (Le hd).1
  | u h1 h2 h3=>exact (Le (c:=117) hd).1
  | U h1 h2 h3=>exact (Le (c:=85) hd).1
 have a:=hv.val (by omega);subst a;refine Bf (L:=[(0,v),(1,.slice (some ⟨bd,E-l0.length,none⟩) l0.length (C-(E-l0.length))),(2,.int .i64 (n:Int))]) Tryz.func139 Z Z Z ⟨Z,Z,Z,V⟩ ?_;cases he with
 | @ch c x r h=>
  obtain⟨h1,h2,h3⟩:=Le hd;have hc:=hv.at hD h2;rcases dX h with ⟨h5,hx⟩|⟨h5,hx⟩|⟨h5,hx⟩|⟨h5,hx⟩|⟨h5,hx⟩|⟨h5,hx⟩|⟨h5,hx⟩;all_goals
   (repeat first|refine Aa Z ?_|apply Ab|apply Ac|refine Ao Z (by first|omega|decide) ?_|refine Aj Z (by first|omega|decide) ?_|refine Ax (i:=n) Z Z Z (by omega) Z ?_|refine Aw Z Z hc Z ?_|apply Ag);refine Ec Z Z (bs1 _) Z (fun w1 hA=>?_);have hu:=hA.up hB;refine Kb (B:=B) (l':=[x]) Z Z (hO.upS (hA.up Y)) rfl hA.at_ (Rr (by subst hx;rfl)) (by simp;omega) (Nat.le_trans hB hu.size) (fun v' w2 h6 h7=>⟨_,rfl,?_⟩);(repeat first|refine Aa Z ?_|apply Ab|apply Bv|apply Ai|refine Ay Z Z (by omega) Z ?_);exact Ak Z Z ⟨_,n+1,rfl,h6,hu.trans h7,h3,by omega,by omega,by simp⟩
 | @u ds r h1 h2 h3=>
  obtain⟨h5,h6,h7⟩:=Le (c:=117) (r:=ds++b') hd;have hc:=hv.at hD h6;have d:=Wi h7 (by omega);(repeat first|refine Aa Z ?_|apply Ab|apply Ac|refine Ao Z (by first|omega|decide) ?_|refine Aj Z (by first|omega|decide) ?_|refine Ax (i:=n) Z Z Z (by omega) Z ?_|refine Aw Z Z hc Z ?_|apply Ag|refine Ay Z Z (by omega) Z ?_);refine Ae Z Z Z (Tk B v _ l l0 ds b' (n+1) 4 w hv h7 h1 (by omega) (by omega) h2 h3 hD hO hm hB) ?_;rintro e w2 ⟨v',rfl,h8,h9⟩;refine T2 Z Z ?_;(repeat first|refine Aa Z ?_|apply Ab|apply Bv|apply Ai);refine Ak Z Z ⟨_,n+1+4,rfl,h8,h9,?_,by omega,by omega,?_⟩
  ·rw [<-List.drop_drop,h7,<-h1,List.drop_left]
  ·have:=cP (Ja ds);omega
 | @U ds r h1 h2 h3=>
  obtain⟨h5,h6,h7⟩:=Le (c:=85) (r:=ds++b') hd;have hc:=hv.at hD h6;have d:=Wi h7 (by omega);(repeat first|refine Aa Z ?_|apply Ab|apply Ac|refine Ao Z (by first|omega|decide) ?_|refine Aj Z (by first|omega|decide) ?_|refine Ax (i:=n) Z Z Z (by omega) Z ?_|refine Aw Z Z hc Z ?_|apply Ag|refine Ay Z Z (by omega) Z ?_);refine Ae Z Z Z (Tk B v _ l l0 ds b' (n+1) 8 w hv h7 h1 (by omega) (by omega) h2 h3 hD hO hm hB) ?_;rintro e w2 ⟨v',rfl,h8,h9⟩;refine T2 Z Z ?_;(repeat first|refine Aa Z ?_|apply Ab|apply Bv|apply Ai);refine Ak Z Z ⟨_,n+1+8,rfl,h8,h9,?_,by omega,by omega,?_⟩
  ·rw [<-List.drop_drop,h7,<-h1,List.drop_left]
  ·have:=cP (Ja ds);omega
theorem Xl (v:Value) (l0:Bs) (n:Nat) (w:World) (hv:Es bd C E dc v l0) (hn:n<=l0.length) (h0:0<l0.length) (hD:w.heap[bd]?=some (.cells dc 5 fz)):
  Calls PP 140 #[v,.int .i64 (n:Int)] w fun e w'=>∃m:Int,e=.returned (.int .i64 m)/\(m=-1∨((n:Int)<=m/\m<l0.length))/\w'=w:=by
 have hC:=hv.C62;have d:=hv.le;have f:=hv.EC;have a:=hv.val (by omega);subst a;refine Bf (L:=[(0,.slice (some ⟨bd,E-l0.length,none⟩) l0.length (C-(E-l0.length))),(1,.int .i64 (n:Int))]) Tryz.func140 Z Z Z ⟨Z,Z,V⟩ ?_;repeat first|refine Aa Z ?_|apply Ab|apply Ac|apply Ad|apply Ag
 refine Bg (σ:=Nat) (I:=fun j w'=>w'=w/\n<=j) (m:=fun j=>l0.length-j) (Lf:=fun j=>[(0,.slice (some ⟨bd,E-l0.length,none⟩) l0.length (C-(E-l0.length))),(1,.int .i64 (j:Int))]) n ⟨rfl,Nat.le_refl _⟩ ⟨Z,Z,V⟩ ?_;rintro j w1 ⟨rfl,hj⟩;by_cases b:j<l0.length
 ·have hc:=hv.at hD (Yd b);generalize l0[j]=c at hc;by_cases h1:c.toNat=34
  ·(repeat first|refine Aa Z ?_|apply Ab|apply Ac|refine Ao Z (by first|omega|decide) ?_|refine Ax (i:=j) Z Z Z (by omega) Z ?_|refine Aw Z Z hc Z ?_|apply Ad|apply Ag|apply An|apply Bl|apply Bv|apply Af|apply Ai);exact Ak Z Z ⟨_,rfl,.inr ⟨by omega,by omega⟩,rfl⟩
  ·by_cases h2:c.toNat=92
   ·(repeat first|refine Aa Z ?_|apply Ab|apply Ac|refine Ao Z (by first|omega|decide) ?_|refine Aj Z (by first|omega|decide) ?_|refine Ax (i:=j) Z Z Z (by omega) Z ?_|refine Aw Z Z hc Z ?_|apply Ad|apply Am|apply Ag|apply Aq|apply An|apply Bj|apply Af|refine Ay Z Z (by omega) Z ?_);exact Ap (j+2) ⟨rfl,by omega⟩ (by omega) ⟨Z,Z,V⟩
   ·(repeat first|refine Aa Z ?_|apply Ab|apply Ac|refine Ao Z (by first|omega|decide) ?_|refine Aj Z (by first|omega|decide) ?_|refine Ax (i:=j) Z Z Z (by omega) Z ?_|refine Aw Z Z hc Z ?_|apply Ad|apply Am|apply Ag|apply Aq|apply An|apply Bj|apply Af|refine Ay Z Z (by omega) Z ?_);exact Ap (j+1) ⟨rfl,by omega⟩ (by omega) ⟨Z,Z,V⟩
 ·(repeat first|refine Aa Z ?_|apply Ab|apply Ac|refine Aj Z (by first|omega|decide) ?_|apply Ad|apply An|apply Cn|apply Ci|apply Ba|apply Ai);exact Ak Z Z ⟨_,rfl,.inl rfl,rfl⟩
end
theorem Fn.closed {t o r:Bs} (h:Fn (34::t) o r):o=[]/\r=t:=by
 cases h with
 | close=>exact⟨rfl,rfl⟩
 | sign n h1 _ _ _=>simp at h1
theorem Fn.escd {t o r:Bs} (h:Fn (92::t) o r):∃u b' o',Vc t u b'/\Fn b' o' r/\o=u++o':=by
 cases h with
 | esc h1 h2=>exact⟨_,_,_,h1,h2,rfl⟩
 | sign n _ h1 _ _ _=>simp at h1
theorem Fn.plain {c:UInt8} {t o r:Bs} (h:Fn (c::t) o r) (hc:32<=c.toNat/\c.toNat<127∨c.toNat=9) (a:c.toNat≠34) (b:c.toNat≠92):∃o',Fn t o' r/\o=c::o':=by
 cases h with
 | close=>simp at a
 | esc=>simp at b
 | sign n h1 d h2 h3 h4=>
  rw [Ig hc] at h2;subst h2;exact⟨_,h4,rfl⟩
theorem Fn.mb {c:UInt8} {t o r:Bs} (h:Fn (c::t) o r) (hc:128<=c.toNat):∃n o',Ku (c::t)=n/\0<n/\Fn ((c::t).drop n) o' r/\o=(c::t).take n++o':=by
 cases h with
 | close=>simp at hc
 | esc=>simp at hc
 | sign n h1 a h2 h3 h4=>
  rw [Lh hc] at h2;exact⟨n,_,h2,h3,h4,rfl⟩
theorem Fn.other {c:UInt8} {t o r:Bs} (h:Fn (c::t) o r) (h1:¬(32<=c.toNat/\c.toNat<127∨c.toNat=9)):128<=c.toNat:=by
 cases h with
 | close=>simp at h1
 | esc=>simp at h1
 | sign n h3 a h4 h5 h6=>
  apply Classical.byContradiction;intro hh;rw [Jc (by omega)] at h4;omega
theorem Fn.nil {o r:Bs} (h:Fn [] o r):False:=by
 cases h with
 | sign n h1 a h2 h3=>simp [Dm] at h2;omega
theorem Fn.run {l o r:Bs} (h:Fn l o r):∃m o',MR l m/\Fn (l.drop m) o' r/\o=l.take m++o':=
 Si (G:=fun l o=>Fn l o r) (fun _ _ _ h a=>h.mb a) l.length l o Y h
theorem Fn.eight {x0 x1 x2 x3 x4 x5 x6 x7:UInt8} {t o r:Bs} (h:Fn (x0::x1::x2::x3::x4::x5::x6::x7::t) o r)
  (hp:∀x∈[x0,x1,x2,x3,x4,x5,x6,x7],32<=x.toNat/\x.toNat<128) (hq:∀x∈[x0,x1,x2,x3,x4,x5,x6,x7],x.toNat≠127) (hs:∀x∈[x0,x1,x2,x3,x4,x5,x6,x7],x.toNat≠34)
  (a:∀x∈[x0,x1,x2,x3,x4,x5,x6,x7],x.toNat≠92):
  ∃o',Fn t o' r/\o=x0::x1::x2::x3::x4::x5::x6::x7::o':=by
 have step:∀{x:UInt8} {t o:Bs},Fn (x::t) o r->32<=x.toNat/\x.toNat<128->x.toNat≠127->x.toNat≠34->x.toNat≠92->∃o',Fn t o' r/\o=x::o':=fun h h1 h2 h3 h4=>h.plain (.inl ⟨h1.1,by omega⟩) h3 h4;obtain⟨o0,g0,rfl⟩:=step h (hp x0 (by simp)) (hq x0 (by simp)) (hs x0 (by simp)) (a x0 (by simp));obtain⟨o1,g1,rfl⟩:=step g0 (hp x1 (by simp)) (hq x1 (by simp)) (hs x1 (by simp)) (a x1 (by simp));obtain⟨o2,g2,rfl⟩:=step g1 (hp x2 (by simp)) (hq x2 (by simp)) (hs x2 (by simp)) (a x2 (by simp));obtain⟨o3,g3,rfl⟩:=step g2 (hp x3 (by simp)) (hq x3 (by simp)) (hs x3 (by simp)) (a x3 (by simp));obtain⟨o4,g4,rfl⟩:=step g3 (hp x4 (by simp)) (hq x4 (by simp)) (hs x4 (by simp)) (a x4 (by simp));obtain⟨o5,g5,rfl⟩:=step g4 (hp x5 (by simp)) (hq x5 (by simp)) (hs x5 (by simp)) (a x5 (by simp));obtain⟨o6,g6,rfl⟩:=step g5 (hp x6 (by simp)) (hq x6 (by simp)) (hs x6 (by simp)) (a x6 (by simp));obtain⟨o7,g7,rfl⟩:=step g6 (hp x7 (by simp)) (hq x7 (by simp)) (hs x7 (by simp)) (a x7 (by simp));exact⟨o7,g7,rfl⟩
theorem Vc.lt {b u b':Bs} (h:Vc b u b'):0<b.length:=by
 cases h<;>simp
theorem Ob.rb {B w v l} (h:Ob B w v l):RB w v l:=by
 rcases h.2 with ⟨rfl,hn⟩|⟨g,cap,cur,rfl,hb,hg,hc,hm,hs,ht⟩
 ·exact⟨none,0,by rw [hn],fun hl=>absurd (List.eq_nil_of_length_eq_zero hn) hl⟩
 ·refine⟨_,cap,rfl,fun _=>⟨g,0,cur,_,rfl,hg,fun i c hi=>?_⟩⟩;rw [Yi];have h1:(cur.toList.take (l.length*1))[i]?=some (u8 c):=(by rw [ht,List.getElem?_map,hi];rfl);rw [List.getElem?_take] at h1;split at h1
  ·simpa using h1
  ·cases h1
theorem RB.upS {w w' v l} (h:RB w v l) (hu:Up w.heap.size w w'):RB w' v l:=by
 obtain⟨ad,cap,h1,h2⟩:=h;refine⟨ad,cap,h1,fun hl=>?_⟩;obtain⟨b,o,dc,fz,h3,h4,h5⟩:=h2 hl;exact⟨b,o,dc,fz,h3,hu.at (Ah h4) h4,h5⟩
section
variable {bd C E:Nat} {dc:Array Value} {fz:Nat×Nat}
theorem Ob.copied {B n c:Nat} {w w1 w2:World} {l:Bs} {cur:Array Value} {cs:List Value} (hA:Al w (.cells cur 5 (0,0)) w1) (hc:cur.size=c) (hS:St w1 w.heap.size (.cells (cs++cur.toList.drop cs.length).toArray 5 (0,0)) w2)
  (a:cs=l.map u8) (hn:l.length=n) (b:n<=c) (d:c<=1099511627776) (hB:B<=w.heap.size):Ob B w2 (.slice (F w.heap.size) n c) l:=by
 subst a hn;refine⟨by simp,.inr ⟨w.heap.size,c,_,rfl,hB,hS.at_,b,by simp only [maxLen];omega,?_,?_⟩⟩
 ·simp;omega
 ·simp [List.take_append_of_le_length]
theorem Hv {v l0 i n} {w:World} (hv:Es bd C E dc v l0) (hD:w.heap[bd]?=some (.cells dc 5 fz)) {ad:Option Addr} {a:Addr} (c:ad=some a) (b:0<C-(E-l0.length)-i) (hs:Sf bd (E-l0.length+i) (C-(E-l0.length)-i) ad):
  ∀j x,((l0.drop i).take n)[j]?=some x->w.cell? (a.add j)=some (u8 x):=by
 intro j x hx;have:=hs.addr b;rw [c] at this;simp only [Yb] at this;subst this;rw [Ij];refine Ar hD ?_;rw [List.getElem?_take] at hx;split at hx
 ·exact hv.cells.drop i j x hx
 ·cases hx
theorem Yo {cs:Bs} {w:World} {a:Addr} (h:∀j x,cs[j]?=some x->w.cell? (a.add j)=some (u8 x)):∀j u,(cs.map u8)[j]?=some u->w.cell? (a.add j)=some u:=by
 intro j u hu;rw [List.getElem?_map] at hu;cases hx:cs[j]? with
 | none=>simp [hx] at hu
 | some x=>
  simp only [hx,Option.map_some,Yb] at hu;subst hu;exact h j x hx
theorem dW (p v:Value) (l0 o out r:Bs) (n:Nat) (w:World) (hv:Es bd C E dc v l0) (hE:E<=100000000) (hn:Fn (l0.drop n) o r) (ar:1<=n) (au:n<l0.length) (a:out=(l0.take n).drop 1++o) (hD:w.heap[bd]?=some (.cells dc 5 fz)):
  Calls PP 130 #[p,v,.int .i64 (n:Int)] w fun e w'=>∃v1 v2 v3,e=.returned (.tuple #[v1,v2,v3,.nilIface])/\Rg C E v1/\RB w' v2 out/\Es bd C E dc v3 r/\Up w.heap.size w w':=by
 have hC:=hv.C62;have av:=hv.le;have aw:=hv.EC;have aa:=hv.val (by omega);subst aa;refine Bf (L:=[(0,p),(1,.slice (some ⟨bd,E-l0.length,none⟩) l0.length (C-(E-l0.length))),(2,.int .i64 (n:Int))]) Tryz.func130 Z Z Z ⟨Z,Z,Z,V⟩ ?_;have al:=Ah hD;repeat first|refine Aa Z ?_|apply Ab|apply Ac|refine Cr (x:=.seq _ (.seq _ (.cond _ _ _))) (σ:=Int) (fun c w'=>w'=w/\(n:Int)-1<=c/\c<l0.length) (fun c=>[(0,p),(1,.slice (some ⟨bd,E-l0.length,none⟩) l0.length (C-(E-l0.length))),(2,.int .i64 (n:Int)),(10,.int .i64 c)]) ?_ ?_|refine Fs Z Z (by omega) Z ?_
 ·skip;refine Ae Z Z Z (Xl _ l0 n w hv (by omega) (by omega) hD) ?_;rintro e w1 ⟨m,rfl,hm,rfl⟩;refine T2 Z Z ?_;rcases hm with rfl|⟨ax,ay⟩
  ·(repeat first|refine Aa Z ?_|apply Ab|apply Ac|refine Aj Z (by first|omega|decide) ?_|apply Af);exact Bh _ ⟨rfl,by omega,by omega⟩ ⟨Z,Z,Z,Z,V⟩
  ·(repeat first|refine Aa Z ?_|apply Ab|apply Ac|refine Ao Z (by first|omega|decide) ?_|apply Am|apply Aq|refine Fs Z Z (by omega) Z ?_);exact Bh _ ⟨rfl,by omega,by omega⟩ ⟨Z,Z,Z,Z,V⟩
 ·rintro c w2 ⟨rfl,az,ba⟩;obtain⟨c,rfl⟩:=Int.eq_ofNat_of_zero_le (show 0<=c by omega);(repeat first|refine Aa Z ?_|apply Ac|refine Fs Z Z (by omega) Z ?_);refine eQ (n-1) c Z Z Z (by omega) Z (by omega) (by omega) Z (fun w3 z am _ hA=>?_);have ab:=hA.keep hD;(repeat first|refine Aa Z ?_|apply Ab|apply Ac);refine Fw (n-1) 1 Z Z (Sf.mk _ _ _) Z (by simp;omega) (by omega) (fun _=>rfl) (fun ad' g=>?_);have t:=g.addr (by omega);subst t;refine WL.cp (((l0.drop 1).take (n-1)).map u8) Z Z hA.at_ ?_ (Yo (Hv hv ab Z (by omega) g)) ?_ ?_ Z (fun w4 hS=>?_)
  ·simp;omega
  ·simp [size_madeCells];omega
  ·intro u hu;obtain⟨x,_,rfl⟩:=List.mem_map.1 hu;rfl
  have hO:=Ob.copied (B:=w2.heap.size) (l:=(l0.drop 1).take (n-1)) (n:=n-1) hA (size_madeCells _ _) hS Z (by simp;omega) (by omega) (by omega) Y;have hU:Up w2.heap.size w2 w4:=(hA.up Y).trans (hS.up Y);rw [Nat.mul_one] at hO;clear hS hA am g ab;have f:out=(l0.drop 1).take (n-1)++o:=(by rw [a,List.drop_take]);(repeat first|apply Ab|apply Ad|apply Ag);refine Bg (σ:=Nat×Value) (I:=fun s w'=>Up w2.heap.size w2 w'/\n<=s.1/\s.1<=l0.length/\∃l o',Ob w2.heap.size w' s.2 l/\Fn (l0.drop s.1) o' r/\out=l++o'/\l.length<=s.1) (m:=fun s=>l0.length-s.1)
   (Lf:=fun s=>[(1,.slice (some ⟨bd,E-l0.length,none⟩) l0.length (C-(E-l0.length))),(2,.int .i64 (s.1:Int)),(12,s.2)]) (n,_) ⟨hU,Nat.le_refl _,by omega,_,_,hO,hn,f,by simp;omega⟩ ⟨Z,Z,Z,V⟩ ?_
  clear hO hU hn f a;rintro⟨i,bv⟩ w5 ⟨hU,an,ac,l,o',hO,d,a,ao⟩;dsimp only at hU an ac hO d ao ⊢;by_cases ad:i<l0.length
  ·have k:=hU.at al hD;have hc:l0[i]?=some l0[i]:=Yd ad;have y:l0.drop i=l0[i]::l0.drop (i+1):=List.drop_eq_getElem_cons ad;rw [y] at d;have q:=fun {i:Nat} {c:UInt8} (h:l0[i]?=some c)=>hv.at k h;have j:=hU.size;generalize l0[i]=c at hc d y;by_cases ae:128<=c.toNat
   ·obtain⟨m,o'',hm,b,rfl⟩:=d.run;have aq:=hm.pos ae;rw [<-y] at hm b a;rw [List.drop_drop] at b;have af:=hm.le;simp only [Yh] at af;(repeat first|refine Aa Z ?_|apply Ab|apply Ac|refine Ao Z (by first|omega|decide) ?_|refine Aj Z (by first|omega|decide) ?_|refine Ax (i:=i) Z Z Z (by omega) Z ?_|refine Aw Z Z (q hc) Z ?_|refine Au Z ?_|apply Ad|apply Ag|apply An|apply Af|refine Bc Z Z (by first|omega|decide) ?_|refine Az Z Z (by first|omega|decide) ?_);refine Ae Z Z Z (Hm _ l0 i m w5 hv ac hm k) ?_;rintro e w6 ⟨rfl,rfl⟩;refine T2 Z Z ?_;(repeat first|refine Aa Z ?_|apply Ab|apply Ac|refine Bb Z (by first|with_reducible rfl|exact Bool.not_true) ?_|apply Ad|apply An|apply Af);refine Fw m i Z Z (Sf.mk _ _ _) Z Z (by omega) (fun _=>rfl) (fun ad' g=>?_);have t:=g.addr (by omega);subst t;refine Xf ((l0.drop i).take m) Z Z hO (by simp;omega) (Hv hv k Z (by omega) g) (by omega) j (fun v' w7 h4 h5=>⟨_,rfl,?_⟩);(repeat first|refine Aa Z ?_|apply Ab|apply Am|apply Aq|apply Bj);refine Ap (i+m,v') ⟨hU.trans h5,by omega,by omega,_,_,h4,b,?_,?_⟩ (by omega) ⟨Z,Z,Z,V⟩
    ·rw [a,List.append_assoc]
    ·simp;omega
   ·by_cases ag:c.toNat=34
    ·have ah:c=34:=UInt8.toNat_inj.1 ag;subst ah;obtain⟨rfl,hr⟩:=d.closed;(repeat first|refine Aa Z ?_|apply Ab|apply Ac|refine Ao Z (by first|omega|decide) ?_|refine Ax (i:=i) Z Z Z (by omega) Z ?_|refine Aw Z Z (q hc) Z ?_|apply Ad|apply Ag|apply An|apply Af);refine Cp (fun _=>True) ?_;(repeat first|refine Cg (by kernel_rfl) (by first|trivial|assumption) Z ?_|refine Kv (by kernel_rfl) (by first|trivial|assumption) Z Z (by omega) Z ?_);refine Dr (i+1) 0 (by kernel_rfl) trivial Z Z (Sf.mk _ _ _) Z (by simp) (by omega) (fun _=>rfl) (fun ad1 bb=>?_);(repeat first|refine Cg (by kernel_rfl) (by first|trivial|assumption) Z ?_|refine Kv (by kernel_rfl) (by first|trivial|assumption) Z Z (by omega) Z ?_);refine Dr (l0.length-(i+1)) (i+1) (by kernel_rfl) trivial Z Z (Sf.mk _ _ _) (by simp) (by simp;omega) (by omega) (fun _=>rfl) (fun ad3 ap=>?_);(repeat (refine Cg (by kernel_rfl) (by first|trivial|assumption) Z ?_));refine Co ?_;(repeat first|apply An|apply Bl|apply Bv|apply Ai);refine Ak Z Z ⟨_,_,_,rfl,hv.rg 0 (i+1) (by omega) _,?_,?_,hU.drew⟩
     ·have:=hO.rb;rw [a,List.append_nil];exact this.sm (Sm.refl _).drew
     ·have:=hv.drop (i+1) (by omega) ap;rw [hr];exact this
    ·by_cases ai:c.toNat=92
     ·have aj:c=92:=UInt8.toNat_inj.1 ai;subst aj;obtain⟨u,b',o'',he,b,rfl⟩:=d.escd;have ak:=he.lt;simp only [Yh] at ak;(repeat first|refine Aa Z ?_|apply Ab|apply Ac|refine Ao Z (by first|omega|decide) ?_|refine Aj Z (by first|omega|decide) ?_|refine Ax (i:=i) Z Z Z (by omega) Z ?_|refine Aw Z Z (q hc) Z ?_|apply Ad|apply Ag|apply An|apply Af|refine Ay Z Z (by omega) Z ?_);refine Ae Z Z Z (Qt w2.heap.size bv _ l l0 _ u b' (i+1) w5 hv rfl he k hO (by omega) j) ?_;rintro e w6 ⟨v',m,rfl,h4,h5,h6,h7,h8,h9⟩;refine T2 Z Z ?_;(repeat first|refine Aa Z ?_|apply Ab|apply Ac|refine Bb Z (by first|with_reducible rfl|exact Bool.not_true) ?_|apply Bj|apply Af);refine Ap (m,v') ⟨hU.trans h5,by omega,by omega,_,_,h4,by rw [h6];exact b,?_,?_⟩ (by omega) ⟨Z,Z,Z,V⟩
      ·rw [a,List.append_assoc]
      ·simp;omega
     ·by_cases hp:32<=c.toNat/\c.toNat<127∨c.toNat=9
      ·obtain⟨o'',b,rfl⟩:=d.plain hp ag ai;rcases hp with ⟨bc,be⟩|hp;all_goals
        (repeat first|refine Aa Z ?_|apply Ab|apply Ac|refine Bb Z (by first|with_reducible rfl|exact Bool.not_true) ?_|refine Ao Z (by first|omega|decide) ?_|refine Aj Z (by first|omega|decide) ?_|refine Ax (i:=i) Z Z Z (by omega) Z ?_|refine Aw Z Z (q hc) Z ?_|refine Au Z ?_|apply Ad|apply Ag|apply An|apply Af|refine Bc Z Z (by first|omega|decide) ?_|refine Az Z Z (by first|omega|decide) ?_);refine Ec Z Z (bs1 _) Z (fun w6 hA=>?_);refine Kb (B:=w2.heap.size) (l':=[c]) Z Z (hO.upS (hA.up Y)) rfl hA.at_ (Rr rfl) (by simp;omega) (Nat.le_trans j (hA.up j).size) (fun v' w7 h4 h5=>⟨_,rfl,?_⟩);(repeat first|refine Aa Z ?_|apply Ab|apply Am|apply Aq|apply Bj|refine Ay Z Z (by omega) Z ?_);refine Ap (i+1,v') ⟨(hU.trans (hA.up j)).trans h5,by omega,by omega,_,_,h4,b,?_,?_⟩ (by omega) ⟨Z,Z,Z,V⟩
        ·rw [a,List.append_assoc];rfl
        ·simp;omega
      ·exact absurd (d.other hp) (by omega)
  ·have:i=l0.length:=(by omega);subst this;rw [List.drop_length] at d;exact (d.nil).elim
end
section
variable {bd C E:Nat} {dc:Array Value} {fz:Nat×Nat}
theorem Zp (p v:Value) (l out r:Bs) (w:World) (hv:Es bd C E dc v (34::l)) (hn:Fn l out r) (hE:E<=100000000) (hD:w.heap[bd]?=some (.cells dc 5 fz)):
  Calls PP 117 #[p,v] w fun e w'=>∃v1 v2 v3,e=.returned (.tuple #[v1,v2,v3,.nilIface])/\Rg C E v1/\RB w' v2 out/\Es bd C E dc v3 r/\Up w.heap.size w w':=by
 have hC:=hv.C62;have ba:=hv.le;have bb:=hv.EC;have ac:=hv.val (by simp);generalize hl:34::l=l0 at *;have ay:0<l0.length:=by rw [<-hl];simp
 have an:Fn (l0.drop 1) out r/\out=(l0.take 1).drop 1++out:=by subst hl;exact⟨hn,by simp⟩
 clear hn hl;subst ac;refine Bf (L:=[(0,p),(1,.slice (some ⟨bd,E-l0.length,none⟩) l0.length (C-(E-l0.length)))]) Tryz.func117 Z Z Z ⟨Z,Z,V⟩ ?_;repeat first|refine Aa Z ?_|apply Ab|apply Ac|apply Ag
 refine Bg (σ:=Nat) (I:=fun j w'=>Sm w w'/\1<=j/\j<=l0.length/\∃o',Fn (l0.drop j) o' r/\out=(l0.take j).drop 1++o') (m:=fun j=>l0.length-j) (Lf:=fun j=>[(0,p),(1,.slice (some ⟨bd,E-l0.length,none⟩) l0.length (C-(E-l0.length))),(8,.int .i64 (j:Int))]) 1 ⟨Sm.refl _,Nat.le_refl _,by omega,_,an⟩ ⟨Z,Z,Z,V⟩ ?_;rintro j w1 ⟨ad,bc,hj,u⟩;repeat first|refine Cr (x:=.block _ (.loop _)) (σ:=Nat) (fun i w'=>Sm w w'/\j<=i/\i<=l0.length/\∃o',Fn (l0.drop i) o' r/\out=(l0.take i).drop 1++o') (fun j=>[(0,p),(1,.slice (some ⟨bd,E-l0.length,none⟩) l0.length (C-(E-l0.length))),(8,.int .i64 (j:Int))]) ?_ ?_|apply Ag
 ·refine Bg (σ:=Nat) (I:=fun i w'=>Sm w w'/\j<=i/\i<=l0.length/\∃o',Fn (l0.drop i) o' r/\out=(l0.take i).drop 1++o') (m:=fun j=>l0.length-j) (Lf:=fun j=>[(0,p),(1,.slice (some ⟨bd,E-l0.length,none⟩) l0.length (C-(E-l0.length))),(8,.int .i64 (j:Int))]) j ⟨ad,Nat.le_refl _,hj,u⟩ ⟨Z,Z,Z,V⟩ ?_;clear u;rintro i w2 ⟨g,y,hi,o',a,d⟩;by_cases h8:i+8<=l0.length
  ·obtain⟨x0,x1,x2,x3,x4,x5,x6,x7,t,ht,ao⟩:=Zl h8;have aa:=hv.cells.drop i;rw [ht] at aa;(repeat first|refine Aa Z ?_|apply Ab|apply Ac|refine Ao Z (by first|omega|decide) ?_|apply Ad|apply Ag|apply An|apply Af|refine Ay Z Z (by omega) Z ?_);refine Fw (l0.length-i) i Z Z (Sf.mk _ _ _) Z (by simp;omega) (by omega) (fun _=>rfl) (fun ad' ap=>?_);have aq:=ap.addr (by omega);subst aq;refine Ae Z Z Z (Na w2 (by omega) aa (g.at hD)) ?_;rintro e w3 ⟨rfl,ae⟩;refine T2 Z Z ?_;have hx:=fM x0 x1 x2 x3 x4 x5 x6 x7;(repeat first|refine Aa Z ?_|apply Ab|apply Ac|apply Ad);refine Bo Z Z (Xa (b:=Pg) hx Ia _ _) Z ?_;(repeat (refine Aa Z ?_));refine Ae Z Z Z (Jy _ 32 hx (by omega) w3) ?_;rintro e w4 ⟨rfl,rfl⟩;refine T2 Z Z ?_;refine Bo Z Z (Ph (Nat.and_lt_two_pow _ Ia) (Jp _ _) _ _) Z ?_;(repeat (refine Aa Z ?_));refine Ae Z Z Z (Fl _ 34 hx (by omega) w4) ?_;rintro e w5 ⟨rfl,rfl⟩;refine T2 Z Z ?_;refine Bo Z Z (Ph (Nat.or_lt_two_pow (Nat.and_lt_two_pow _ Ia) (Jp _ _)) (Hb _ _) _ _) Z ?_;(repeat (refine Aa Z ?_));refine Ae Z Z Z (Fl _ 92 hx (by omega) w5) ?_;rintro e w6 ⟨rfl,rfl⟩;refine T2 Z Z ?_;refine Bo Z Z (Ph (Nat.or_lt_two_pow (Nat.or_lt_two_pow (Nat.and_lt_two_pow _ Ia) (Jp _ _)) (Hb _ _)) (Hb _ _) _ _) Z ?_;(repeat (refine Aa Z ?_));refine Ae Z Z Z (Fl _ 127 hx (by omega) w6) ?_;rintro e w7 ⟨rfl,rfl⟩;refine T2 Z Z ?_;refine Bo Z Z (Ph (Nat.or_lt_two_pow (Nat.or_lt_two_pow (Nat.or_lt_two_pow (Nat.and_lt_two_pow _ Ia) (Jp _ _)) (Hb _ _)) (Hb _ _)) (Hb _ _) _ _) Z ?_;by_cases hz:Lx x0 x1 x2 x3 x4 x5 x6 x7 &&& Pg ||| Mn (Lx x0 x1 x2 x3 x4 x5 x6 x7) 32 ||| Fy (Lx x0 x1 x2 x3 x4 x5 x6 x7) 34 ||| Fy (Lx x0 x1 x2 x3 x4 x5 x6 x7) 92 ||| Fy (Lx x0 x1 x2 x3 x4 x5 x6 x7) 127=0
   ·obtain⟨n,ar⟩:=My hz;obtain⟨n,au⟩:=My n;obtain⟨n,av⟩:=My n;have hf:=aX n;have hq:=Mi (m:=127) (by omega) hf ar;have af:=Mi (m:=34) (by omega) hf av;have ag:=Mi (m:=92) (by omega) hf au;rw [ht] at a;obtain⟨o'',f,rfl⟩:=a.eight hf hq af ag;have k:=Tl d (by omega) hi ht;rw [ao] at f;clear hq hf af ag aa;generalize Lx x0 x1 x2 x3 x4 x5 x6 x7 &&& Pg ||| Mn (Lx x0 x1 x2 x3 x4 x5 x6 x7) 32 ||| Fy (Lx x0 x1 x2 x3 x4 x5 x6 x7) 34 ||| Fy (Lx x0 x1 x2 x3 x4 x5 x6 x7) 92 ||| Fy (Lx x0 x1 x2 x3 x4 x5 x6 x7) 127=z at hz ⊢;subst hz;(repeat first|refine Aa Z ?_|apply Ab|refine Aj Z (by first|omega|decide) ?_|apply Am|apply Aq|apply An|apply Bj|apply Af|refine Ay Z Z (by omega) Z ?_);refine Ap (i+8) ⟨g.trans ae,by omega,h8,_,f,k⟩ (by omega) ⟨Z,Z,Z,V⟩
   ·generalize Lx x0 x1 x2 x3 x4 x5 x6 x7 &&& Pg ||| Mn (Lx x0 x1 x2 x3 x4 x5 x6 x7) 32 ||| Fy (Lx x0 x1 x2 x3 x4 x5 x6 x7) 34 ||| Fy (Lx x0 x1 x2 x3 x4 x5 x6 x7) 92 ||| Fy (Lx x0 x1 x2 x3 x4 x5 x6 x7) 127=z at hz ⊢;(repeat first|refine Aa Z ?_|apply Ab|refine Ao Z (by first|omega|decide) ?_|apply Cn|apply Ci|refine Kn Z ?_|apply Ba);refine Bh i ⟨g.trans ae,y,hi,_,a,d⟩ ⟨Z,Z,Z,V⟩
  ·(repeat first|refine Aa Z ?_|apply Ab|apply Ac|refine Aj Z (by first|omega|decide) ?_|apply Ad|apply Cn|apply Ci|apply Ba|refine Ay Z Z (by omega) Z ?_);refine Bh i ⟨g,y,hi,_,a,d⟩ ⟨Z,Z,Z,V⟩
 ·clear u hj ad;rintro i w2 ⟨g,y,hi,o',a,d⟩;by_cases ab:i<l0.length
  ·have q:=g.at hD;have hc:l0[i]?=some l0[i]:=Yd ab;have o:l0.drop i=l0[i]::l0.drop (i+1):=List.drop_eq_getElem_cons ab;rw [o] at a;have s:=fun {i:Nat} {c:UInt8} (h:l0[i]?=some c)=>hv.at q h;generalize l0[i]=c at hc a o;by_cases ah:128<=c.toNat
   ·obtain⟨m,o'',hm,f,rfl⟩:=a.run;have az:=hm.pos ah;rw [<-o] at hm f d;rw [List.drop_drop] at f;have ai:=hm.le;simp only [Yh] at ai;have k:=Mr d (by omega) hi;(repeat first|refine Aa Z ?_|apply Ab|apply Ac|refine Aj Z (by first|omega|decide) ?_|refine Ax (i:=i) Z Z Z (by omega) Z ?_|refine Aw Z Z (s hc) Z ?_|refine Au Z ?_|apply Ad|apply Ag|apply An|apply Af|refine Bc Z Z (by first|omega|decide) ?_|refine Az Z Z (by first|omega|decide) ?_);refine Ae Z Z Z (Hm _ l0 i m w2 hv hi hm q) ?_;rintro e w3 ⟨rfl,rfl⟩;refine T2 Z Z ?_;(repeat first|refine Aa Z ?_|apply Ab|apply Ac|refine Bb Z (by first|with_reducible rfl|exact Bool.not_true) ?_|apply Bj|apply Af);refine Ap (i+m) ⟨g,by omega,by omega,_,f,k⟩ (by omega) ⟨Z,Z,Z,V⟩
   ·by_cases aj:c.toNat=34
    ·have ak:c=34:=UInt8.toNat_inj.1 aj;subst ak;obtain⟨rfl,hr⟩:=a.closed;(repeat first|refine Aa Z ?_|apply Ab|apply Ac|refine Ao Z (by first|omega|decide) ?_|refine Aj Z (by first|omega|decide) ?_|refine Ax (i:=i) Z Z Z (by omega) Z ?_|refine Aw Z Z (s hc) Z ?_|apply Ad|apply Ag|apply An|apply Af);refine Cp (fun _=>True) ?_;(repeat first|refine Cg (by kernel_rfl) (by first|trivial|assumption) Z ?_|refine Kv (by kernel_rfl) (by first|trivial|assumption) Z Z (by omega) Z ?_);refine Dr (i+1) 0 (by kernel_rfl) trivial Z Z (Sf.mk _ _ _) Z (by simp) (by omega) (fun _=>rfl) (fun ad1 be=>?_);(repeat (refine Cg (by kernel_rfl) (by first|trivial|assumption) Z ?_));refine Dr (i-1) 1 (by kernel_rfl) trivial Z Z (Sf.mk _ _ _) Z (by simp;omega) (by omega) (fun _=>rfl) (fun ad2 aw=>?_);(repeat first|refine Cg (by kernel_rfl) (by first|trivial|assumption) Z ?_|refine Kv (by kernel_rfl) (by first|trivial|assumption) Z Z (by omega) Z ?_);refine Dr (l0.length-(i+1)) (i+1) (by kernel_rfl) trivial Z Z (Sf.mk _ _ _) (by simp) (by simp;omega) (by omega) (fun _=>rfl) (fun ad3 ax=>?_);(repeat (refine Cg (by kernel_rfl) (by first|trivial|assumption) Z ?_));refine Co ?_;(repeat first|apply An|apply Bl|apply Bv|apply Ai);refine Ak Z Z ⟨_,_,_,rfl,hv.rg 0 (i+1) (by omega) _,?_,?_,g.drew.up⟩
     ·have:=hv.sub (w:=w2.drew) q 1 (i-1) (by omega) aw;have e:(l0.drop 1).take (i-1)=out:=(by rw [d,List.append_nil,List.drop_take]);rw [e] at this;exact this
     ·have:=hv.drop (i+1) (by omega) ax;rw [hr];exact this
    ·by_cases al:c.toNat=92
     ·have am:c=92:=UInt8.toNat_inj.1 al;subst am;rw [<-o] at a;(repeat first|refine Aa Z ?_|apply Ab|apply Ac|refine Ao Z (by first|omega|decide) ?_|refine Aj Z (by first|omega|decide) ?_|refine Ax (i:=i) Z Z Z (by omega) Z ?_|refine Aw Z Z (s hc) Z ?_|apply Ad|apply Ag|apply An|apply Af);refine Ae Z Z Z (dW p _ l0 o' out r i w2 hv hE a (by omega) ab d q) ?_;rintro e w3 ⟨v1,v2,v3,rfl,h4,h5,h6,h7⟩;refine T2 Z Z ?_;(repeat first|refine Aa Z ?_|apply Ab|apply Bl|apply Bv|apply Ai);refine Ak Z Z ⟨_,_,_,rfl,h4,h5,h6,g.up.trans (h7.mono (by rw [g.heap];exact Nat.le_refl _))⟩
     ·by_cases hp:32<=c.toNat/\c.toNat<127∨c.toNat=9
      ·obtain⟨o'',f,rfl⟩:=a.plain hp aj al;have k:=Yj d (by omega) hi o;rcases hp with ⟨bf,bg⟩|hp;all_goals
        (repeat first|refine Aa Z ?_|apply Ab|apply Ac|refine Bb Z (by first|with_reducible rfl|exact Bool.not_true) ?_|refine Ao Z (by first|omega|decide) ?_|refine Aj Z (by first|omega|decide) ?_|refine Ax (i:=i) Z Z Z (by omega) Z ?_|refine Aw Z Z (s hc) Z ?_|refine Au Z ?_|apply Ad|apply Am|apply Ag|apply Aq|apply An|apply Bj|apply Af|refine Ay Z Z (by omega) Z ?_|refine Bc Z Z (by first|omega|decide) ?_|refine Az Z Z (by first|omega|decide) ?_);refine Ap (i+1) ⟨g,by omega,by omega,_,f,k⟩ (by omega) ⟨Z,Z,Z,V⟩
      ·exact absurd (a.other hp) (by omega)
  ·have:i=l0.length:=(by omega);subst this;rw [List.drop_length] at a;exact (a.nil).elim
end
theorem Rp (c:UInt8) (w:World):Calls PP 137 #[u8 c] w fun e w'=>e=.returned (.bool (Er c))/\w'=w:=by
 refine Bf (L:=[(0,u8 c)]) Tryz.func137 Z Z Z ⟨Z,V⟩ ?_;have key:c.toNat<45∨c.toNat=45∨(45<c.toNat/\c.toNat<48)∨(48<=c.toNat/\c.toNat<=57)∨(57<c.toNat/\c.toNat<65)∨(65<=c.toNat/\c.toNat<=90)∨(90<c.toNat/\c.toNat<95)∨c.toNat=95∨c.toNat=96∨(97<=c.toNat/\c.toNat<=122)∨122<c.toNat:=by omega
 rcases key with h|h|h|h|h|h|h|h|h|h|h;all_goals
  (repeat first|refine Aa Z ?_|apply Ab|apply Ac|refine Au Z ?_|apply Ai|refine Bc Z Z (by first|omega|decide) ?_|refine Az Z Z (by first|omega|decide) ?_);refine Ak Z Z ⟨?_,rfl⟩;refine congrArg Ending.returned (congrArg Value.bool ?_);first
   | (rw [Fj (by omega)];simp only [Er];symm;rw [decide_eq_true_eq];omega)
   | (rw [Ew (by omega)];simp only [Er];symm;rw [decide_eq_false_iff_not];omega)
   | (simp only [Er];symm;rw [decide_eq_true_eq];omega)
section
variable {bd C E:Nat} {dc:Array Value} {fz:Nat×Nat}
theorem aT {c:UInt8} (h:Er c=true):c.toNat≠39/\c.toNat≠34:=by
 simp only [Er,decide_eq_true_eq] at h;omega
theorem cW (p v:Value) (b k r:Bs) (w:World) (hv:Es bd C E dc v b) (hE:E<=100000000) (hk:KP b k r) (hD:w.heap[bd]?=some (.cells dc 5 fz)):
  Calls PP 128 #[p,v] w fun e w'=>∃v1 v2 v3,e=.returned (.tuple #[v1,v2,v3,.nilIface])/\Rg C E v1/\RB w' v2 k/\Es bd C E dc v3 r/\Up w.heap.size w w':=by
 have hC:=hv.C62;have q:=hv.le;have ac:=hv.EC;refine Bf (L:=[(0,p),(1,v)]) Tryz.func128 Z Z Z ⟨Z,Z,V⟩ ?_;cases hk with
 | lit h=>
  have a:=hv.cell hD;have n:=hv;have d:=hv.cons;subst d;simp only [Ya] at q;(repeat first|refine Aa Z ?_|apply Ab|apply Ac|refine Ao Z (by first|omega|decide) ?_|refine Aj Z (by first|omega|decide) ?_|refine Ax (i:=0) Z Z Z (by omega) Z ?_|refine Aw Z Z a Z ?_|apply Ad|apply Ag|apply An|apply Af);refine Ae Z Z Z (Tp p _ _ _ _ w n h hD) ?_;rintro e w2 ⟨v1,v2,v3,rfl,h1,h2,h3,h4⟩;refine T2 Z Z ?_;(repeat first|refine Aa Z ?_|apply Ab|apply Bv|apply Ai);exact Ak Z Z ⟨_,_,_,rfl,h1,h2,h3,h4.up⟩
 | bas h=>
  have a:=hv.cell hD;have n:=hv;have d:=hv.cons;subst d;simp only [Ya] at q;(repeat first|refine Aa Z ?_|apply Ab|apply Ac|refine Ao Z (by first|omega|decide) ?_|refine Aj Z (by first|omega|decide) ?_|refine Ax (i:=0) Z Z Z (by omega) Z ?_|refine Aw Z Z a Z ?_|apply Ad|apply Ag|apply An|apply Af);refine Ae Z Z Z (Zp p _ _ _ _ w n h hE hD) ?_;rintro e w2 ⟨v1,v2,v3,rfl,h1,h2,h3,h4⟩;refine T2 Z Z ?_;(repeat first|refine Aa Z ?_|apply Ab|apply Bv|apply Ai);exact Ak Z Z ⟨_,_,_,rfl,h1,h2,h3,h4⟩
 | bare h1 h2 h3=>
  have l:(k++r).length=k.length+r.length:=(by simp);have y:0<k.length:=List.length_pos_iff.2 h1;have s:=hv.val (by omega);obtain⟨c,hc⟩:∃c,(k++r)[0]?=some c:=⟨_,Yd (by omega)⟩;have a:=hv.at hD hc;have z:Er c=true:=h2 c (by
   rw [Yf y] at hc;exact List.mem_of_getElem? hc)
  obtain⟨ad,ae⟩:=aT z;generalize g:k++r=l0 at *;subst s;repeat first|refine Aa Z ?_|apply Ab|apply Ac|refine Aj Z (by first|omega|decide) ?_|refine Ax (i:=0) Z Z Z (by omega) Z ?_|refine Aw Z Z a Z ?_|refine Cr (x:=.block _ (.loop _)) (σ:=Unit) (fun _ w'=>w'=w) (fun _=>[(1,.slice (some ⟨bd,E-l0.length,none⟩) l0.length (C-(E-l0.length))),(8,.int .i64 (k.length:Int))]) ?_ ?_|apply Ad|apply Ag|apply An|apply Af
  ·skip;refine Bg (σ:=Nat) (I:=fun j w'=>w'=w/\j<=k.length) (m:=fun j=>k.length-j) (Lf:=fun j=>[(1,.slice (some ⟨bd,E-l0.length,none⟩) l0.length (C-(E-l0.length))),(8,.int .i64 (j:Int))]) 0 ⟨rfl,Nat.zero_le _⟩ ⟨Z,Z,V⟩ ?_;rintro j w1 ⟨rfl,hj⟩;by_cases t:j<k.length
   ·have o:l0[j]?=some k[j]:=(by rw [<-g,Yf t,Yd t]);have f:=hv.at hD o;have hb:=h2 k[j] (by simp);generalize k[j]=c at f hb;(repeat first|refine Aa Z ?_|apply Ac|refine Ax (i:=j) Z Z Z (by omega) Z ?_|refine Aw Z Z f Z ?_|refine Au Z ?_|apply Ad|refine Bc Z Z (by first|omega|decide) ?_);refine Ae Z Z Z (Rp c w1) ?_;rintro e w2 ⟨rfl,rfl⟩;rw [hb];refine T2 Z Z ?_;(repeat first|refine Aa Z ?_|apply Ab|refine Bn Z (by first|with_reducible rfl|exact Bool.not_false) ?_|refine Au Z ?_|apply Am|apply Ag|apply Aq|apply An|apply Bj|apply Af|refine Ay Z Z (by omega) Z ?_);exact Ap (j+1) ⟨rfl,by omega⟩ (by omega) ⟨Z,Z,V⟩
   ·have u:j=k.length:=(by omega);subst u;cases r with
    | nil=>
     simp only [List.length_nil,Nat.add_zero] at l;(repeat first|refine Aa Z ?_|apply Ab|apply Ac|refine Bb Z (by first|with_reducible rfl|exact Bool.not_true) ?_|refine Au Z ?_|apply Ad|apply Cn|apply Ci|apply Ba|refine Az Z Z (by first|omega|decide) ?_);exact Bh () Z ⟨Z,Z,V⟩
    | cons c r=>
     simp only [Ya] at l;have o:l0[k.length]?=some c:=(by rw [<-g,Yg Y];simp);have f:=hv.at hD o;have hb:=h3 c rfl;(repeat first|refine Aa Z ?_|apply Ac|refine Ax (i:=k.length) Z Z Z (by omega) Z ?_|refine Aw Z Z f Z ?_|refine Au Z ?_|apply Ad|refine Bc Z Z (by first|omega|decide) ?_);refine Ae Z Z Z (Rp c w1) ?_;rintro e w2 ⟨rfl,rfl⟩;rw [hb];refine T2 Z Z ?_;(repeat first|apply Ab|refine Bb Z (by first|with_reducible rfl|exact Bool.not_true) ?_|refine Au Z ?_|apply Cn|apply Ci|apply Ba);exact Bh () Z ⟨Z,Z,V⟩
  ·rintro _ w1 rfl;(repeat first|refine Aa Z ?_|apply Ab|apply Ac|refine Aj Z (by first|omega|decide) ?_|apply Ad|apply An|apply Af);refine Cp (fun _=>True) ?_;(repeat (refine Cg (by kernel_rfl) (by first|trivial|assumption) Z ?_));refine Dr k.length 0 (by kernel_rfl) trivial Z Z (Sf.mk _ _ _) Z (by simp) (by omega) (fun _=>rfl) (fun ad1 af=>?_);(repeat (refine Cg (by kernel_rfl) (by first|trivial|assumption) Z ?_));refine Dr k.length 0 (by kernel_rfl) trivial Z Z (Sf.mk _ _ _) Z (by simp) (by omega) (fun _=>rfl) (fun ad2 aa=>?_);(repeat (refine Cg (by kernel_rfl) (by first|trivial|assumption) Z ?_));refine Dr (l0.length-k.length) k.length (by kernel_rfl) trivial Z Z (Sf.mk _ _ _) (by simp) (by simp;omega) (by omega) (fun _=>rfl) (fun ad3 ab=>?_);(repeat (refine Cg (by kernel_rfl) (by first|trivial|assumption) Z ?_));refine Co ?_;(repeat first|apply An|apply Bv|apply Ai);refine Ak Z Z ⟨_,_,_,rfl,hv.rg 0 k.length (by omega) _,?_,?_,(Up.refl _ _).drew⟩
   ·have:=hv.sub (w:=w1.drew) hD 0 k.length (by omega) aa;have e:(l0.drop 0).take k.length=k:=(by rw [List.drop_zero,<-g,List.take_left]);rw [e] at this;exact this
   ·have:=hv.drop k.length (by omega) ab;rw [<-g,List.drop_left] at this;rw [g] at this;exact this
end
end
end Go.Proofs.YtaccphdkapmdhaaGreat
