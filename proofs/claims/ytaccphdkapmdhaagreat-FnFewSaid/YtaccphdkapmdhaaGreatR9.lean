/- The parser's scanner does as the grammar says. No condition. -/
import Derived.Test.YtaccphdkapmdhaaGreatR8
namespace Go.Proofs.YtaccphdkapmdhaaGreat
set_option maxRecDepth 100000
set_option maxHeartbeats 64000000
set_option linter.all false
section
def Mn (x n:Nat):Nat:=(((x+2^64-n*72340172838076673)%2^64) &&& (2^64-1-x)) &&& Pg
def Fy (x c:Nat):Nat:=((((x ^^^ (c*72340172838076673))+2^64-72340172838076673)%2^64) &&& (2^64-1-(x ^^^ (c*72340172838076673)))) &&& Pg
theorem Ia:Pg<2^64:=by decide
theorem Jp (x n:Nat):Mn x n<2^64:=Nat.and_lt_two_pow _ Ia
theorem Hb (x n:Nat):Fy x n<2^64:=Nat.and_lt_two_pow _ Ia
theorem Jy (x n:Nat) (hx:x<2^64) (hn:n<=128) (w:World):
  Calls PP 74 #[UW x,UW n] w fun e w'=>e=.returned (UW (Mn x n))/\w'=w:=by
 refine Bf (L:=[(0,UW x),(1,UW n)]) Tryz.func74 Z Z Z ⟨Z,Z,V⟩ ?_;repeat first|refine Aa Z ?_|apply Ab|apply Ac
 refine Bo Z Z (mul64 (a:=n) (b:=72340172838076673) (by omega) _ _) Z ?_;refine Bo Z Z (sub64 hx (by omega) _ _) Z ?_;repeat (refine Aa Z ?_)
 refine eP hx Z Z Z ?_;refine Bo Z Z (Xa (Nat.mod_lt _ (by decide)) (by omega) _ _) Z ?_;refine Bo Z Z (Xa (b:=Pg) (Nat.and_lt_two_pow _ (by omega)) Ia _ _) Z ?_;repeat first|refine Aa Z ?_|apply Ab|apply Ai
 exact Ak Z Z ⟨rfl,rfl⟩
theorem Fl (x n:Nat) (hx:x<2^64) (hn:n<=128) (w:World):
  Calls PP 75 #[UW x,UW n] w fun e w'=>e=.returned (UW (Fy x n))/\w'=w:=by
 have c:x ^^^ (n*72340172838076673)<2^64:=Nat.xor_lt_two_pow hx (by omega);refine Bf (L:=[(0,UW x),(1,UW n)]) Tryz.func75 Z Z Z ⟨Z,Z,V⟩ ?_;repeat first|refine Aa Z ?_|apply Ab|apply Ac
 refine Bo Z Z (mul64 (a:=n) (b:=72340172838076673) (by omega) _ _) Z ?_;refine Bo Z Z (xor64 hx (by omega) _ _) Z ?_;repeat first|refine Aa Z ?_|apply Ab|apply Ac
 refine Bo Z Z (sub64 (b:=72340172838076673) c (by decide) _ _) Z ?_;repeat (refine Aa Z ?_)
 refine eP c Z Z Z ?_;refine Bo Z Z (Xa (Nat.mod_lt _ (by decide)) (by omega) _ _) Z ?_;refine Bo Z Z (Xa (b:=Pg) (Nat.and_lt_two_pow _ (by omega)) Ia _ _) Z ?_;repeat first|refine Aa Z ?_|apply Ab|apply Ai
 exact Ak Z Z ⟨rfl,rfl⟩
def Lx (a b c d e f g h:UInt8):Nat:=n8 a.toNat b.toNat c.toNat d.toNat e.toNat f.toNat g.toNat h.toNat
theorem Na {bd o n cap:Nat} {dc:Array Value} {fz:Nat×Nat} {a b c d e f g h:UInt8} {l:Bs} (w:World) (hn:8<=n) (hB:BA dc o (a::b::c::d::e::f::g::h::l)) (hD:w.heap[bd]?=some (.cells dc 5 fz)):
  Calls PP 73 #[.slice (some ⟨bd,o,none⟩) n cap] w fun en w'=>en=.returned (UW (Lx a b c d e f g h))/\Sm w w':=by
 have cell:∀(w':World),w'.heap=w.heap->∀(i:Nat) (x:UInt8),(a::b::c::d::e::f::g::h::l)[i]?=some x->w'.cell? ⟨bd,o+i*1,none⟩=some (u8 x):=fun w' hw i x hx=>by
  rw [Nat.mul_one];exact Ar (by rw [hw];exact hD) (hB i x hx)
 refine Bf (L:=[(0,.slice (some ⟨bd,o,none⟩) n cap)]) Tryz.func73 Z Z Z ⟨Z,V⟩ ?_;repeat first|refine Aa Z ?_|apply Ab|apply Ac|refine Ax (i:=7) Z Z Z (by omega) Z ?_|refine Aw Z Z (cell w rfl 7 h rfl) Z ?_|apply Ad
 refine Cp (fun w'=>w'.heap=w.heap) ?_;have hS:w.drew.heap=w.heap:=rfl;have ba:=a.toNat_lt;have bb:=b.toNat_lt;have bc:=c.toNat_lt;have bd:=d.toNat_lt;have be:=e.toNat_lt;have bf:=f.toNat_lt;have bg:=g.toNat_lt;have bh:=h.toNat_lt;repeat first|refine Cg (by kernel_rfl) (by first|trivial|assumption) Z ?_|refine Il (i:=0) (by kernel_rfl) hS Z Z Z (by omega) Z ?_|refine Cl (by kernel_rfl) hS Z Z (fun w' hw=>cell w' hw 0 a rfl) Z ?_|refine Rs (by kernel_rfl) (by first|trivial|assumption) Z Z (Jb (by omega)) Z ?_
 repeat first|refine Il (i:=1) (by kernel_rfl) hS Z Z Z (by omega) Z ?_|refine Cl (by kernel_rfl) hS Z Z (fun w' hw=>cell w' hw 1 b rfl) Z ?_|refine Rs (by kernel_rfl) (by first|trivial|assumption) Z Z (Jb (by omega)) Z ?_
 refine Ma (by kernel_rfl) hS Z Z (fun w=>Vg (a:=b.toNat) (n:=8) (by omega) (by omega) _ w) Z ?_;obtain⟨A1,j⟩:∃A,A=a.toNat ||| b.toNat*2^8:=⟨_,rfl⟩;have eA1:A1=a.toNat+b.toNat*2^8:=by rw [j];exact Qb (by omega)
 refine Ma (v:=UW A1) (by kernel_rfl) hS Z Z (fun w=>by rw [j];exact Ph (by simp only [Nat.reducePow] at *;omega) (by simp only [Nat.reducePow] at *;omega) _ w) Z ?_;repeat first|refine Cg (by kernel_rfl) (by first|trivial|assumption) Z ?_|refine Il (i:=2) (by kernel_rfl) hS Z Z Z (by omega) Z ?_|refine Cl (by kernel_rfl) hS Z Z (fun w' hw=>cell w' hw 2 c rfl) Z ?_|refine Rs (by kernel_rfl) (by first|trivial|assumption) Z Z (Jb (by omega)) Z ?_
 refine Ma (by kernel_rfl) hS Z Z (fun w=>Vg (a:=c.toNat) (n:=16) (by omega) (by omega) _ w) Z ?_;obtain⟨A2,k⟩:∃A,A=A1 ||| c.toNat*2^16:=⟨_,rfl⟩;have eA2:A2=A1+c.toNat*2^16:=by rw [k];exact Qb (by simp only [Nat.reducePow] at *;omega)
 refine Ma (v:=UW A2) (by kernel_rfl) hS Z Z (fun w=>by rw [k];exact Ph (by simp only [Nat.reducePow] at *;omega) (by simp only [Nat.reducePow] at *;omega) _ w) Z ?_;repeat first|refine Cg (by kernel_rfl) (by first|trivial|assumption) Z ?_|refine Il (i:=3) (by kernel_rfl) hS Z Z Z (by omega) Z ?_|refine Cl (by kernel_rfl) hS Z Z (fun w' hw=>cell w' hw 3 d rfl) Z ?_|refine Rs (by kernel_rfl) (by first|trivial|assumption) Z Z (Jb (by omega)) Z ?_
 refine Ma (by kernel_rfl) hS Z Z (fun w=>Vg (a:=d.toNat) (n:=24) (by omega) (by omega) _ w) Z ?_;obtain⟨A3,m⟩:∃A,A=A2 ||| d.toNat*2^24:=⟨_,rfl⟩;have eA3:A3=A2+d.toNat*2^24:=by rw [m];exact Qb (by simp only [Nat.reducePow] at *;omega)
 refine Ma (v:=UW A3) (by kernel_rfl) hS Z Z (fun w=>by rw [m];exact Ph (by simp only [Nat.reducePow] at *;omega) (by simp only [Nat.reducePow] at *;omega) _ w) Z ?_;repeat first|refine Cg (by kernel_rfl) (by first|trivial|assumption) Z ?_|refine Il (i:=4) (by kernel_rfl) hS Z Z Z (by omega) Z ?_|refine Cl (by kernel_rfl) hS Z Z (fun w' hw=>cell w' hw 4 e rfl) Z ?_|refine Rs (by kernel_rfl) (by first|trivial|assumption) Z Z (Jb (by omega)) Z ?_
 refine Ma (by kernel_rfl) hS Z Z (fun w=>Vg (a:=e.toNat) (n:=32) (by omega) (by omega) _ w) Z ?_;obtain⟨A4,p⟩:∃A,A=A3 ||| e.toNat*2^32:=⟨_,rfl⟩;have eA4:A4=A3+e.toNat*2^32:=by rw [p];exact Qb (by simp only [Nat.reducePow] at *;omega)
 refine Ma (v:=UW A4) (by kernel_rfl) hS Z Z (fun w=>by rw [p];exact Ph (by simp only [Nat.reducePow] at *;omega) (by simp only [Nat.reducePow] at *;omega) _ w) Z ?_;repeat first|refine Cg (by kernel_rfl) (by first|trivial|assumption) Z ?_|refine Il (i:=5) (by kernel_rfl) hS Z Z Z (by omega) Z ?_|refine Cl (by kernel_rfl) hS Z Z (fun w' hw=>cell w' hw 5 f rfl) Z ?_|refine Rs (by kernel_rfl) (by first|trivial|assumption) Z Z (Jb (by omega)) Z ?_
 refine Ma (by kernel_rfl) hS Z Z (fun w=>Vg (a:=f.toNat) (n:=40) (by omega) (by omega) _ w) Z ?_;obtain⟨A5,q⟩:∃A,A=A4 ||| f.toNat*2^40:=⟨_,rfl⟩;have eA5:A5=A4+f.toNat*2^40:=by rw [q];exact Qb (by simp only [Nat.reducePow] at *;omega)
 refine Ma (v:=UW A5) (by kernel_rfl) hS Z Z (fun w=>by rw [q];exact Ph (by simp only [Nat.reducePow] at *;omega) (by simp only [Nat.reducePow] at *;omega) _ w) Z ?_;repeat first|refine Cg (by kernel_rfl) (by first|trivial|assumption) Z ?_|refine Il (i:=6) (by kernel_rfl) hS Z Z Z (by omega) Z ?_|refine Cl (by kernel_rfl) hS Z Z (fun w' hw=>cell w' hw 6 g rfl) Z ?_|refine Rs (by kernel_rfl) (by first|trivial|assumption) Z Z (Jb (by omega)) Z ?_
 refine Ma (by kernel_rfl) hS Z Z (fun w=>Vg (a:=g.toNat) (n:=48) (by omega) (by omega) _ w) Z ?_;obtain⟨A6,r⟩:∃A,A=A5 ||| g.toNat*2^48:=⟨_,rfl⟩;have eA6:A6=A5+g.toNat*2^48:=by rw [r];exact Qb (by simp only [Nat.reducePow] at *;omega)
 refine Ma (v:=UW A6) (by kernel_rfl) hS Z Z (fun w=>by rw [r];exact Ph (by simp only [Nat.reducePow] at *;omega) (by simp only [Nat.reducePow] at *;omega) _ w) Z ?_;repeat first|refine Cg (by kernel_rfl) (by first|trivial|assumption) Z ?_|refine Il (i:=7) (by kernel_rfl) hS Z Z Z (by omega) Z ?_|refine Cl (by kernel_rfl) hS Z Z (fun w' hw=>cell w' hw 7 h rfl) Z ?_|refine Rs (by kernel_rfl) (by first|trivial|assumption) Z Z (Jb (by omega)) Z ?_
 refine Ma (by kernel_rfl) hS Z Z (fun w=>Vg (a:=h.toNat) (n:=56) (by omega) (by omega) _ w) Z ?_;obtain⟨A7,s⟩:∃A,A=A6 ||| h.toNat*2^56:=⟨_,rfl⟩;have eA7:A7=A6+h.toNat*2^56:=by rw [s];exact Qb (by simp only [Nat.reducePow] at *;omega)
 refine Ma (v:=UW A7) (by kernel_rfl) hS Z Z (fun w=>by rw [s];exact Ph (by simp only [Nat.reducePow] at *;omega) (by simp only [Nat.reducePow] at *;omega) _ w) Z ?_;repeat (refine Cg (by kernel_rfl) (by first|trivial|assumption) Z ?_)
 refine Co ?_;repeat first|apply An|apply Ai
 refine Ak Z Z ⟨?_,(Sm.refl _).drew⟩;have:A7=Lx a b c d e f g h:=by
  unfold Lx n8;simp only [Nat.reducePow] at *;omega
 rw [this];rfl
end
section
theorem Si {G:Bs->Bs->Prop} (a:∀c t o,G (c::t) o->128<=c.toNat->∃n o',Ku (c::t)=n/\0<n/\G ((c::t).drop n) o'/\o=(c::t).take n++o'):
  ∀(k:Nat) (l o:Bs),l.length<=k->G l o->∃m o',MR l m/\G (l.drop m) o'/\o=l.take m++o'
 | 0,l,o,hl,h=>by
  have:l=[]:=List.eq_nil_of_length_eq_zero (by omega);subst this;exact⟨0,o,.stop (by simp),h,rfl⟩
 | k+1,[],o,hl,h=>⟨0,o,.stop (by simp),h,rfl⟩
 | k+1,c::t,o,hl,h=>by
  by_cases hc:128<=c.toNat
  ·obtain⟨n,o',h1,h2,h3,h4⟩:=a c t o h hc;have:=mQ h1 h2;obtain⟨m,o'',h5,h6,h7⟩:=Si a k _ o' (by simp only [Yh,Ya] at *;omega) h3;refine⟨n+m,o'',.step h1 h2 h5,by rw [<-List.drop_drop];exact h6,?_⟩;rw [h4,h7,<-List.append_assoc,List.take_add]
  ·exact⟨0,o,.stop (fun d hd=>by simp at hd;subst hd;omega),h,rfl⟩
theorem Ig {c:UInt8} {t:Bs} (h:32<=c.toNat/\c.toNat<127∨c.toNat=9):Dm (c::t)=1:=by
 have:Gj c=true:=by unfold Gj;simp;omega
 simp [Dm,this]
theorem Lh {c:UInt8} {t:Bs} (h:128<=c.toNat):Dm (c::t)=Ku (c::t):=by
 have:Gj c=false:=by unfold Gj;simp;omega
 simp [Dm,this];omega
theorem Jc {c:UInt8} {t:Bs} (h:c.toNat<32/\c.toNat≠9∨c.toNat=127):Dm (c::t)=0:=by
 have:Gj c=false:=by unfold Gj;simp;omega
 simp [Dm,this];omega
theorem Cm.plain {c:UInt8} {t r:Bs} (h:Cm (c::t) r) (hc:32<=c.toNat/\c.toNat<127∨c.toNat=9):Cm t r:=by
 cases h with
 | lf=>simp at hc
 | crlf=>simp at hc
 | sign n h1 h2 h3=>
  rw [Ig hc] at h1;subst h1;exact h3
theorem Cm.mb {c:UInt8} {t r:Bs} (h:Cm (c::t) r) (hc:128<=c.toNat):∃n,Ku (c::t)=n/\0<n/\Cm ((c::t).drop n) r:=by
 cases h with
 | lf=>simp at hc
 | crlf=>simp at hc
 | sign n h1 h2 h3=>
  rw [Lh hc] at h1;exact⟨n,h1,h2,h3⟩
theorem Cm.other {c:UInt8} {t r:Bs} (h:Cm (c::t) r) (h1:¬(32<=c.toNat/\c.toNat<127∨c.toNat=9)) (h2:c.toNat<128):(c=10/\r=10::t)∨∃t',c=13/\t=10::t'/\r=13::10::t':=by
 cases h with
 | lf=>exact .inl ⟨rfl,rfl⟩
 | crlf r=>exact .inr ⟨r,rfl,rfl,rfl⟩
 | sign n h3 h4 h5=>
  rw [Jc (by omega)] at h3;omega
theorem Cm.run {l r:Bs} (h:Cm l r):∃m,MR l m/\Cm (l.drop m) r:=by
 obtain⟨m,o',h1,h2,_⟩:=Si (G:=fun l o=>Cm l r/\o=l) (fun c t o ⟨hc,ho⟩ a=>by
  obtain⟨n,h1,h2,h3⟩:=hc.mb a;exact⟨n,_,h1,h2,⟨h3,rfl⟩,by rw [ho,List.take_append_drop]⟩) l.length l l Y ⟨h,rfl⟩
 exact⟨m,h1,h2.1⟩
theorem MR.pos {c:UInt8} {t:Bs} {m:Nat} (h:MR (c::t) m) (hc:128<=c.toNat):0<m:=by
 cases h with
 | stop h=>have:=h c rfl;omega
 | step h1 h2 _=>omega
theorem Zl {l:Bs} {j:Nat} (h:j+8<=l.length):∃a b c d e f g i t,l.drop j=a::b::c::d::e::f::g::i::t/\t=l.drop (j+8):=by
 have hl:8<=(l.drop j).length:=by simp;omega
 rw [<-List.drop_drop];generalize l.drop j=l' at hl ⊢
 match l',hl with
 | a::b::c::d::e::f::g::i::t,_=>exact⟨a,b,c,d,e,f,g,i,t,rfl,rfl⟩
 | [],h|[_],h|[_,_],h|[_,_,_],h|[_,_,_,_],h|[_,_,_,_,_],h|[_,_,_,_,_,_],h|[_,_,_,_,_,_,_],h=>simp at h
theorem fM (a b c d e f g h:UInt8):Lx a b c d e f g h<2^64:=by
 unfold Lx n8;have:=a.toNat_lt;have:=b.toNat_lt;have:=c.toNat_lt;have:=d.toNat_lt;have:=e.toNat_lt;have:=f.toNat_lt;have:=g.toNat_lt;have:=h.toNat_lt;simp only [Nat.reducePow] at *;omega
theorem My {a b:Nat} (h:a ||| b=0):a=0/\b=0:=by
 have h1:=@Nat.left_le_or a b;have h2:=@Nat.right_le_or a b;omega
theorem aX {a b c d e f g h:UInt8} (hz:Lx a b c d e f g h &&& Pg ||| Mn (Lx a b c d e f g h) 32=0):
  ∀x∈[a,b,c,d,e,f,g,h],32<=x.toNat/\x.toNat<128:=by
 obtain⟨h1,h2⟩:=My hz;have l1:=low_of a.toNat_lt b.toNat_lt c.toNat_lt d.toNat_lt e.toNat_lt f.toNat_lt g.toNat_lt h.toNat_lt h1;obtain⟨la,lb,lc,ld,le,lf,lg,lh⟩:=l1;have e32:32*72340172838076673=n8 32 32 32 32 32 32 32 32:=by decide
 unfold Mn at h2;rw [e32] at h2;obtain⟨ma,mb,mc,md,me,mf,mg,mh⟩:=Vm (n:=32) (by omega) la lb lc ld le lf lg lh h2;intro x hx;simp only [List.mem_cons,List.not_mem_nil,or_false] at hx;rcases hx with rfl|rfl|rfl|rfl|rfl|rfl|rfl|rfl<;>constructor<;>assumption
theorem Mi {m:Nat} (hm:m<128) {a b c d e f g h:UInt8} (i:∀x∈[a,b,c,d,e,f,g,h],32<=x.toNat/\x.toNat<128) (hz:Fy (Lx a b c d e f g h) m=0):
  ∀x∈[a,b,c,d,e,f,g,h],x.toNat≠m:=by
 have em:m*72340172838076673=n8 m m m m m m m m:=by unfold n8;omega
 have e1:72340172838076673=n8 1 1 1 1 1 1 1 1:=by decide
 unfold Fy at hz;rw [em,e1] at hz;obtain⟨ma,mb,mc,md,me,mf,mg,mh⟩:=fH hm (i a (by simp)).2 (i b (by simp)).2 (i c (by simp)).2 (i d (by simp)).2 (i e (by simp)).2 (i f (by simp)).2 (i g (by simp)).2 (i h (by simp)).2 hz;intro x hx;simp only [List.mem_cons,List.not_mem_nil,or_false] at hx;rcases hx with rfl|rfl|rfl|rfl|rfl|rfl|rfl|rfl<;>assumption
section
variable {bd C E:Nat} {dc:Array Value} {fz:Nat×Nat}
theorem Jn (v:Value) (l r:Bs) (w:World) (hv:Es bd C E dc v l) (hn:Nl l r) (hD:w.heap[bd]?=some (.cells dc 5 fz)):
  Calls PP 42 #[v] w fun e w'=>∃v',e=.returned (.tuple #[v',.nilIface])/\Es bd C E dc v' r/\w'=w:=by
 have hC:=hv.C62;have d:=hv.le;have g:=hv.EC;cases hn with
 | eof=>
  obtain⟨ad,rfl,hs⟩:=hv.nil;refine Bf (L:=[(0,.slice ad 0 (C-E))]) Tryz.func42 Z Z Z ⟨Z,V⟩ ?_;(repeat first|refine Aa Z ?_|apply Ab|apply Ac|refine Ao Z (by first|omega|decide) ?_|apply Ad|apply Bl|apply Ai);exact Ak Z Z ⟨_,rfl,hv,rfl⟩
 | lf=>
  have a:=hv.cons;subst a;have hc:=hv.cell hD;refine Bf (L:=[(0,.slice (some ⟨bd,E-(r.length+1),none⟩) (r.length+1) (C-(E-(r.length+1))))]) Tryz.func42 Z Z Z ⟨Z,V⟩ ?_;simp only [Ya] at d;(repeat first|refine Aa Z ?_|apply Ab|apply Ac|refine Ao Z (by first|omega|decide) ?_|refine Aj Z (by first|omega|decide) ?_|refine Ax (i:=0) Z Z Z (by omega) Z ?_|refine Aw Z Z hc Z ?_|apply Ad|apply Ag|apply An|apply Af);refine Fw r.length 1 Z Z (Sf.mk _ _ _) Z (by simp;omega) (by omega) (fun _=>rfl) (fun ad' b=>?_);(repeat first|refine Aa Z ?_|apply Ab|apply Bl|apply Bv|apply Ai);exact Ak Z Z ⟨_,rfl,hv.tail b,rfl⟩
 | crlf=>
  have a:=hv.cons;subst a;have hc:=hv.cell hD;have f:=hv.at hD (i:=1) (c:=10) rfl;simp only [Ya] at d hc f hv ⊢;refine Bf (L:=[(0,.slice (some ⟨bd,E-(r.length+1+1),none⟩) (r.length+1+1) (C-(E-(r.length+1+1))))]) Tryz.func42 Z Z Z ⟨Z,V⟩ ?_;(repeat first|refine Aa Z ?_|apply Ab|apply Ac|refine Ao Z (by first|omega|decide) ?_|refine Aj Z (by first|omega|decide) ?_|refine Ax (i:=0) Z Z Z (by omega) Z ?_|refine Ax (i:=1) Z Z Z (by omega) Z ?_|refine Aw Z Z hc Z ?_|refine Aw Z Z f Z ?_|refine Au Z ?_|apply Ad|apply Ag|apply An|apply Af|refine Bc Z Z (by first|omega|decide) ?_);refine Fw r.length 2 Z Z (Sf.mk _ _ _) Z (by simp;omega) (by omega) (fun _=>rfl) (fun ad' b=>?_);(repeat first|refine Aa Z ?_|apply Ab|apply Bl|apply Bv|apply Ai);refine Ak Z Z ⟨_,rfl,?_,rfl⟩;have:=hv.drop 2 (by simp) (by simpa using b);simpa using this
theorem Kq (v:Value) (l r:Bs) (w:World) (hv:Es bd C E dc v (35::l)) (hn:Cm (35::l) r) (hD:w.heap[bd]?=some (.cells dc 5 fz)):
  Calls PP 41 #[v] w fun e w'=>∃v1 v2,e=.returned (.tuple #[v1,v2,.nilIface])/\Es bd C E dc v2 r/\Sm w w':=by
 have hC:=hv.C62;have aq:=hv.le;have ar:=hv.EC;have aa:=hv.val (by simp);generalize hl:35::l=l0 at *;have an:0<l0.length:=by rw [<-hl];simp
 have ah:Cm (l0.drop 1) r:=by subst hl;exact hn.plain (by decide)
 clear hn hl;subst aa;refine Bf (L:=[(0,.slice (some ⟨bd,E-l0.length,none⟩) l0.length (C-(E-l0.length)))]) Tryz.func41 Z Z Z ⟨Z,V⟩ ?_;repeat first|refine Aa Z ?_|apply Ab|apply Ac|refine Cr (x:=.block _ (.loop _)) (σ:=Nat) (fun j w'=>Sm w w'/\j<=l0.length/\l0.drop j=r) (fun j=>[(0,.slice (some ⟨bd,E-l0.length,none⟩) l0.length (C-(E-l0.length))),(5,.int .i64 (j:Int))]) ?_ ?_|apply Ag
 ·refine Bg (σ:=Nat) (I:=fun j w'=>Sm w w'/\j<=l0.length/\Cm (l0.drop j) r) (m:=fun j=>l0.length-j) (Lf:=fun j=>[(0,.slice (some ⟨bd,E-l0.length,none⟩) l0.length (C-(E-l0.length))),(5,.int .i64 (j:Int))]) 1 ⟨Sm.refl _,by omega,ah⟩ ⟨Z,Z,V⟩ ?_;rintro j w1 ⟨s,hj,p⟩;by_cases q:j<l0.length
  ·repeat first|refine Aa Z ?_|apply Ab|apply Ac|refine Ao Z (by first|omega|decide) ?_|refine Cr (x:=.block _ (.loop _)) (σ:=Nat) (fun i w'=>Sm w w'/\j<=i/\i<=l0.length/\Cm (l0.drop i) r) (fun j=>[(0,.slice (some ⟨bd,E-l0.length,none⟩) l0.length (C-(E-l0.length))),(5,.int .i64 (j:Int))]) ?_ ?_|apply Ad|apply Ag|apply An|apply Af
   ·refine Bg (σ:=Nat) (I:=fun i w'=>Sm w w'/\j<=i/\i<=l0.length/\Cm (l0.drop i) r) (m:=fun j=>l0.length-j) (Lf:=fun j=>[(0,.slice (some ⟨bd,E-l0.length,none⟩) l0.length (C-(E-l0.length))),(5,.int .i64 (j:Int))]) j ⟨s,Nat.le_refl _,hj,p⟩ ⟨Z,Z,V⟩ ?_;rintro i w2 ⟨d,u,hi,a⟩;by_cases h8:i+8<=l0.length
    ·obtain⟨x0,x1,x2,x3,x4,x5,x6,x7,t,ht,ai⟩:=Zl h8;have y:=hv.cells.drop i;rw [ht] at y;(repeat first|refine Aa Z ?_|apply Ab|apply Ac|refine Ao Z (by first|omega|decide) ?_|apply Ad|apply Ag|apply An|apply Af|refine Ay Z Z (by omega) Z ?_);refine Fw (l0.length-i) i Z Z (Sf.mk _ _ _) Z (by simp;omega) (by omega) (fun _=>rfl) (fun ad' aj=>?_);have ak:=aj.addr (by omega);subst ak;refine Ae Z Z Z (Na w2 (by omega) y (d.at hD)) ?_;rintro e w3 ⟨rfl,ab⟩;refine T2 Z Z ?_;have hx:=fM x0 x1 x2 x3 x4 x5 x6 x7;(repeat first|refine Aa Z ?_|apply Ab|apply Ac|apply Ad);refine Bo Z Z (Xa (b:=Pg) hx Ia _ _) Z ?_;(repeat (refine Aa Z ?_));refine Ae Z Z Z (Jy _ 32 hx (by omega) w3) ?_;rintro e w4 ⟨rfl,rfl⟩;refine T2 Z Z ?_;refine Bo Z Z (Ph (Nat.and_lt_two_pow _ Ia) (Jp _ _) _ _) Z ?_;(repeat (refine Aa Z ?_));refine Ae Z Z Z (Fl _ 127 hx (by omega) w4) ?_;rintro e w5 ⟨rfl,rfl⟩;refine T2 Z Z ?_;refine Bo Z Z (Ph (Nat.or_lt_two_pow (Nat.and_lt_two_pow _ Ia) (Jp _ _)) (Hb _ _) _ _) Z ?_;by_cases hz:Lx x0 x1 x2 x3 x4 x5 x6 x7 &&& Pg ||| Mn (Lx x0 x1 x2 x3 x4 x5 x6 x7) 32 ||| Fy (Lx x0 x1 x2 x3 x4 x5 x6 x7) 127=0
     ·obtain⟨al,am⟩:=My hz;have hf:=aX al;have hq:=Mi (m:=127) (by omega) hf am;rw [ht] at a;have step:∀{x:UInt8} {t:Bs},Cm (x::t) r->32<=x.toNat/\x.toNat<128->x.toNat≠127->Cm t r:=fun h h1 h2=>h.plain (.inl ⟨h1.1,by omega⟩);have f:=step (step (step (step (step (step (step (step a (hf x0 (by simp)) (hq x0 (by simp))) (hf x1 (by simp)) (hq x1 (by simp))) (hf x2 (by simp)) (hq x2 (by simp))) (hf x3 (by simp)) (hq x3 (by simp))) (hf x4 (by simp)) (hq x4 (by simp))) (hf x5 (by simp)) (hq x5 (by simp))) (hf x6 (by simp)) (hq x6 (by simp))) (hf x7 (by simp)) (hq x7 (by simp));rw [ai] at f;clear hq hf step y;generalize Lx x0 x1 x2 x3 x4 x5 x6 x7 &&& Pg ||| Mn (Lx x0 x1 x2 x3 x4 x5 x6 x7) 32 ||| Fy (Lx x0 x1 x2 x3 x4 x5 x6 x7) 127=z at hz ⊢;subst hz;(repeat first|refine Aa Z ?_|apply Ab|refine Aj Z (by first|omega|decide) ?_|apply Am|apply Aq|apply An|apply Bj|apply Af|refine Ay Z Z (by omega) Z ?_);refine Ap (i+8) ⟨d.trans ab,by omega,h8,f⟩ (by omega) ⟨Z,Z,V⟩
     ·generalize Lx x0 x1 x2 x3 x4 x5 x6 x7 &&& Pg ||| Mn (Lx x0 x1 x2 x3 x4 x5 x6 x7) 32 ||| Fy (Lx x0 x1 x2 x3 x4 x5 x6 x7) 127=z at hz ⊢;(repeat first|refine Aa Z ?_|apply Ab|refine Ao Z (by first|omega|decide) ?_|apply Cn|apply Ci|refine Kn Z ?_|apply Ba);refine Bh i ⟨d.trans ab,u,hi,a⟩ ⟨Z,Z,V⟩
    ·(repeat first|refine Aa Z ?_|apply Ab|apply Ac|refine Aj Z (by first|omega|decide) ?_|apply Ad|apply Cn|apply Ci|apply Ba|refine Ay Z Z (by omega) Z ?_);refine Bh i ⟨d,u,hi,a⟩ ⟨Z,Z,V⟩
   ·clear p hj q s;rintro i w2 ⟨d,u,hi,a⟩;by_cases q:i<l0.length
    ·have ac:=d.at hD;have hc:l0[i]?=some l0[i]:=Yd q;have g:l0.drop i=l0[i]::l0.drop (i+1):=List.drop_eq_getElem_cons q;rw [g] at a;have k:=fun {i:Nat} {c:UInt8} (h:l0[i]?=some c)=>hv.at ac h;generalize l0[i]=c at hc a g;by_cases ad:128<=c.toNat
     ·obtain⟨m,hm,f⟩:=a.run;have ao:=hm.pos ad;rw [<-g] at hm f;rw [List.drop_drop] at f;have ae:=hm.le;simp only [Yh] at ae;(repeat first|refine Aa Z ?_|apply Ab|apply Ac|refine Ao Z (by first|omega|decide) ?_|refine Aj Z (by first|omega|decide) ?_|refine Ax (i:=i) Z Z Z (by omega) Z ?_|refine Aw Z Z (k hc) Z ?_|apply Ad|apply An|apply Af);refine Ae Z Z Z (Hm _ l0 i m w2 hv hi hm ac) ?_;rintro e w3 ⟨rfl,rfl⟩;refine T2 Z Z ?_;(repeat first|refine Aa Z ?_|apply Ab|apply Ac|refine Bb Z (by first|with_reducible rfl|exact Bool.not_true) ?_|apply Ad|apply An|apply Cn|apply Ci|apply Af|apply Ba);refine Ap (i+m) ⟨d,by omega,f⟩ (by omega) ⟨Z,Z,V⟩
     ·by_cases hp:32<=c.toNat/\c.toNat<127
      ·obtain⟨au,av⟩:=hp;(repeat first|refine Aa Z ?_|apply Ab|apply Ac|refine Ao Z (by first|omega|decide) ?_|refine Aj Z (by first|omega|decide) ?_|refine Ax (i:=i) Z Z Z (by omega) Z ?_|refine Aw Z Z (k hc) Z ?_|refine Au Z ?_|apply Ad|apply Am|apply Ag|apply Aq|apply An|apply Bj|apply Af|refine Ay Z Z (by omega) Z ?_|refine Bc Z Z (by first|omega|decide) ?_);refine Ap (i+1) ⟨d,by omega,a.plain (by omega)⟩ (by omega) ⟨Z,Z,V⟩
      ·by_cases h9:c.toNat=9
       ·(repeat first|refine Aa Z ?_|apply Ab|apply Ac|refine Bb Z (by first|with_reducible rfl|exact Bool.not_true) ?_|refine Ao Z (by first|omega|decide) ?_|refine Aj Z (by first|omega|decide) ?_|refine Ax (i:=i) Z Z Z (by omega) Z ?_|refine Aw Z Z (k hc) Z ?_|refine Au Z ?_|apply Ad|apply Am|apply Ag|apply Aq|apply An|apply Bj|apply Af|refine Ay Z Z (by omega) Z ?_|refine Az Z Z (by first|omega|decide) ?_);refine Ap (i+1) ⟨d,by omega,a.plain (by omega)⟩ (by omega) ⟨Z,Z,V⟩
       ·rcases a.other (by omega) (by omega) with ⟨rfl,hr⟩|⟨t',rfl,ht,hr⟩
        ·(repeat first|refine Aa Z ?_|apply Ab|apply Ac|refine Bb Z (by first|with_reducible rfl|exact Bool.not_true) ?_|refine Ao Z (by first|omega|decide) ?_|refine Aj Z (by first|omega|decide) ?_|refine Ax (i:=i) Z Z Z (by omega) Z ?_|refine Aw Z Z (k hc) Z ?_|refine Au Z ?_|apply Ad|apply Ag|apply An|apply Af|refine Az Z Z (by first|omega|decide) ?_);refine Cp (fun _=>True) ?_;(repeat (refine Cg (by kernel_rfl) (by first|trivial|assumption) Z ?_));refine Dr i 0 (by kernel_rfl) trivial Z Z (Sf.mk _ _ _) Z (by simp) (by omega) (fun _=>rfl) (fun ad1 af=>?_);(repeat (refine Cg (by kernel_rfl) (by first|trivial|assumption) Z ?_));refine Dr (l0.length-i) i (by kernel_rfl) trivial Z Z (Sf.mk _ _ _) Z (by simp;omega) (by omega) (fun _=>rfl) (fun ad2 o=>?_);(repeat (refine Cg (by kernel_rfl) (by first|trivial|assumption) Z ?_));refine Co ?_;(repeat first|apply An|apply Bl|apply Bv|apply Ai);refine Ak Z Z ⟨_,_,rfl,?_,d.drew⟩;have:=hv.drop i (by omega) o;rw [hr,<-g];exact this
        ·have ag:l0[i+1]?=some 10:=by
          have:=Kh g 1;rw [this,ht];rfl
         have ap:i+1<l0.length:=(Yc.1 ag).1;(repeat first|refine Aa Z ?_|apply Ab|apply Ac|refine Bb Z (by first|with_reducible rfl|exact Bool.not_true) ?_|refine Ao Z (by first|omega|decide) ?_|refine Aj Z (by first|omega|decide) ?_|refine Ax (i:=i) Z Z Z (by omega) Z ?_|refine Ax (i:=i+1) Z Z (by omega) (by omega) Z ?_|refine Aw Z Z (k hc) Z ?_|refine Aw Z Z (k ag) Z ?_|refine Au Z ?_|apply Ad|apply Ag|apply An|apply Af|refine Ay Z Z (by omega) Z ?_|refine Bc Z Z (by first|omega|decide) ?_|refine Az Z Z (by first|omega|decide) ?_);refine Cp (fun _=>True) ?_;(repeat (refine Cg (by kernel_rfl) (by first|trivial|assumption) Z ?_));refine Dr i 0 (by kernel_rfl) trivial Z Z (Sf.mk _ _ _) Z (by simp) (by omega) (fun _=>rfl) (fun ad1 af=>?_);(repeat (refine Cg (by kernel_rfl) (by first|trivial|assumption) Z ?_));refine Dr (l0.length-i) i (by kernel_rfl) trivial Z Z (Sf.mk _ _ _) Z (by simp;omega) (by omega) (fun _=>rfl) (fun ad2 o=>?_);(repeat (refine Cg (by kernel_rfl) (by first|trivial|assumption) Z ?_));refine Co ?_;(repeat first|apply An|apply Bl|apply Bv|apply Ai);refine Ak Z Z ⟨_,_,rfl,?_,d.drew⟩;have:=hv.drop i (by omega) o;rw [hr,<-ht,<-g];exact this
    ·have:i=l0.length:=(by omega);subst this;(repeat first|refine Aa Z ?_|apply Ab|apply Ac|refine Ao Z (by first|omega|decide) ?_|apply Ad|apply Cn|apply Ci|refine Kn Z ?_|apply Ba);refine Bh l0.length ⟨d,Nat.le_refl _,?_⟩ ⟨Z,Z,V⟩;rw [List.drop_length] at a ⊢;cases a with
     | eof=>rfl
     | sign n h1 h2 _=>simp [Dm] at h1;omega
  ·have:j=l0.length:=(by omega);subst this;(repeat first|refine Aa Z ?_|apply Ab|apply Ac|refine Aj Z (by first|omega|decide) ?_|apply Ad|apply Cn|apply Ci|apply Ba);refine Bh l0.length ⟨s,Nat.le_refl _,?_⟩ ⟨Z,Z,V⟩;rw [List.drop_length] at p ⊢;cases p with
   | eof=>rfl
   | sign n h1 h2 _=>simp [Dm] at h1;omega
 ·rintro i w2 ⟨d,hi,hr⟩;(repeat (apply Ad));refine Cp (fun _=>True) ?_;(repeat (refine Cg (by kernel_rfl) (by first|trivial|assumption) Z ?_));refine Dr i 0 (by kernel_rfl) trivial Z Z (Sf.mk _ _ _) Z (by simp) (by omega) (fun _=>rfl) (fun ad1 af=>?_);(repeat (refine Cg (by kernel_rfl) (by first|trivial|assumption) Z ?_));refine Dr (l0.length-i) i (by kernel_rfl) trivial Z Z (Sf.mk _ _ _) Z (by simp;omega) (by omega) (fun _=>rfl) (fun ad2 o=>?_);(repeat (refine Cg (by kernel_rfl) (by first|trivial|assumption) Z ?_));refine Co ?_;(repeat first|apply An|apply Ai);refine Ak Z Z ⟨_,_,rfl,?_,d.drew⟩;have:=hv.drop i (by omega) o;rw [<-hr];exact this
end
end
section
def Rg (C E:Nat) (v:Value):Prop:=∃ad n cap,v=.slice ad n cap/\cap<=C/\(C-cap)+n<=E
def RB (w:World) (v:Value) (l:Bs):Prop:=∃ad cap,v=.slice ad l.length cap/\(l≠[]->∃b o dc fz,ad=some ⟨b,o,none⟩/\w.heap[b]?=some (.cells dc 5 fz)/\BA dc o l)
theorem RB.sm {w w' v l} (h:RB w v l) (hs:Sm w w'):RB w' v l:=by
 obtain⟨ad,cap,h1,h2⟩:=h;refine⟨ad,cap,h1,fun hl=>?_⟩;obtain⟨b,o,dc,fz,h3,h4,h5⟩:=h2 hl;exact⟨b,o,dc,fz,h3,hs.at h4,h5⟩
theorem RB.fm {B T w w' v l} (h:RB w v l) (hs:Fm B T w w') (hT:5∉T):RB w' v l:=by
 obtain⟨ad,cap,h1,h2⟩:=h;refine⟨ad,cap,h1,fun hl=>?_⟩;obtain⟨b,o,dc,fz,h3,h4,h5⟩:=h2 hl;exact⟨b,o,dc,fz,h3,hs.keep _ _ h4 hT,h5⟩
theorem BA.take {dc o l} (h:BA dc o l) (n:Nat):BA dc o (l.take n):=fun i c hc=>by
 rw [List.getElem?_take] at hc;split at hc
 ·exact h i c hc
 ·cases hc
section
variable {bd C E:Nat} {dc:Array Value} {fz:Nat×Nat}
theorem Es.sub {v l w} (h:Es bd C E dc v l) (hD:w.heap[bd]?=some (.cells dc 5 fz)) (i n:Nat) (hn:i+n<=l.length) {ad':Option Addr} (hs:Sf bd (E-l.length+i) (C-(E-l.length)-i) ad'):
  RB w (.slice ad' n (C-(E-l.length)-i)) ((l.drop i).take n):=by
 have a:((l.drop i).take n).length=n:=by simp;omega
 refine⟨ad',_,by rw [a],fun b=>?_⟩;have h0:0<n:=by
  rcases Nat.eq_zero_or_pos n with h|h
  ·subst h;simp at b
  ·exact h
 have:=h.le;have:=h.EC;exact⟨bd,_,dc,fz,hs.addr (by omega),hD,(h.cells.drop i).take n⟩
theorem Es.rg {v l} (h:Es bd C E dc v l) (i n:Nat) (hn:i+n<=l.length) (ad':Option Addr):Rg C E (.slice ad' n (C-(E-l.length)-i)):=by
 have:=h.le;have:=h.EC;exact⟨ad',n,_,rfl,by omega,by omega⟩
theorem Gn.closed {t o r:Bs} (h:Gn (39::t) o r):o=[]/\r=t:=by
 cases h with
 | close=>exact⟨rfl,rfl⟩
 | sign n h1 _ _ _=>simp at h1
theorem Gn.plain {c:UInt8} {t o r:Bs} (h:Gn (c::t) o r) (hc:32<=c.toNat/\c.toNat<127∨c.toNat=9) (a:c.toNat≠39):∃o',Gn t o' r/\o=c::o':=by
 cases h with
 | close=>simp at a
 | sign n h1 h2 h3 h4=>
  rw [Ig hc] at h2;subst h2;exact⟨_,h4,rfl⟩
theorem Gn.mb {c:UInt8} {t o r:Bs} (h:Gn (c::t) o r) (hc:128<=c.toNat):∃n o',Ku (c::t)=n/\0<n/\Gn ((c::t).drop n) o' r/\o=(c::t).take n++o':=by
 cases h with
 | close=>simp at hc
 | sign n h1 h2 h3 h4=>
  rw [Lh hc] at h2;exact⟨n,_,h2,h3,h4,rfl⟩
theorem Gn.other {c:UInt8} {t o r:Bs} (h:Gn (c::t) o r) (h1:¬(32<=c.toNat/\c.toNat<127∨c.toNat=9)):128<=c.toNat:=by
 cases h with
 | close=>simp at h1
 | sign n h3 h4 h5 h6=>
  apply Classical.byContradiction;intro hh;rw [Jc (by omega)] at h4;omega
theorem Gn.nil {o r:Bs} (h:Gn [] o r):False:=by
 cases h with
 | sign n h1 h2 h3=>simp [Dm] at h2;omega
theorem Gn.run {l o r:Bs} (h:Gn l o r):∃m o',MR l m/\Gn (l.drop m) o' r/\o=l.take m++o':=
 Si (G:=fun l o=>Gn l o r) (fun _ _ _ h a=>h.mb a) l.length l o Y h
theorem Mr {l0 out o':Bs} {i m:Nat} (h:out=(l0.take i).drop 1++((l0.drop i).take m++o')) (h1:1<=i) (hi:i<=l0.length):out=(l0.take (i+m)).drop 1++o':=by
 rw [h,<-List.append_assoc];congr 1;rw [List.take_add,List.drop_append,List.length_take];have:1-min i l0.length=0:=by omega
 rw [this,List.drop_zero]
theorem Yj {l0 out o' t:Bs} {c:UInt8} {i:Nat} (h:out=(l0.take i).drop 1++(c::o')) (h1:1<=i) (hi:i<=l0.length) (hd:l0.drop i=c::t):out=(l0.take (i+1)).drop 1++o':=
 Mr (m:=1) (by rw [hd];exact h) h1 hi
theorem Tl {l0 out o' t:Bs} {a b c d e f g k:UInt8} {i:Nat} (h:out=(l0.take i).drop 1++(a::b::c::d::e::f::g::k::o')) (h1:1<=i) (hi:i<=l0.length) (hd:l0.drop i=a::b::c::d::e::f::g::k::t):
  out=(l0.take (i+8)).drop 1++o':=
 Mr (m:=8) (by rw [hd];exact h) h1 hi
theorem Gn.eight {x0 x1 x2 x3 x4 x5 x6 x7:UInt8} {t o r:Bs} (h:Gn (x0::x1::x2::x3::x4::x5::x6::x7::t) o r)
  (hp:∀x∈[x0,x1,x2,x3,x4,x5,x6,x7],32<=x.toNat/\x.toNat<128) (hq:∀x∈[x0,x1,x2,x3,x4,x5,x6,x7],x.toNat≠127) (hs:∀x∈[x0,x1,x2,x3,x4,x5,x6,x7],x.toNat≠39):
  ∃o',Gn t o' r/\o=x0::x1::x2::x3::x4::x5::x6::x7::o':=by
 have step:∀{x:UInt8} {t o:Bs},Gn (x::t) o r->32<=x.toNat/\x.toNat<128->x.toNat≠127->x.toNat≠39->∃o',Gn t o' r/\o=x::o':=fun h h1 h2 h3=>h.plain (.inl ⟨h1.1,by omega⟩) h3;obtain⟨o0,g0,rfl⟩:=step h (hp x0 (by simp)) (hq x0 (by simp)) (hs x0 (by simp));obtain⟨o1,g1,rfl⟩:=step g0 (hp x1 (by simp)) (hq x1 (by simp)) (hs x1 (by simp));obtain⟨o2,g2,rfl⟩:=step g1 (hp x2 (by simp)) (hq x2 (by simp)) (hs x2 (by simp));obtain⟨o3,g3,rfl⟩:=step g2 (hp x3 (by simp)) (hq x3 (by simp)) (hs x3 (by simp));obtain⟨o4,g4,rfl⟩:=step g3 (hp x4 (by simp)) (hq x4 (by simp)) (hs x4 (by simp));obtain⟨o5,g5,rfl⟩:=step g4 (hp x5 (by simp)) (hq x5 (by simp)) (hs x5 (by simp));obtain⟨o6,g6,rfl⟩:=step g5 (hp x6 (by simp)) (hq x6 (by simp)) (hs x6 (by simp));obtain⟨o7,g7,rfl⟩:=step g6 (hp x7 (by simp)) (hq x7 (by simp)) (hs x7 (by simp));exact⟨o7,g7,rfl⟩
theorem Tp (p v:Value) (l out r:Bs) (w:World) (hv:Es bd C E dc v (39::l)) (hn:Gn l out r) (hD:w.heap[bd]?=some (.cells dc 5 fz)):
  Calls PP 119 #[p,v] w fun e w'=>∃v1 v2 v3,e=.returned (.tuple #[v1,v2,v3,.nilIface])/\Rg C E v1/\RB w' v2 out/\Es bd C E dc v3 r/\Sm w w':=by
 have hC:=hv.C62;have aw:=hv.le;have ax:=hv.EC;have ab:=hv.val (by simp);generalize hl:39::l=l0 at *;have au:0<l0.length:=by rw [<-hl];simp
 have ak:Gn (l0.drop 1) out r/\out=(l0.take 1).drop 1++out:=by subst hl;exact⟨hn,by simp⟩
 clear hn hl;subst ab;refine Bf (L:=[(0,p),(1,.slice (some ⟨bd,E-l0.length,none⟩) l0.length (C-(E-l0.length)))]) Tryz.func119 Z Z Z ⟨Z,Z,V⟩ ?_;repeat first|refine Aa Z ?_|apply Ab|apply Ac|apply Ag
 refine Bg (σ:=Nat) (I:=fun j w'=>Sm w w'/\1<=j/\j<=l0.length/\∃o',Gn (l0.drop j) o' r/\out=(l0.take j).drop 1++o') (m:=fun j=>l0.length-j) (Lf:=fun j=>[(1,.slice (some ⟨bd,E-l0.length,none⟩) l0.length (C-(E-l0.length))),(8,.int .i64 (j:Int))]) 1 ⟨Sm.refl _,Nat.le_refl _,by omega,_,ak⟩ ⟨Z,Z,V⟩ ?_;rintro j w1 ⟨ac,ay,hj,o⟩;repeat first|refine Cr (x:=.block _ (.loop _)) (σ:=Nat) (fun i w'=>Sm w w'/\j<=i/\i<=l0.length/\∃o',Gn (l0.drop i) o' r/\out=(l0.take i).drop 1++o') (fun j=>[(1,.slice (some ⟨bd,E-l0.length,none⟩) l0.length (C-(E-l0.length))),(8,.int .i64 (j:Int))]) ?_ ?_|apply Ag
 ·refine Bg (σ:=Nat) (I:=fun i w'=>Sm w w'/\j<=i/\i<=l0.length/\∃o',Gn (l0.drop i) o' r/\out=(l0.take i).drop 1++o') (m:=fun j=>l0.length-j) (Lf:=fun j=>[(1,.slice (some ⟨bd,E-l0.length,none⟩) l0.length (C-(E-l0.length))),(8,.int .i64 (j:Int))]) j ⟨ac,Nat.le_refl _,hj,o⟩ ⟨Z,Z,V⟩ ?_;clear o;rintro i w2 ⟨k,q,hi,o',a,d⟩;by_cases h8:i+8<=l0.length
  ·obtain⟨x0,x1,x2,x3,x4,x5,x6,x7,t,ht,al⟩:=Zl h8;have s:=hv.cells.drop i;rw [ht] at s;(repeat first|refine Aa Z ?_|apply Ab|apply Ac|refine Ao Z (by first|omega|decide) ?_|apply Ad|apply Ag|apply An|apply Af|refine Ay Z Z (by omega) Z ?_);refine Fw (l0.length-i) i Z Z (Sf.mk _ _ _) Z (by simp;omega) (by omega) (fun _=>rfl) (fun ad' am=>?_);have an:=am.addr (by omega);subst an;refine Ae Z Z Z (Na w2 (by omega) s (k.at hD)) ?_;rintro e w3 ⟨rfl,ad⟩;refine T2 Z Z ?_;have hx:=fM x0 x1 x2 x3 x4 x5 x6 x7;(repeat first|refine Aa Z ?_|apply Ab|apply Ac|apply Ad);refine Bo Z Z (Xa (b:=Pg) hx Ia _ _) Z ?_;(repeat (refine Aa Z ?_));refine Ae Z Z Z (Jy _ 32 hx (by omega) w3) ?_;rintro e w4 ⟨rfl,rfl⟩;refine T2 Z Z ?_;refine Bo Z Z (Ph (Nat.and_lt_two_pow _ Ia) (Jp _ _) _ _) Z ?_;(repeat (refine Aa Z ?_));refine Ae Z Z Z (Fl _ 39 hx (by omega) w4) ?_;rintro e w5 ⟨rfl,rfl⟩;refine T2 Z Z ?_;refine Bo Z Z (Ph (Nat.or_lt_two_pow (Nat.and_lt_two_pow _ Ia) (Jp _ _)) (Hb _ _) _ _) Z ?_;(repeat (refine Aa Z ?_));refine Ae Z Z Z (Fl _ 127 hx (by omega) w5) ?_;rintro e w6 ⟨rfl,rfl⟩;refine T2 Z Z ?_;refine Bo Z Z (Ph (Nat.or_lt_two_pow (Nat.or_lt_two_pow (Nat.and_lt_two_pow _ Ia) (Jp _ _)) (Hb _ _)) (Hb _ _) _ _) Z ?_;by_cases hz:Lx x0 x1 x2 x3 x4 x5 x6 x7 &&& Pg ||| Mn (Lx x0 x1 x2 x3 x4 x5 x6 x7) 32 ||| Fy (Lx x0 x1 x2 x3 x4 x5 x6 x7) 39 ||| Fy (Lx x0 x1 x2 x3 x4 x5 x6 x7) 127=0
   ·obtain⟨u,ao⟩:=My hz;obtain⟨u,ap⟩:=My u;have hf:=aX u;have hq:=Mi (m:=127) (by omega) hf ao;have ae:=Mi (m:=39) (by omega) hf ap;rw [ht] at a;obtain⟨o'',f,rfl⟩:=a.eight hf hq ae;have g:=Tl d (by omega) hi ht;rw [al] at f;clear hq hf ae s;generalize Lx x0 x1 x2 x3 x4 x5 x6 x7 &&& Pg ||| Mn (Lx x0 x1 x2 x3 x4 x5 x6 x7) 32 ||| Fy (Lx x0 x1 x2 x3 x4 x5 x6 x7) 39 ||| Fy (Lx x0 x1 x2 x3 x4 x5 x6 x7) 127=z at hz ⊢;subst hz;(repeat first|refine Aa Z ?_|apply Ab|refine Aj Z (by first|omega|decide) ?_|apply Am|apply Aq|apply An|apply Bj|apply Af|refine Ay Z Z (by omega) Z ?_);refine Ap (i+8) ⟨k.trans ad,by omega,h8,_,f,g⟩ (by omega) ⟨Z,Z,V⟩
   ·generalize Lx x0 x1 x2 x3 x4 x5 x6 x7 &&& Pg ||| Mn (Lx x0 x1 x2 x3 x4 x5 x6 x7) 32 ||| Fy (Lx x0 x1 x2 x3 x4 x5 x6 x7) 39 ||| Fy (Lx x0 x1 x2 x3 x4 x5 x6 x7) 127=z at hz ⊢;(repeat first|refine Aa Z ?_|apply Ab|refine Ao Z (by first|omega|decide) ?_|apply Cn|apply Ci|refine Kn Z ?_|apply Ba);refine Bh i ⟨k.trans ad,q,hi,_,a,d⟩ ⟨Z,Z,V⟩
  ·(repeat first|refine Aa Z ?_|apply Ab|apply Ac|refine Aj Z (by first|omega|decide) ?_|apply Ad|apply Cn|apply Ci|apply Ba|refine Ay Z Z (by omega) Z ?_);refine Bh i ⟨k,q,hi,_,a,d⟩ ⟨Z,Z,V⟩
 ·clear o hj ac;rintro i w2 ⟨k,q,hi,o',a,d⟩;by_cases af:i<l0.length
  ·have y:=k.at hD;have hc:l0[i]?=some l0[i]:=Yd af;have n:l0.drop i=l0[i]::l0.drop (i+1):=List.drop_eq_getElem_cons af;rw [n] at a;have aa:=fun {i:Nat} {c:UInt8} (h:l0[i]?=some c)=>hv.at y h;generalize l0[i]=c at hc a n;by_cases ag:128<=c.toNat
   ·obtain⟨m,o'',hm,f,rfl⟩:=a.run;have av:=hm.pos ag;rw [<-n] at hm f d;rw [List.drop_drop] at f;have ah:=hm.le;simp only [Yh] at ah;have g:=Mr d (by omega) hi;(repeat first|refine Aa Z ?_|apply Ab|apply Ac|refine Aj Z (by first|omega|decide) ?_|refine Ax (i:=i) Z Z Z (by omega) Z ?_|refine Aw Z Z (aa hc) Z ?_|refine Au Z ?_|apply Ad|apply Ag|apply An|apply Af|refine Bc Z Z (by first|omega|decide) ?_|refine Az Z Z (by first|omega|decide) ?_);refine Ae Z Z Z (Hm _ l0 i m w2 hv hi hm y) ?_;rintro e w3 ⟨rfl,rfl⟩;refine T2 Z Z ?_;(repeat first|refine Aa Z ?_|apply Ab|apply Ac|refine Bb Z (by first|with_reducible rfl|exact Bool.not_true) ?_|apply Bj|apply Af);refine Ap (i+m) ⟨k,by omega,by omega,_,f,g⟩ (by omega) ⟨Z,Z,V⟩
   ·by_cases ai:c.toNat=39
    ·have aj:c=39:=UInt8.toNat_inj.1 ai;subst aj;obtain⟨rfl,hr⟩:=a.closed;(repeat first|refine Aa Z ?_|apply Ab|apply Ac|refine Ao Z (by first|omega|decide) ?_|refine Aj Z (by first|omega|decide) ?_|refine Ax (i:=i) Z Z Z (by omega) Z ?_|refine Aw Z Z (aa hc) Z ?_|apply Ad|apply Ag|apply An|apply Af);refine Cp (fun _=>True) ?_;(repeat first|refine Cg (by kernel_rfl) (by first|trivial|assumption) Z ?_|refine Kv (by kernel_rfl) (by first|trivial|assumption) Z Z (by omega) Z ?_);refine Dr (i+1) 0 (by kernel_rfl) trivial Z Z (Sf.mk _ _ _) Z (by simp) (by omega) (fun _=>rfl) (fun ad1 az=>?_);(repeat (refine Cg (by kernel_rfl) (by first|trivial|assumption) Z ?_));refine Dr (i-1) 1 (by kernel_rfl) trivial Z Z (Sf.mk _ _ _) Z (by simp;omega) (by omega) (fun _=>rfl) (fun ad2 aq=>?_);(repeat first|refine Cg (by kernel_rfl) (by first|trivial|assumption) Z ?_|refine Kv (by kernel_rfl) (by first|trivial|assumption) Z Z (by omega) Z ?_);refine Dr (l0.length-(i+1)) (i+1) (by kernel_rfl) trivial Z Z (Sf.mk _ _ _) (by simp) (by simp;omega) (by omega) (fun _=>rfl) (fun ad3 ar=>?_);(repeat (refine Cg (by kernel_rfl) (by first|trivial|assumption) Z ?_));refine Co ?_;(repeat first|apply An|apply Bl|apply Bv|apply Ai);refine Ak Z Z ⟨_,_,_,rfl,hv.rg 0 (i+1) (by omega) _,?_,?_,k.drew⟩
     ·have:=hv.sub (w:=w2.drew) y 1 (i-1) (by omega) aq;have e:(l0.drop 1).take (i-1)=out:=(by rw [d,List.append_nil,List.drop_take]);rw [e] at this;exact this
     ·have:=hv.drop (i+1) (by omega) ar;rw [hr];exact this
    ·by_cases hp:32<=c.toNat/\c.toNat<127∨c.toNat=9
     ·obtain⟨o'',f,rfl⟩:=a.plain hp ai;have g:=Yj d (by omega) hi n;rcases hp with ⟨ba,bb⟩|hp;all_goals
       (repeat first|refine Aa Z ?_|apply Ab|apply Ac|refine Bb Z (by first|with_reducible rfl|exact Bool.not_true) ?_|refine Ao Z (by first|omega|decide) ?_|refine Aj Z (by first|omega|decide) ?_|refine Ax (i:=i) Z Z Z (by omega) Z ?_|refine Aw Z Z (aa hc) Z ?_|refine Au Z ?_|apply Ad|apply Am|apply Ag|apply Aq|apply An|apply Bj|apply Af|refine Ay Z Z (by omega) Z ?_|refine Bc Z Z (by first|omega|decide) ?_|refine Az Z Z (by first|omega|decide) ?_);refine Ap (i+1) ⟨k,by omega,by omega,_,f,g⟩ (by omega) ⟨Z,Z,V⟩
     ·exact absurd (a.other hp) (by omega)
  ·have:i=l0.length:=(by omega);subst this;rw [List.drop_length] at a;exact (a.nil).elim
end
end
section
theorem Xw (n:Nat):IntKind.u8.wrap (n:Int)=((n%256:Nat):Int):=by
 have e:IntKind.u8.wrap (n:Int)=(n:Int)%256:=by simp [IntKind.wrap,IntKind.bits,IntKind.signed]
 rw [e];omega
theorem nS (n t:Nat) (w:World):(binOp .and t (.int .u8 ((n%256:Nat):Int)) (.int .u8 63)).run PP w=.ok (.int .u8 ((n%64:Nat):Int)) w:=by
 have h:=and8 (a:=n%256) (b:=63) (by omega) (by omega) t w;rw [show n%256 &&& 63=n%64 by rw [show (63:Nat)=2^6-1 by rfl,Nat.and_two_pow_sub_one_eq_mod];omega] at h;exact h
theorem or_128 {n:Nat} (h:n<64):128 ||| n=128+n:=by
 have key:∀m:Fin 64,128 ||| m.val=128+m.val:=by decide
 exact key ⟨n,h⟩
theorem or_192 {n:Nat} (h:n<32):192 ||| n=192+n:=by
 have key:∀m:Fin 32,192 ||| m.val=192+m.val:=by decide
 exact key ⟨n,h⟩
theorem or_224 {n:Nat} (h:n<16):224 ||| n=224+n:=by
 have key:∀m:Fin 16,224 ||| m.val=224+m.val:=by decide
 exact key ⟨n,h⟩
theorem or_240 {n:Nat} (h:n<8):240 ||| n=240+n:=by
 have key:∀m:Fin 8,240 ||| m.val=240+m.val:=by decide
 exact key ⟨n,h⟩
theorem mD (n t:Nat) (w:World):(binOp .or t (.int .u8 128) (.int .u8 ((n%64:Nat):Int))).run PP w=.ok (.int .u8 ((128+n%64:Nat):Int)) w:=or8 (a:=128) (by omega) (by omega) (or_128 (by omega)) t w
theorem or192 {n:Nat} (h:n<32) (t:Nat) (w:World):(binOp .or t (.int .u8 192) (.int .u8 (n:Int))).run PP w=.ok (.int .u8 ((192+n:Nat):Int)) w:=or8 (a:=192) (by omega) (by omega) (or_192 h) t w
theorem or224 {n:Nat} (h:n<16) (t:Nat) (w:World):(binOp .or t (.int .u8 224) (.int .u8 (n:Int))).run PP w=.ok (.int .u8 ((224+n:Nat):Int)) w:=or8 (a:=224) (by omega) (by omega) (or_224 h) t w
theorem or240 {n:Nat} (h:n<8) (t:Nat) (w:World):(binOp .or t (.int .u8 240) (.int .u8 (n:Int))).run PP w=.ok (.int .u8 ((240+n:Nat):Int)) w:=or8 (a:=240) (by omega) (by omega) (or_240 h) t w
theorem Ie {n:Nat} (h:n<256):u8 (UInt8.ofNat n)=.int .u8 (n:Int):=by
 unfold u8;rw [UInt8.toNat_ofNat',Nat.mod_eq_of_lt (by omega)]
theorem lP {r:Nat} (h:r<128):(Ey r).map u8=[.int .u8 (r:Int)]:=by
 simp only [Ey,if_pos h,List.map_cons,List.map_nil,Ie (show r<256 by omega)]
theorem lO {r:Nat} (h:128<=r) (h2:r<2048):(Ey r).map u8=[.int .u8 ((192+r/2^6:Nat):Int),.int .u8 ((128+r%64:Nat):Int)]:=by
 simp only [Ey,if_neg (show ¬r<0x80 by omega),if_pos (show r<0x800 by omega),List.map_cons,List.map_nil];rw [Ie (by omega),Ie (by omega)]
theorem lN {r:Nat} (h:2048<=r) (h2:r<65536):(Ey r).map u8=[.int .u8 ((224+r/2^12:Nat):Int),.int .u8 ((128+r/2^6%64:Nat):Int),.int .u8 ((128+r%64:Nat):Int)]:=by
 simp only [Ey,if_neg (show ¬r<0x80 by omega),if_neg (show ¬r<0x800 by omega),if_pos (show r<0x10000 by omega),List.map_cons,List.map_nil];rw [Ie (by omega),Ie (by omega),Ie (by omega)]
theorem lM {r:Nat} (h:65536<=r) (h2:r<1114112):(Ey r).map u8=[.int .u8 ((240+r/2^18:Nat):Int),.int .u8 ((128+r/2^12%64:Nat):Int),.int .u8 ((128+r/2^6%64:Nat):Int),.int .u8 ((128+r%64:Nat):Int)]:=by
 simp only [Ey,if_neg (show ¬r<0x80 by omega),if_neg (show ¬r<0x800 by omega),if_neg (show ¬r<0x10000 by omega),List.map_cons,List.map_nil];rw [Ie (by omega),Ie (by omega),Ie (by omega),Ie (by omega)]
theorem cP (r:Nat):(Ey r).length<=4:=by unfold Ey;split<;>(try split)<;>(try split)<;>simp
attribute [local irreducible] binOp IntKind.wrap Sem.run
theorem Rr {l:List Value} {a:Array Value} (h:l=a.toList):a=l.toArray:=by subst h;simp
theorem Zy (B:Nat) (v:Value) (l:Bs) (r:Nat) (w:World) (hr:Jh r) (a:128<=r) (hO:Ob B w v l) (hm:l.length<=1000000000) (hB:B<=w.heap.size):
  Calls PP 149 #[v,.int .i32 (r:Int)] w fun e w'=>∃v',e=.returned v'/\Ob B w' v' (l++Ey r)/\Up B w w':=by
 obtain⟨b,c⟩:=hr;refine Bf (L:=[(0,v),(1,.int .i32 (r:Int))]) Tryz.func149 Z Z Z ⟨Z,Z,V⟩ ?_;rcases Nat.lt_or_ge r 2048 with h1|h1
 ·(repeat first|refine Aa Z ?_|apply Ab|apply Ac|refine Ao Z (by first|omega|decide) ?_|refine Bo Z Z (Yl r 6 (by omega) _ _) Z ?_|refine Zq Z Z (Xw r) Z ?_|refine Bo Z Z (nS _ _ _) Z ?_|refine Bo Z Z (mD _ _ _) Z ?_|refine Bo Z Z (or192 (by omega) _ _) Z ?_|apply Ag|refine Ff Z Z (Hl (by omega)) Z ?_|refine Ff Z Z (Ls (by omega)) Z ?_);refine Ec Z Z (bs2 _ _) Z (fun w1 hA=>?_);have hu:=hA.up hB;refine Kb (Ey r) Z Z (hO.upS (hA.up Y)) (by have:=congrArg List.length (lO a h1);simpa using this) hA.at_ (Rr (lO a h1)) (by omega) (Nat.le_trans hB hu.size) (fun v' w2 h4 h5=>⟨_,rfl,?_⟩);(repeat first|refine Aa Z ?_|apply Ab|apply Bv|apply Ai);exact Ak Z Z ⟨_,rfl,h4,hu.trans h5⟩
 ·have key:(2048<=r/\r<55296)∨(57343<r/\r<65536)∨65536<=r:=(by omega);rcases key with h2|h2|h2
  case inr.inr=>
   (repeat first|refine Aa Z ?_|apply Ab|apply Ac|refine Ao Z (by first|omega|decide) ?_|refine Aj Z (by first|omega|decide) ?_|refine Bo Z Z (Yl r 6 (by omega) _ _) Z ?_|refine Bo Z Z (Yl r 12 (by omega) _ _) Z ?_|refine Bo Z Z (Yl r 18 (by omega) _ _) Z ?_|refine Bo Z Z (nS _ _ _) Z ?_|refine Bo Z Z (mD _ _ _) Z ?_|refine Bo Z Z (or240 (by omega) _ _) Z ?_|refine Zq Z Z (Xw r) Z ?_|refine Zq Z Z (Xw (r/2^6)) Z ?_|refine Zq Z Z (Xw (r/2^12)) Z ?_|refine Au Z ?_|apply Ad|apply Am|apply Ag|refine Bc Z Z (by first|omega|decide) ?_|refine Ff Z Z (Hl (by omega)) Z ?_|refine Ff Z Z (Ls (by omega)) Z ?_);refine Ec Z Z (bs4 _ _ _ _) Z (fun w1 hA=>?_);have hu:=hA.up hB;refine Kb (Ey r) Z Z (hO.upS (hA.up Y)) (by have:=congrArg List.length (lM h2 (by omega));simpa using this) hA.at_ (Rr (lM h2 (by omega))) (by omega) (Nat.le_trans hB hu.size) (fun v' w2 h4 h5=>⟨_,rfl,?_⟩);(repeat first|refine Aa Z ?_|apply Ab|apply Bv|apply Ai);exact Ak Z Z ⟨_,rfl,h4,hu.trans h5⟩
  all_goals
   (repeat first|refine Aa Z ?_|apply Ab|apply Ac|refine Ao Z (by first|omega|decide) ?_|refine Aj Z (by first|omega|decide) ?_|refine Bo Z Z (Yl r 6 (by omega) _ _) Z ?_|refine Bo Z Z (Yl r 12 (by omega) _ _) Z ?_|refine Bo Z Z (nS _ _ _) Z ?_|refine Bo Z Z (mD _ _ _) Z ?_|refine Bo Z Z (or224 (by omega) _ _) Z ?_|refine Zq Z Z (Xw r) Z ?_|refine Zq Z Z (Xw (r/2^6)) Z ?_|refine Au Z ?_|apply Ad|apply Am|apply Ag|apply An|apply Af|refine Bc Z Z (by first|omega|decide) ?_|refine Ff Z Z (Hl (by omega)) Z ?_|refine Ff Z Z (Ls (by omega)) Z ?_);refine Ec Z Z (bs3 _ _ _) Z (fun w1 hA=>?_);have hu:=hA.up hB;refine Kb (Ey r) Z Z (hO.upS (hA.up Y)) (by have:=congrArg List.length (lN (r:=r) (by omega) (by omega));simpa using this) hA.at_ (Rr (lN (by omega) (by omega))) (by omega) (Nat.le_trans hB hu.size) (fun v' w2 h4 h5=>⟨_,rfl,?_⟩);(repeat first|refine Aa Z ?_|apply Ab|apply Bv|apply Ai);exact Ak Z Z ⟨_,rfl,h4,hu.trans h5⟩
theorem lU (B:Nat) (v:Value) (l:Bs) (r:Nat) (w:World) (hr:Jh r) (hO:Ob B w v l) (hm:l.length<=1000000000) (hB:B<=w.heap.size):
  Calls PP 148 #[v,.int .i32 (r:Int)] w fun e w'=>∃v',e=.returned v'/\Ob B w' v' (l++Ey r)/\Up B w w':=by
 have a:=hr;obtain⟨b,c⟩:=a;refine Bf (L:=[(0,v),(1,.int .i32 (r:Int))]) Tryz.func148 Z Z Z ⟨Z,Z,V⟩ ?_;rcases Nat.lt_or_ge r 128 with h1|h1
 ·(repeat first|refine Aa Z ?_|apply Ab|apply Ac|refine Ao Z (by first|omega|decide) ?_|apply Ad|refine Ff Z Z (Hl (by omega)) Z ?_|refine Ff Z Z (Ls (by omega)) Z ?_);refine Ec Z Z (bs1 _) Z (fun w1 hA=>?_);have hu:=hA.up hB;refine Kb (Ey r) Z Z (hO.upS (hA.up Y)) (by have:=congrArg List.length (lP h1);simpa using this) hA.at_ (Rr (lP h1)) (by omega) (Nat.le_trans hB hu.size) (fun v' w2 h4 h5=>⟨_,rfl,?_⟩);(repeat first|refine Aa Z ?_|apply Ab|apply Bl|apply Ai);exact Ak Z Z ⟨_,rfl,h4,hu.trans h5⟩
 ·(repeat first|refine Aa Z ?_|apply Ab|apply Ac|refine Aj Z (by first|omega|decide) ?_|apply Ad|apply An|apply Af|refine Ff Z Z (Hl (by omega)) Z ?_);refine Ae Z Z Z (Zy B v l r w hr h1 hO hm hB) ?_;rintro e w1 ⟨v',rfl,h4,h5⟩;refine T2 Z Z ?_;(repeat first|refine Aa Z ?_|apply Ab|apply Ai);exact Ak Z Z ⟨_,rfl,h4,h5⟩
end
end Go.Proofs.YtaccphdkapmdhaaGreat
