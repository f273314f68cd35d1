/- The parser reads numbers, dates and strings as the grammar says. No condition. -/
import Derived.Test.YtaccphdkapmdhaaGreatR14
namespace Go.Proofs.YtaccphdkapmdhaaGreat
set_option maxRecDepth 100000
set_option maxHeartbeats 64000000
set_option linter.all false
section
attribute [local irreducible] binOp IntKind.wrap Sem.run
section
variable {bd C E:Nat} {dc:Array Value} {fz:Nat×Nat}
theorem dE (v:Value) (l:Bs) (w:World) (hv:Es bd C E dc v l) (hE:E<=100000000) (hD:w.heap[bd]?=some (.cells dc 5 fz)):
  Calls PP 146 #[v] w fun e w'=>∃m:Int,e=.returned (.int .i64 m)/\(m=-1∨∃k:Nat,m=(k:Int)/\k<l.length/\((pk l k).toNat=34∨(pk l k).toNat=92))/\w'=w:=by
 have f:=hv.le;have g:=hv.EC;obtain⟨ad,rfl,hs⟩:=hv.ex;refine Bf (L:=[(0,.slice ad l.length (C-(E-l.length)))]) Tryz.func146 Z Z Z ⟨Z,V⟩ ?_;repeat first|refine Aa Z ?_|apply Ab|apply Ac|apply Ad|apply Ag
 refine Bg (σ:=Nat) (I:=fun i w'=>w'=w/\i<=l.length) (m:=fun i=>l.length-i)
  (Lf:=fun i=>[(5,.slice ad l.length (C-(E-l.length))),(6,.int .i64 (l.length:Int)),(7,.int .i64 (i:Int))]) 0 ⟨rfl,Nat.zero_le _⟩ ⟨Z,Z,Z,V⟩ ?_
 rintro i w1 ⟨rfl,hi⟩;by_cases a:i<l.length
 ·have b:=hs.addr (by omega);subst b;have ki:=hv.pk hD a;by_cases c:(pk l i).toNat=34
  ·(repeat first|refine Aa Z ?_|apply Ab|apply Ac|refine Bn Z (by first|with_reducible rfl|exact Bool.not_false) ?_|refine Ao Z (by first|omega|decide) ?_|refine Ax (i:=i) Z Z Z a Z ?_|refine Aw Z Z ki Z ?_|refine Au Z ?_|apply Ad|apply Ag|apply An|apply Bl|apply Bv|apply Af|apply Ai|refine Bc Z Z (by first|omega|decide) ?_);exact Ak Z Z ⟨_,rfl,.inr ⟨i,rfl,a,.inl c⟩,rfl⟩
  ·by_cases d:(pk l i).toNat=92
   ·(repeat first|refine Aa Z ?_|apply Ab|apply Ac|refine Ao Z (by first|omega|decide) ?_|refine Ax (i:=i) Z Z Z a Z ?_|refine Aw Z Z ki Z ?_|refine Au Z ?_|apply Ad|apply Ag|apply An|apply Bl|apply Bv|apply Af|apply Ai|refine Az Z Z (by first|omega|decide) ?_);exact Ak Z Z ⟨_,rfl,.inr ⟨i,rfl,a,.inr d⟩,rfl⟩
   ·(repeat first|refine Aa Z ?_|apply Ab|apply Ac|refine Ao Z (by first|omega|decide) ?_|refine Aj Z (by first|omega|decide) ?_|refine Ax (i:=i) Z Z Z a Z ?_|refine Aw Z Z ki Z ?_|refine Au Z ?_|apply Ad|apply Am|apply Ag|apply Aq|apply An|apply Bj|apply Af|refine Ay Z Z (by omega) Z ?_|refine Az Z Z (by first|omega|decide) ?_);exact Ap (i+1) ⟨rfl,by omega⟩ (by omega) ⟨Z,Z,Z,V⟩
 ·(repeat first|refine Aa Z ?_|apply Ab|apply Ac|refine Aj Z (by first|omega|decide) ?_|apply Ad|apply An|apply Cn|apply Ci|apply Ba|apply Ai);exact Ak Z Z ⟨_,rfl,.inl rfl,rfl⟩
theorem mR (v:Value) (l:Bs) (n:Nat) (w:World) (hv:Es bd C E dc v l) (hE:E<=100000000) (h0:0<l.length) (hn:n<=l.length) (hD:w.heap[bd]?=some (.cells dc 5 fz)):
  Calls PP 138 #[v,.int .i64 (n:Int)] w fun e w'=>∃m:Int,e=.returned (.int .i64 m)/\(m=-1∨((n:Int)<=m/\m<l.length))/\w'=w:=by
 have o:=hv.le;have p:=hv.EC;have c:=hv.val h0;subst c;refine Bf (L:=[(0,.slice (some ⟨bd,E-l.length,none⟩) l.length (C-(E-l.length))),(1,.int .i64 (n:Int))]) Tryz.func138 Z Z Z ⟨Z,Z,V⟩ ?_;repeat first|refine Aa Z ?_|apply Ab|apply Ac|apply Ag
 refine Bg (σ:=Nat) (I:=fun i w'=>w'=w/\n<=i/\i<=l.length) (m:=fun i=>l.length-i)
  (Lf:=fun i=>[(0,.slice (some ⟨bd,E-l.length,none⟩) l.length (C-(E-l.length))),(1,.int .i64 (i:Int))]) n ⟨rfl,Nat.le_refl _,hn⟩ ⟨Z,Z,V⟩ ?_
 rintro i w1 ⟨rfl,q,hi⟩;repeat first|refine Aa Z ?_|apply Ac|apply Ag
 refine Fw (l.length-i) i Z Z (Sf.mk _ _ _) Z (by simp;omega) (by omega) (fun _=>rfl) (fun ad hs=>?_);skip;refine Ae Z Z Z (dE _ (l.drop i) w1 (hv.drop i hi hs) hE hD) ?_;rintro e w2 ⟨m,rfl,hm,rfl⟩;refine T2 Z Z ?_;rcases hm with rfl|⟨k,rfl,hk,hc⟩
 ·(repeat first|refine Aa Z ?_|apply Ab|apply Ac|refine Ao Z (by first|omega|decide) ?_|apply Ad|apply Bl|apply Bv|apply Ai);exact Ak Z Z ⟨_,rfl,.inl rfl,rfl⟩
 ·rw [Yh] at hk;rw [Lu] at hc;have a:i+k<l.length:=(by omega);have ki:=hv.pk hD a;by_cases r:(pk l (i+k)).toNat=92
  ·by_cases h:i+k+2<=l.length
   ·(repeat first|refine Aa Z ?_|apply Ab|apply Ac|refine Ao Z (by first|omega|decide) ?_|refine Aj Z (by first|omega|decide) ?_|refine Ax (i:=i+k) Z Z Z a Z ?_|refine Aw Z Z ki Z ?_|apply Ad|apply An|apply Cn|apply Ci|apply Af|apply Ba|refine Ay Z Z (by omega) Z ?_);exact Ap (i+k+2) ⟨rfl,by omega,by omega⟩ (by omega) ⟨Z,Z,V⟩
   ·(repeat first|refine Aa Z ?_|apply Ab|apply Ac|refine Ao Z (by first|omega|decide) ?_|refine Aj Z (by first|omega|decide) ?_|refine Ax (i:=i+k) Z Z Z a Z ?_|refine Aw Z Z ki Z ?_|apply Ad|apply An|apply Bl|apply Bv|apply Af|apply Ai|refine Ay Z Z (by omega) Z ?_);exact Ak Z Z ⟨_,rfl,.inl rfl,rfl⟩
  ·have d:(pk l (i+k)).toNat=34:=(by omega);repeat first|refine Aa Z ?_|apply Ab|apply Ac|refine Aj Z (by first|omega|decide) ?_|refine Ax (i:=i+k) Z Z Z a Z ?_|refine Aw Z Z ki Z ?_|refine Cr (x:=.block 2 _) (σ:=Nat) (fun j w'=>w'=w2/\i+k<j/\j<=l.length) (fun j=>[(0,.slice (some ⟨bd,E-l.length,none⟩) l.length (C-(E-l.length))),(1,.int .i64 ((i+k:Nat):Int)),(5,.int .i64 (j:Int))]) ?_ ?_|apply Ad|apply Ag|apply An|apply Af|refine Ay Z Z (by omega) Z ?_
   ·refine Bg (σ:=Nat) (I:=fun j w'=>w'=w2/\i+k<=j/\j<=l.length) (m:=fun j=>l.length-j)
     (Lf:=fun j=>[(0,.slice (some ⟨bd,E-l.length,none⟩) l.length (C-(E-l.length))),(1,.int .i64 ((i+k:Nat):Int)),(5,.int .i64 (j:Int))]) (i+k) ⟨rfl,Nat.le_refl _,by omega⟩ ⟨Z,Z,Z,V⟩ ?_
    rintro j w3 ⟨rfl,f,g⟩;by_cases b:j<l.length
    ·have kj:=hv.pk hD b;by_cases hq:(pk l j).toNat=34
     ·(repeat first|refine Aa Z ?_|apply Ab|apply Ac|refine Ao Z (by first|omega|decide) ?_|refine Ax (i:=j) Z Z Z b Z ?_|refine Aw Z Z kj Z ?_|refine Au Z ?_|apply Ad|apply Am|apply Ag|apply Aq|apply An|apply Bj|apply Af|refine Ay Z Z (by omega) Z ?_|refine Bc Z Z (by first|omega|decide) ?_);exact Ap (j+1) ⟨rfl,by omega,by omega⟩ (by omega) ⟨Z,Z,Z,V⟩
     ·have s:j≠i+k:=fun e=>hq (by rw [e];exact d);(repeat first|refine Aa Z ?_|apply Ab|apply Ac|refine Aj Z (by first|omega|decide) ?_|refine Ax (i:=j) Z Z Z b Z ?_|refine Aw Z Z kj Z ?_|refine Au Z ?_|apply Ad|apply Cn|apply Ci|apply Ba|refine Bc Z Z (by first|omega|decide) ?_);exact Bh j ⟨rfl,by omega,by omega⟩ ⟨Z,Z,Z,V⟩
    ·(repeat first|refine Aa Z ?_|apply Ab|apply Ac|refine Bb Z (by first|with_reducible rfl|exact Bool.not_true) ?_|refine Au Z ?_|apply Ad|apply Cn|apply Ci|apply Ba|refine Az Z Z (by first|omega|decide) ?_);exact Bh j ⟨rfl,by omega,by omega⟩ ⟨Z,Z,Z,V⟩
   ·rintro j w3 ⟨rfl,f,g⟩;by_cases h3:i+k+3<=j
    ·(repeat first|refine Aa Z ?_|apply Ab|apply Ac|refine Ao Z (by first|omega|decide) ?_|apply Ad|apply Bl|apply Bv|apply Ai|refine Fs Z Z (by omega) Z ?_);exact Ak Z Z ⟨_,rfl,.inr ⟨by omega,by omega⟩,rfl⟩
    ·(repeat first|refine Aa Z ?_|apply Ab|apply Ac|refine Aj Z (by first|omega|decide) ?_|apply Ad|apply Am|apply Aq|apply An|apply Bj|apply Af|refine Fs Z Z (by omega) Z ?_);exact Ap j ⟨rfl,by omega,by omega⟩ (by omega) ⟨Z,Z,V⟩
end
end
section
theorem Eu.q {t o r:Bs} (h:Eu (34::t) o r):(3<=Cb 34 (34::t)/\Cb 34 (34::t)<=5/\o=(34::t).take (Cb 34 (34::t)-3)/\r=(34::t).drop (Cb 34 (34::t)))∨
  (0<Cb 34 (34::t)/\Cb 34 (34::t)<3/\∃o',Eu ((34::t).drop (Cb 34 (34::t))) o' r/\o=(34::t).take (Cb 34 (34::t))++o'):=by
 generalize hl:(34:UInt8)::t=l at h;cases h with
 | close n h1 h2 h3=>
  subst h1;exact .inl ⟨h2,h3,(Kj l _ (by omega)).symm,rfl⟩
 | quote n h1 h2 h3 h4=>
  subst h1;exact .inr ⟨h2,h3,_,h4,by rw [Kj l _ Y]⟩
 | lf _=>simp at hl
 | crlf _=>simp at hl
 | cont _ _ _=>simp at hl
 | esc _ _ _ _=>simp at hl
 | sign n h1 _ _ _=>rw [<-hl] at h1;simp at h1
theorem Eu.stroke {t o r:Bs} (h:Eu (92::t) o r):(∃b' b'',(Bd t=10::b'∨Bd t=13::10::b')/\Qr b' b''/\Eu b'' o r)∨(∃u b' o',Vc t u b'/\Eu b' o' r/\o=u++o'):=by
 generalize hl:(92:UInt8)::t=l at h;cases h with
 | close n h1 h2 h3=>rw [<-hl,El (by decide)] at h1;omega
 | quote n h1 h2 h3 h4=>rw [<-hl,El (by decide)] at h1;omega
 | lf _=>simp at hl
 | crlf _=>simp at hl
 | cont h1 h2 h3=>
  simp only [List.cons.injEq,true_and] at hl;subst hl;exact .inl ⟨_,_,h1,h2,h3⟩
 | esc _ _ h1 h2=>
  simp only [List.cons.injEq,true_and] at hl;subst hl;exact .inr ⟨_,_,_,h1,h2,rfl⟩
 | sign n _ h1 _ _=>rw [<-hl] at h1;simp at h1
theorem Eu.nlf {t o r:Bs} (h:Eu (10::t) o r):∃o',Eu t o' r/\o=10::o':=by
 generalize hl:(10:UInt8)::t=l at h;cases h with
 | close n h1 h2 h3=>rw [<-hl,Cb,if_neg (by decide)] at h1;omega
 | quote n h1 h2 h3 h4=>rw [<-hl,Cb,if_neg (by decide)] at h1;omega
 | lf h=>
  simp only [List.cons.injEq,true_and] at hl;subst hl;exact⟨_,h,rfl⟩
 | crlf _=>simp at hl
 | cont _ _ _=>simp at hl
 | esc _ _ _ _=>simp at hl
 | sign n _ h1 h2 h3 _=>
  rw [<-hl,Lt (.inl rfl)] at h2;omega
theorem Eu.ncr {t o r:Bs} (h:Eu (13::t) o r):∃t' o',t=10::t'/\Eu t' o' r/\o=13::10::o':=by
 generalize hl:(13:UInt8)::t=l at h;cases h with
 | close n h1 h2 h3=>rw [<-hl,Cb,if_neg (by decide)] at h1;omega
 | quote n h1 h2 h3 h4=>rw [<-hl,Cb,if_neg (by decide)] at h1;omega
 | lf h=>simp at hl
 | crlf h=>
  simp only [List.cons.injEq,true_and] at hl;exact⟨_,_,hl,h,rfl⟩
 | cont _ _ _=>simp at hl
 | esc _ _ _ _=>simp at hl
 | sign n _ h1 h2 h3 _=>
  rw [<-hl,Lt (.inr rfl)] at h2;omega
theorem Eu.plain {c:UInt8} {t o r:Bs} (h:Eu (c::t) o r) (hc:32<=c.toNat/\c.toNat<127∨c.toNat=9) (d:c.toNat≠34) (a:c.toNat≠92):∃o',Eu t o' r/\o=c::o':=by
 have b:c≠34:=fun e=>d (by rw [e];rfl);generalize hl:c::t=l at h;cases h with
 | close n h1 h2 h3=>rw [<-hl,El b] at h1;omega
 | quote n h1 h2 h3 h4=>rw [<-hl,El b] at h1;omega
 | lf h=>simp only [List.cons.injEq] at hl;rw [hl.1] at hc;simp at hc
 | crlf h=>simp only [List.cons.injEq] at hl;rw [hl.1] at hc;simp at hc
 | cont _ _ _=>simp only [List.cons.injEq] at hl;rw [hl.1] at a;simp at a
 | esc _ _ _ _=>simp only [List.cons.injEq] at hl;rw [hl.1] at a;simp at a
 | sign n _ h1 h2 h3 h4=>
  subst hl;rw [Ig hc] at h2;subst h2;exact⟨_,h4,rfl⟩
theorem Eu.mb {c:UInt8} {t o r:Bs} (h:Eu (c::t) o r) (hc:128<=c.toNat):∃n o',Ku (c::t)=n/\0<n/\Eu ((c::t).drop n) o' r/\o=(c::t).take n++o':=by
 have a:c≠34:=fun e=>by rw [e] at hc;simp at hc
 generalize hl:c::t=l at h;cases h with
 | close n h1 h2 h3=>rw [<-hl,El a] at h1;omega
 | quote n h1 h2 h3 h4=>rw [<-hl,El a] at h1;omega
 | lf h=>simp only [List.cons.injEq] at hl;rw [hl.1] at hc;simp at hc
 | crlf h=>simp only [List.cons.injEq] at hl;rw [hl.1] at hc;simp at hc
 | cont _ _ _=>simp only [List.cons.injEq] at hl;rw [hl.1] at hc;simp at hc
 | esc _ _ _ _=>simp only [List.cons.injEq] at hl;rw [hl.1] at hc;simp at hc
 | sign n _ h1 h2 h3 h4=>
  subst hl;rw [Lh hc] at h2;exact⟨n,_,h2,h3,h4,rfl⟩
theorem Eu.other {c:UInt8} {t o r:Bs} (h:Eu (c::t) o r):c.toNat=34∨c.toNat=92∨c.toNat=10∨c.toNat=13∨(c.toNat≠34/\c.toNat≠92/\(32<=c.toNat/\c.toNat<127∨c.toNat=9))∨128<=c.toNat:=by
 apply Classical.byContradiction;intro hh;have a:c≠34:=fun e=>by rw [e] at hh;simp at hh
 generalize hl:c::t=l at h;cases h with
 | close n h1 h2 h3=>rw [<-hl,El a] at h1;omega
 | quote n h1 h2 h3 h4=>rw [<-hl,El a] at h1;omega
 | lf h=>simp only [List.cons.injEq] at hl;rw [hl.1] at hh;simp at hh
 | crlf h=>simp only [List.cons.injEq] at hl;rw [hl.1] at hh;simp at hh
 | cont _ _ _=>simp only [List.cons.injEq] at hl;rw [hl.1] at hh;simp at hh
 | esc _ _ _ _=>simp only [List.cons.injEq] at hl;rw [hl.1] at hh;simp at hh
 | sign n _ h1 h2 h3 h4=>
  subst hl;rw [Jc (by omega)] at h2;omega
theorem Eu.nil {o r:Bs} (h:Eu [] o r):False:=by
 generalize hl:([]:Bs)=l at h;cases h with
 | close n h1 h2 h3=>rw [<-hl] at h1;simp [Cb] at h1;omega
 | quote n h1 h2 h3 h4=>rw [<-hl] at h1;simp [Cb] at h1;omega
 | lf h=>cases hl
 | crlf h=>cases hl
 | cont _ _ _=>cases hl
 | esc _ _ _ _=>cases hl
 | sign n _ h1 h2 h3 h4=>rw [<-hl] at h2;simp [Dm] at h2;omega
theorem Eu.run {l o r:Bs} (h:Eu l o r):∃m o',MR l m/\Eu (l.drop m) o' r/\o=l.take m++o':=
 Si (G:=fun l o=>Eu l o r) (fun _ _ _ h a=>h.mb a) l.length l o Y h
theorem Vc.first {t u b':Bs} (h:Vc t u b'):∃c t',t=c::t'/\c.toNat≠32/\c.toNat≠9/\c.toNat≠10/\c.toNat≠13:=by
 cases h with
 | @ch c x r h=>
  refine⟨c,_,rfl,?_⟩;refine⟨fun e=>?_,fun e=>?_,fun e=>?_,fun e=>?_⟩
  ·rw [show c=32 from UInt8.toNat_inj.1 e] at h;simp [Rh] at h
  ·rw [show c=9 from UInt8.toNat_inj.1 e] at h;simp [Rh] at h
  ·rw [show c=10 from UInt8.toNat_inj.1 e] at h;simp [Rh] at h
  ·rw [show c=13 from UInt8.toNat_inj.1 e] at h;simp [Rh] at h
 | u _ _ _=>exact⟨117,_,rfl,by decide,by decide,by decide,by decide⟩
 | U _ _ _=>exact⟨85,_,rfl,by decide,by decide,by decide,by decide⟩
theorem fO {c:UInt8}:Ji c=true↔c.toNat=32∨c.toNat=9:=by
 simp only [Ji,decide_eq_true_eq]
theorem Qr.blank {c:UInt8} {x r:Bs} (hc:c.toNat=32∨c.toNat=9) (h:Qr (c::x) r):Qr x r:=by
 have e:Bd (c::x)=Bd x:=by rw [Bd,if_pos (fO.2 hc)]
 generalize hl:c::x=l at h;cases h with
 | stop h1 h2=>subst hl;rw [e] at h1 h2 ⊢;exact .stop h1 h2
 | lf h1 h2=>subst hl;rw [e] at h1;exact .lf h1 h2
 | crlf h1 h2=>subst hl;rw [e] at h1;exact .crlf h1 h2
theorem Mh {c:UInt8} {x:Bs} (h:¬(c.toNat=32∨c.toNat=9)):Bd (c::x)=c::x:=by rw [Bd,if_neg (fun e=>h (fO.1 e))]
theorem Qr.nl {x r:Bs} (h:Qr (10::x) r):Qr x r:=by
 have e:Bd (10::x)=10::x:=Mh (by decide);generalize hl:(10:UInt8)::x=l at h;cases h with
 | stop h1 h2=>subst hl;exact absurd e (h1 x)
 | lf h1 h2=>
  subst hl;rw [e] at h1;simp only [List.cons.injEq,true_and] at h1;subst h1;exact h2
 | crlf h1 h2=>subst hl;rw [e] at h1;simp at h1
theorem Qr.cr {x r:Bs} (h:Qr (13::x) r):(∃t,x=10::t/\Qr t r)∨((∀t,x≠10::t)/\r=13::x):=by
 have e:Bd (13::x)=13::x:=Mh (by decide);generalize hl:(13:UInt8)::x=l at h;cases h with
 | stop h1 h2=>
  subst hl;rw [e];exact .inr ⟨fun t ht=>h2 t (by rw [e,ht]),rfl⟩
 | lf h1 h2=>subst hl;rw [e] at h1;simp at h1
 | crlf h1 h2=>
  subst hl;rw [e] at h1;simp only [List.cons.injEq,true_and] at h1;exact .inl ⟨_,h1,h2⟩
theorem Qr.end_ {c:UInt8} {x r:Bs} (hc:c.toNat≠32/\c.toNat≠9/\c.toNat≠10/\c.toNat≠13) (h:Qr (c::x) r):r=c::x:=by
 have e:Bd (c::x)=c::x:=Mh (by omega);generalize hl:c::x=l at h;cases h with
 | stop h1 h2=>subst hl;exact e
 | lf h1 h2=>subst hl;rw [e] at h1;simp only [List.cons.injEq] at h1;rw [h1.1] at hc;simp at hc
 | crlf h1 h2=>subst hl;rw [e] at h1;simp only [List.cons.injEq] at h1;rw [h1.1] at hc;simp at hc
theorem Qr.nil {r:Bs} (h:Qr [] r):r=[]:=by
 generalize hl:([]:Bs)=l at h;cases h with
 | stop h1 h2=>subst hl;rfl
 | lf h1 h2=>subst hl;simp [Bd] at h1
 | crlf h1 h2=>subst hl;simp [Bd] at h1
end
end Go.Proofs.YtaccphdkapmdhaaGreat
