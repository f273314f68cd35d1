/- The parser reads single values as the grammar says. No condition. -/
import Derived.Test.YtaccphdkapmdhaaGreatR17
namespace Go.Proofs.YtaccphdkapmdhaaGreat
set_option maxRecDepth 100000
set_option maxHeartbeats 64000000
set_option linter.all false
section
attribute [local irreducible] binOp IntKind.wrap Sem.run
section
variable {bd C E:Nat} {dc:Array Value} {fz:Nat×Nat}
theorem nG (hE:E<=100000000) (pp:Nat) (ad0:Option Addr) (left:Value) (d:Int) (ns:List Be) (v:Value) (b r text:Bs) (w:World) (hv:Es bd C E dc v b) (h0:(pk b 0).toNat=34)
  (hs:(∃l,b=34::l/\Fn l text r/\∀r',l≠34::34::r')∨(∃l,b=34::34::34::l/\Eu (Hz l) text r)) (hD:w.heap[bd]?=some (.cells dc 5 fz))
  (hP:PS w pp (.slice ad0 E C) left d ns) (hm:ns.length<=400000000):
  Calls PP 104 #[.pointer (F pp),v] w (Rv bd C E dc pp ad0 left d ns 8 text r w):=by
 have hC:=hv.C63;have q:=hv.le;have t:=hP.lt;have f:0<b.length:=Mw (by omega);have k0:=hv.pk hD f;have h:=hv.val f;subst h;refine Bf (L:=[(0,.pointer (F pp)),(1,.slice (some ⟨bd,E-b.length,none⟩) b.length (C-(E-b.length)))]) Tryz.func104 Z Z Z ⟨Z,Z,V⟩ ?_;repeat first|refine Aa Z ?_|apply Ab|apply Ac|refine Ao Z (by first|omega|decide) ?_|refine Aj Z (by first|omega|decide) ?_|refine Ax (i:=0) Z Z Z f Z ?_|refine Aw Z Z k0 Z ?_|refine Cr (x:=.seq (.region 8 _ _) (.cond _ _ _)) (σ:=Value×Value×Value) (fun s w'=>Rg C E s.1/\RB w' s.2.1 text/\Es bd C E dc s.2.2 r/\Up w.heap.size w w') (fun s=>[(0,.pointer (F pp)),(8,s.1),(9,s.2.1),(10,s.2.2),(11,.nilIface)]) ?_ ?_|apply Ad|apply Ag|apply An|apply Af
 ·rcases hs with ⟨l,rfl,h1,h2⟩|⟨l,rfl,h1⟩
  ·have hb:=Zp (.pointer (F pp)) _ l text r w hv h1 hE hD;have e1:pk (34::l) 1=pk l 0:=rfl;have e2:pk (34::l) 2=pk l 1:=rfl;by_cases h3:2<(34::l).length
   ·have k1:=hv.pk hD (i:=1) (by omega);have k2:=hv.pk hD (i:=2) h3;by_cases g1:(pk (34::l) 1).toNat=34
    ·have g2:(pk (34::l) 2).toNat≠34:=fun g2=>by
      have a1:pk l 0=34:=(by rw [<-e1];exact (Po (k:=34) (by omega)).2 g1);have a2:pk l 1=34:=(by rw [<-e2];exact (Po (k:=34) (by omega)).2 g2);simp only [Ya] at h3;have b0:=Em (b:=l) (a:=0) (by omega);have b1:=Em (b:=l) (a:=0+1) (by omega);rw [b1] at b0;rw [a1,show (0+1)=1 from rfl,a2,List.drop_zero] at b0;exact h2 _ b0
     (repeat first|refine Aa Z ?_|apply Ab|refine Aj Z (by first|omega|decide) ?_|refine Ax (i:=1) Z Z Z (by omega) Z ?_|refine Aw Z Z k1 Z ?_|refine Ax (i:=2) Z Z Z h3 Z ?_|refine Aw Z Z k2 Z ?_|refine Au Z ?_|apply Am|refine Bc Z Z (by first|omega|decide) ?_);refine Ae Z Z Z hb ?_;rintro e w1 ⟨v1,v2,v3,rfl,y1,y2,y3,y4⟩;refine T2 Z Z ?_;(repeat first|refine Aa Z ?_|apply Aq);exact Bh (v1,v2,v3) ⟨y1,y2,y3,y4⟩ ⟨Z,Z,Z,Z,Z,V⟩
    ·(repeat first|refine Aa Z ?_|apply Ab|refine Bb Z (by first|with_reducible rfl|exact Bool.not_true) ?_|refine Ax (i:=1) Z Z Z (by omega) Z ?_|refine Aw Z Z k1 Z ?_|refine Au Z ?_|apply Am|refine Bc Z Z (by first|omega|decide) ?_|refine Az Z Z (by first|omega|decide) ?_);refine Ae Z Z Z hb ?_;rintro e w1 ⟨v1,v2,v3,rfl,y1,y2,y3,y4⟩;refine T2 Z Z ?_;(repeat first|refine Aa Z ?_|apply Aq);exact Bh (v1,v2,v3) ⟨y1,y2,y3,y4⟩ ⟨Z,Z,Z,Z,Z,V⟩
   ·(repeat first|refine Aa Z ?_|apply Ab|refine Bb Z (by first|with_reducible rfl|exact Bool.not_true) ?_|refine Au Z ?_|apply Am|refine Az Z Z (by first|omega|decide) ?_);refine Ae Z Z Z hb ?_;rintro e w1 ⟨v1,v2,v3,rfl,y1,y2,y3,y4⟩;refine T2 Z Z ?_;(repeat first|refine Aa Z ?_|apply Aq);exact Bh (v1,v2,v3) ⟨y1,y2,y3,y4⟩ ⟨Z,Z,Z,Z,Z,V⟩
  ·have hb:=mP (.pointer (F pp)) _ l text r w hv hE h1 hD;have h3:2<(34::34::34::l).length:=(by simp);have k1:=hv.pk hD (i:=1) (by omega);have k2:=hv.pk hD (i:=2) h3;have g1:(pk (34::34::34::l) 1).toNat=34:=rfl;have g2:(pk (34::34::34::l) 2).toNat=34:=rfl;(repeat first|refine Aa Z ?_|apply Ab|refine Ao Z (by first|omega|decide) ?_|refine Ax (i:=1) Z Z Z (by omega) Z ?_|refine Aw Z Z k1 Z ?_|refine Ax (i:=2) Z Z Z h3 Z ?_|refine Aw Z Z k2 Z ?_|refine Au Z ?_|apply Am|refine Bc Z Z (by first|omega|decide) ?_);refine Ae Z Z Z hb ?_;rintro e w1 ⟨v1,v2,v3,rfl,y1,y2,y3,y4⟩;refine T2 Z Z ?_;(repeat first|refine Aa Z ?_|apply Aq);exact Bh (v1,v2,v3) ⟨y1,y2,y3,y4⟩ ⟨Z,Z,Z,Z,Z,V⟩
 ·rintro⟨v1,v2,v3⟩ w1 ⟨h1,h2,h3,c⟩;dsimp only at h1 h2 h3 ⊢;(repeat first|refine Aa Z ?_|apply Ab|apply Ac|refine Bb Z (by first|with_reducible rfl|exact Bool.not_true) ?_|apply Ad|apply An|apply Af);obtain⟨nv,xs,j,_,_⟩:=hP.up c;refine Ae Z Z Z (Jw pp E C ad0 _ v1 left nv .nilIface _ w1 j h1 hC hE) ?_;rintro e w2 ⟨a,b2,rfl,g⟩;refine T2 Z Z ?_;have m:=h2.upS g;obtain⟨ad2,cap2,rfl,-⟩:=h2;(repeat (refine Aa Z ?_));refine Cx Z Z (Td _ _ _ _ _ _) Z ?_;have n:=(hP.up c).up g;refine Ae Z Z Z (Ho pp _ left d ns 8 0 0 a b2 _ (some text) w2 n trivial (fun s hs=>by cases hs;exact m) hm) ?_;rintro e w3 ⟨rfl,o,p⟩;refine T2 Z Z ?_;(repeat first|refine Aa Z ?_|apply Ab|apply Ac|apply Bv|apply Ai);exact Ak Z Z ⟨_,rfl,h3,o,((c.fm Y (by omega)).trans (g.fm Y (by have:=c.size;omega))).trans p⟩
end
section
variable {bd C E:Nat} {dc:Array Value} {fz:Nat×Nat}
theorem lR (hE:E<=100000000) (pp:Nat) (ad0:Option Addr) (left:Value) (d:Int) (ns:List Be) (v:Value) (b r text:Bs) (w:World) (hv:Es bd C E dc v b) (h0:(pk b 0).toNat=39)
  (hs:(∃l,b=39::l/\Gn l text r/\∀r',l≠39::39::r')∨(∃l,b=39::39::39::l/\Fv (Hz l) text r)) (hD:w.heap[bd]?=some (.cells dc 5 fz))
  (hP:PS w pp (.slice ad0 E C) left d ns) (hm:ns.length<=400000000):
  Calls PP 104 #[.pointer (F pp),v] w (Rv bd C E dc pp ad0 left d ns 8 text r w):=by
 have hC:=hv.C63;have q:=hv.le;have t:=hP.lt;have f:0<b.length:=Mw (by omega);have k0:=hv.pk hD f;have h:=hv.val f;subst h;refine Bf (L:=[(0,.pointer (F pp)),(1,.slice (some ⟨bd,E-b.length,none⟩) b.length (C-(E-b.length)))]) Tryz.func104 Z Z Z ⟨Z,Z,V⟩ ?_;repeat first|refine Aa Z ?_|apply Ab|apply Ac|refine Ao Z (by first|omega|decide) ?_|refine Aj Z (by first|omega|decide) ?_|refine Ax (i:=0) Z Z Z f Z ?_|refine Aw Z Z k0 Z ?_|refine Cr (x:=.seq (.region 18 _ _) (.cond _ _ _)) (σ:=Value×Value×Value) (fun s w'=>Rg C E s.1/\RB w' s.2.1 text/\Es bd C E dc s.2.2 r/\Up w.heap.size w w') (fun s=>[(0,.pointer (F pp)),(13,s.1),(14,s.2.1),(15,s.2.2),(16,.nilIface)]) ?_ ?_|apply Ad|apply Ag|apply An|apply Af
 ·rcases hs with ⟨l,rfl,h1,h2⟩|⟨l,rfl,h1⟩
  ·have hb:=Tp (.pointer (F pp)) _ l text r w hv h1 hD;have e1:pk (39::l) 1=pk l 0:=rfl;have e2:pk (39::l) 2=pk l 1:=rfl;by_cases h3:2<(39::l).length
   ·have k1:=hv.pk hD (i:=1) (by omega);have k2:=hv.pk hD (i:=2) h3;by_cases g1:(pk (39::l) 1).toNat=39
    ·have g2:(pk (39::l) 2).toNat≠39:=fun g2=>by
      have a1:pk l 0=39:=(by rw [<-e1];exact (Po (k:=39) (by omega)).2 g1);have a2:pk l 1=39:=(by rw [<-e2];exact (Po (k:=39) (by omega)).2 g2);simp only [Ya] at h3;have b0:=Em (b:=l) (a:=0) (by omega);have b1:=Em (b:=l) (a:=0+1) (by omega);rw [b1] at b0;rw [a1,show (0+1)=1 from rfl,a2,List.drop_zero] at b0;exact h2 _ b0
     (repeat first|refine Aa Z ?_|apply Ab|refine Aj Z (by first|omega|decide) ?_|refine Ax (i:=1) Z Z Z (by omega) Z ?_|refine Aw Z Z k1 Z ?_|refine Ax (i:=2) Z Z Z h3 Z ?_|refine Aw Z Z k2 Z ?_|refine Au Z ?_|apply Am|refine Bc Z Z (by first|omega|decide) ?_);refine Ae Z Z Z hb ?_;rintro e w1 ⟨v1,v2,v3,rfl,y1,y2,y3,y4⟩;refine T2 Z Z ?_;(repeat first|refine Aa Z ?_|apply Aq);exact Bh (v1,v2,v3) ⟨y1,y2,y3,y4.up⟩ ⟨Z,Z,Z,Z,Z,V⟩
    ·(repeat first|refine Aa Z ?_|apply Ab|refine Bb Z (by first|with_reducible rfl|exact Bool.not_true) ?_|refine Ax (i:=1) Z Z Z (by omega) Z ?_|refine Aw Z Z k1 Z ?_|refine Au Z ?_|apply Am|refine Bc Z Z (by first|omega|decide) ?_|refine Az Z Z (by first|omega|decide) ?_);refine Ae Z Z Z hb ?_;rintro e w1 ⟨v1,v2,v3,rfl,y1,y2,y3,y4⟩;refine T2 Z Z ?_;(repeat first|refine Aa Z ?_|apply Aq);exact Bh (v1,v2,v3) ⟨y1,y2,y3,y4.up⟩ ⟨Z,Z,Z,Z,Z,V⟩
   ·(repeat first|refine Aa Z ?_|apply Ab|refine Bb Z (by first|with_reducible rfl|exact Bool.not_true) ?_|refine Au Z ?_|apply Am|refine Az Z Z (by first|omega|decide) ?_);refine Ae Z Z Z hb ?_;rintro e w1 ⟨v1,v2,v3,rfl,y1,y2,y3,y4⟩;refine T2 Z Z ?_;(repeat first|refine Aa Z ?_|apply Aq);exact Bh (v1,v2,v3) ⟨y1,y2,y3,y4.up⟩ ⟨Z,Z,Z,Z,Z,V⟩
  ·have hb:=mM (.pointer (F pp)) _ l text r w hv hE h1 hD;have h3:2<(39::39::39::l).length:=(by simp);have k1:=hv.pk hD (i:=1) (by omega);have k2:=hv.pk hD (i:=2) h3;have g1:(pk (39::39::39::l) 1).toNat=39:=rfl;have g2:(pk (39::39::39::l) 2).toNat=39:=rfl;(repeat first|refine Aa Z ?_|apply Ab|refine Ao Z (by first|omega|decide) ?_|refine Ax (i:=1) Z Z Z (by omega) Z ?_|refine Aw Z Z k1 Z ?_|refine Ax (i:=2) Z Z Z h3 Z ?_|refine Aw Z Z k2 Z ?_|refine Au Z ?_|apply Am|refine Bc Z Z (by first|omega|decide) ?_);refine Ae Z Z Z hb ?_;rintro e w1 ⟨v1,v2,v3,rfl,y1,y2,y3,y4⟩;refine T2 Z Z ?_;(repeat first|refine Aa Z ?_|apply Aq);exact Bh (v1,v2,v3) ⟨y1,y2,y3,y4.up⟩ ⟨Z,Z,Z,Z,Z,V⟩
 ·rintro⟨v1,v2,v3⟩ w1 ⟨h1,h2,h3,c⟩;dsimp only at h1 h2 h3 ⊢;(repeat first|refine Aa Z ?_|apply Ab|apply Ac|refine Bb Z (by first|with_reducible rfl|exact Bool.not_true) ?_|apply Ad|apply An|apply Af);obtain⟨nv,xs,j,_,_⟩:=hP.up c;refine Ae Z Z Z (Jw pp E C ad0 _ v1 left nv .nilIface _ w1 j h1 hC hE) ?_;rintro e w2 ⟨a,b2,rfl,g⟩;refine T2 Z Z ?_;have m:=h2.upS g;obtain⟨ad2,cap2,rfl,-⟩:=h2;(repeat (refine Aa Z ?_));refine Cx Z Z (Td _ _ _ _ _ _) Z ?_;have n:=(hP.up c).up g;refine Ae Z Z Z (Ho pp _ left d ns 8 0 0 a b2 _ (some text) w2 n trivial (fun s hs=>by cases hs;exact m) hm) ?_;rintro e w3 ⟨rfl,o,p⟩;refine T2 Z Z ?_;(repeat first|refine Aa Z ?_|apply Ab|apply Ac|apply Bv|apply Ai);exact Ak Z Z ⟨_,rfl,h3,o,((c.fm Y (by omega)).trans (g.fm Y (by have:=c.size;omega))).trans p⟩
end
section
variable {bd C E:Nat} {dc:Array Value} {fz:Nat×Nat}
theorem Rv.out {r text:Bs} {pp d:Nat} {ad0:Option Addr} {left:Value} {ns:List Be} {kind:Nat} {w:World} {e:Ending} {w':World} (h:Rv bd C E dc pp ad0 left (d:Int) ns (Db kind) text r w e w'):
  ∃v',e=.returned (.tuple #[.int .i32 ((ns.length+1:Nat):Int),v',.nilIface])/\Es bd C E dc v' r/\PS w' pp (.slice ad0 E C) left (d:Int) (ns++Df (.sc kind text) ns.length)/\Fm pp [52,104] w w':=by
 obtain⟨v',h1,h2,h3,h4⟩:=h;exact⟨v',h1,h2,by simpa only [Df] using h3,h4⟩
theorem fG (hE:E<=100000000) (pp:Nat) (ad0:Option Addr) (left:Value) (d:Int) (ns:List Be) (v:Value) (b:Bs) (kind n:Nat) (w:World) (hv:Es bd C E dc v b) (hn:Lp b kind n) (hf:Ic (b.drop n)) (hD:w.heap[bd]?=some (.cells dc 5 fz))
  (hP:PS w pp (.slice ad0 E C) left d ns) (hm:ns.length<=400000000):
  Calls PP 104 #[.pointer (F pp),v] w (Rv bd C E dc pp ad0 left d ns (Db kind) (b.take n) (b.drop n) w):=by
 have aa:=(Ny kind).2;have an:=hv.le;have sgn:∀w1:World,Calls PP 134 #[v] w1 (Ft bd C E dc b n (Db kind) w1)->w1=w->((pk b 0).toNat=43∨(pk b 0).toNat=45)->Calls PP 104 #[.pointer (F pp),v] w (Rv bd C E dc pp ad0 left d ns (Db kind) (b.take n) (b.drop n) w):=by
  rintro w1 hc rfl h0;have g:0<b.length:=Mw (by omega);have k0:=hv.pk hD g;have j:=Vl pp ad0 left d ns v b n (Db kind) w1 hv hE hc aa hP hm;have o:=hv.val g;subst o;refine Bf (L:=[(0,.pointer (F pp)),(1,.slice (some ⟨bd,E-b.length,none⟩) b.length (C-(E-b.length)))]) Tryz.func104 Z Z Z ⟨Z,Z,V⟩ ?_;rcases h0 with h0|h0;all_goals
   (repeat first|refine Aa Z ?_|apply Ab|apply Ac|refine Bn Z (by first|with_reducible rfl|exact Bool.not_false) ?_|refine Ao Z (by first|omega|decide) ?_|refine Aj Z (by first|omega|decide) ?_|refine Ax (i:=0) Z Z Z g Z ?_|refine Aw Z Z k0 Z ?_|refine Au Z ?_|apply Ad|apply Ag|apply An|apply Af|refine Bc Z Z (by first|omega|decide) ?_|refine Az Z Z (by first|omega|decide) ?_);refine Ae Z Z Z j ?_;rintro e w2 ⟨v',rfl,y1,y2,y3⟩;refine T2 Z Z ?_;(repeat first|refine Aa Z ?_|apply Ab|apply Bv|apply Ai);exact Ak Z Z ⟨v',rfl,y1,y2,y3⟩
 have fig:∀w1:World,w1=w->(((Gd b∨Jj b)/\Calls PP 136 #[v] w1 (Ft bd C E dc b n (Db kind) w1))∨(¬(Gd b∨Jj b)/\Calls PP 134 #[v] w1 (Ft bd C E dc b n (Db kind) w1)))->Dj (pk b 0)=true->Calls PP 104 #[.pointer (F pp),v] w (Rv bd C E dc pp ad0 left d ns (Db kind) (b.take n) (b.drop n) w):=by
  rintro w1 rfl hc ad;have h0:48<=(pk b 0).toNat/\(pk b 0).toNat<=57:=(by simpa only [Dj,decide_eq_true_eq] using ad);have g:0<b.length:=Mw (by omega);have k0:=hv.pk hD g;have ai:=Xs v b w1 hv hE ad hD;have j:=fun h=>Vl pp ad0 left d ns v b n (Db kind) w1 hv hE h aa hP hm;have ae:=fun h=>bK pp ad0 left d ns v b n (Db kind) w1 hv hE h aa hP hm;have o:=hv.val g;subst o;refine Bf (L:=[(0,.pointer (F pp)),(1,.slice (some ⟨bd,E-b.length,none⟩) b.length (C-(E-b.length)))]) Tryz.func104 Z Z Z ⟨Z,Z,V⟩ ?_;(repeat first|refine Aa Z ?_|apply Ab|apply Ac|refine Ao Z (by first|omega|decide) ?_|refine Aj Z (by first|omega|decide) ?_|refine Ax (i:=0) Z Z Z g Z ?_|refine Aw Z Z k0 Z ?_|refine Au Z ?_|apply Ad|apply Ag|apply An|apply Af|refine Bc Z Z (by first|omega|decide) ?_|refine Az Z Z (by first|omega|decide) ?_);refine Ae Z Z Z ai ?_;rintro e w2 ⟨q,rfl,hq,rfl⟩;refine T2 Z Z ?_;rcases hc with ⟨ab,ac⟩|⟨ab,ac⟩
  ·obtain rfl:q=true:=hq.2 ab;(repeat first|refine Aa Z ?_|apply Ab|apply Ac|refine Bn Z (by first|with_reducible rfl|exact Bool.not_false) ?_);refine Ae Z Z Z (ae ac) ?_;rintro e w2 ⟨v',rfl,y1,y2,y3⟩;refine T2 Z Z ?_;(repeat first|refine Aa Z ?_|apply Ab|apply Bl|apply Bv|apply Ai);exact Ak Z Z ⟨v',rfl,y1,y2,y3⟩
  ·obtain rfl:q=false:=by
    cases q with
    | false=>rfl
    | true=>exact absurd (hq.1 rfl) ab
   (repeat first|refine Aa Z ?_|apply Ab|apply Ac|refine Bb Z (by first|with_reducible rfl|exact Bool.not_true) ?_|apply An|apply Af);refine Ae Z Z Z (j ac) ?_;rintro e w2 ⟨v',rfl,y1,y2,y3⟩;refine T2 Z Z ?_;(repeat first|refine Aa Z ?_|apply Ab|apply Bv|apply Ai);exact Ak Z Z ⟨v',rfl,y1,y2,y3⟩
 have p:=fun hk=>eF v b kind n w hv hE hn hk hf hD;have aj:=fun (word:Bs) (k m:Nat) h0 hw hl ak=>cL pp ad0 left d ns v b word k m w hv hE h0 hw hl ak hD hP hm;have wd:∀(c:UInt8) (word:Bs),((c=105/\word=[105,110,102])∨(c=110/\word=[110,97,110]))->pk b 0=c->b.take 3=word->Calls PP 104 #[.pointer (F pp),v] w (Rv bd C E dc pp ad0 left d ns 10 (b.take 3) (b.drop 3) w):=by
  intro c word hc h0 hw;have g:0<b.length:=by
   apply Classical.byContradiction;intro h;rw [Mx (by omega)] at h0;rcases hc with ⟨rfl,_⟩|⟨rfl,_⟩<;>simp at h0
  have k0:=hv.pk hD g;rw [h0] at k0;have j:=aj word 3 10 (by omega) hw (by rcases hc with ⟨_,rfl⟩|⟨_,rfl⟩<;>rfl) (by omega);have o:=hv.val g;subst o;refine Bf (L:=[(0,.pointer (F pp)),(1,.slice (some ⟨bd,E-b.length,none⟩) b.length (C-(E-b.length)))]) Tryz.func104 Z Z Z ⟨Z,Z,V⟩ ?_;have e1:(105:UInt8).toNat=105:=rfl;have e2:(110:UInt8).toNat=110:=rfl;rcases hc with ⟨rfl,rfl⟩|⟨rfl,rfl⟩;all_goals
   (repeat first|refine Aa Z ?_|apply Ab|apply Ac|refine Ao Z (by first|omega|decide) ?_|refine Aj Z (by first|omega|decide) ?_|refine Ax (i:=0) Z Z Z g Z ?_|refine Aw Z Z k0 Z ?_|apply Ad|apply Ag|apply An|apply Af);refine Ae Z Z Z j ?_;rintro e w2 ⟨v',rfl,y1,y2,y3⟩;refine T2 Z Z ?_;(repeat first|refine Aa Z ?_|apply Ab|apply Bv|apply Ai);exact Ak Z Z ⟨v',rfl,y1,y2,y3⟩
 have special:∀(x y z:UInt8),((x=105/\y=110/\z=102)∨(x=110/\y=97/\z=110))->b.drop (Di b)=x::y::z::b.drop (Di b+3)->Db kind=10->n=Di b+3->Calls PP 104 #[.pointer (F pp),v] w (Rv bd C E dc pp ad0 left d ns (Db kind) (b.take n) (b.drop n) w):=by
  intro x y z hx hd hk s;by_cases hs:pk b 0=43∨pk b 0=45
  ·have s1:Di b=1:=(by rw [Di,if_pos hs]);rw [s1] at hd s;have g:0<b.length:=by
    apply Classical.byContradiction;intro h;rw [Mx (by omega)] at hs;simp at hs
   have hb:=Em (b:=b) (a:=0) g;rw [List.drop_zero,hd] at hb;have hc:=fR v (pk b 0) x y z (b.drop (1+3)) w (by rw [<-hb];exact hv) hE hs hx hD;rw [<-hb] at hc;exact sgn w (by rw [hk,s];exact hc) Z (by rcases hs with h|h<;>rw [h]<;>simp)
  ·have s0:Di b=0:=(by rw [Di,if_neg hs]);rw [s0] at hd s;rw [List.drop_zero] at hd;have h3:b.take 3=[x,y,z]:=by
    have:=congrArg (List.take 3) hd;simpa using this
   have al:pk b 0=x:=(congrArg (fun l=>pk l 0) hd).trans rfl;rw [hk,s];exact wd x [x,y,z] (by rcases hx with ⟨rfl,rfl,rfl⟩|⟨rfl,rfl,rfl⟩<;>simp) al h3
 cases hn with
 | date h1 h2 h3 h4 h5 h6 h7=>exact fig w Z (.inl ⟨.inl h1,p (by omega)⟩) (h1.1 0 (by omega))
 | dateTime h1 h2 h3 h4 h5 h6 h7 h8 h9 am=>exact fig w Z (.inl ⟨.inl h1,p (by omega)⟩) (h1.1 0 (by omega))
 | offZ h1 h2 h3 h4 h5 h6 h7=>exact fig w Z (.inl ⟨.inl h1,p (by omega)⟩) (h1.1 0 (by omega))
 | offN h1 h2 h3 h4 h5 h6 h7 h8 h9 am=>exact fig w Z (.inl ⟨.inl h1,p (by omega)⟩) (h1.1 0 (by omega))
 | time h1 h2 h3=>exact fig w Z (.inl ⟨.inr h2,p (by omega)⟩) (h2.1 0 (by omega))
 | @radix c base k r hb hc hg=>
  subst hb;refine fig w Z (.inr ⟨?_,jP v c base k r w hv hE hc hg hf hD⟩) rfl;have af:Dj (pk (48::c::r) 1)=false:=by
   show Dj c=false;rcases hc with ⟨rfl,_⟩|⟨rfl,_⟩|⟨rfl,_⟩<;>rfl
  rintro (h|h)
  ·have:=h.1 1 (by omega);rw [Yi,af] at this;cases this
  ·have:=h.1 1 (by omega);rw [Yi,af] at this;cases this
 | inf h=>exact special 105 110 102 (.inl ⟨rfl,rfl,rfl⟩) h Z Z
 | nan h=>exact special 110 97 110 (.inr ⟨rfl,rfl,rfl⟩) h Z Z
 | @dec k f e kind h1 h2 h3 h4 h5 h6 h7 h8=>
  have u:=dec_any v b (Di b) k f e kind _ w hv hE rfl h4 h5 h6 h7 h8 rfl h3 hf hD;by_cases hs:pk b 0=43∨pk b 0=45
  ·exact sgn w u Z (by rcases hs with h|h<;>rw [h]<;>simp)
  ·have s0:Di b=0:=(by rw [Di,if_neg hs]);obtain⟨c0,t,n0,ag,ah,_,_⟩:=h4.gt (by omega);rw [s0,List.drop_zero] at ag;exact fig w Z (.inr ⟨fun h=>h.elim h1 h2,u⟩) (by rw [ag];show Dj c0=true;rw [<-Yp];exact ah)
theorem Tx (hE:E<=100000000) (pp:Nat) (ad0:Option Addr) (left:Value) (d:Int) (ns:List Be) (v:Value) (b word:Bs) (c:UInt8) (k:Nat) (w:World) (hc:(c=116/\k=4/\word=[116,114,117,101])∨(c=102/\k=5/\word=[102,97,108,115,101])) (hv:Es bd C E dc v b) (h0:pk b 0=c) (hw:b.take k=word) (hD:w.heap[bd]?=some (.cells dc 5 fz))
  (hP:PS w pp (.slice ad0 E C) left d ns) (hm:ns.length<=400000000):
  Calls PP 104 #[.pointer (F pp),v] w (Rv bd C E dc pp ad0 left d ns 9 (b.take k) (b.drop k) w):=by
 have j:=hv.le;have a:0<b.length:=by
  apply Classical.byContradiction;intro h;rw [Mx (by omega)] at h0;rcases hc with ⟨rfl,_⟩|⟨rfl,_⟩<;>simp at h0
 have k0:=hv.pk hD a;rw [h0] at k0;have f:=cL pp ad0 left d ns v b word k 9 w hv hE (by omega) hw (by rcases hc with ⟨_,rfl,rfl⟩|⟨_,rfl,rfl⟩<;>rfl) (by omega) hD hP hm;have g:=hv.val a;subst g;refine Bf (L:=[(0,.pointer (F pp)),(1,.slice (some ⟨bd,E-b.length,none⟩) b.length (C-(E-b.length)))]) Tryz.func104 Z Z Z ⟨Z,Z,V⟩ ?_;have e1:(116:UInt8).toNat=116:=rfl;have e2:(102:UInt8).toNat=102:=rfl;rcases hc with ⟨rfl,rfl,rfl⟩|⟨rfl,rfl,rfl⟩;all_goals
  (repeat first|refine Aa Z ?_|apply Ab|apply Ac|refine Ao Z (by first|omega|decide) ?_|refine Aj Z (by first|omega|decide) ?_|refine Ax (i:=0) Z Z Z a Z ?_|refine Aw Z Z k0 Z ?_|apply Ad|apply Ag|apply An|apply Af);refine Ae Z Z Z f ?_;rintro e w2 ⟨v',rfl,y1,y2,y3⟩;refine T2 Z Z ?_;(repeat first|refine Aa Z ?_|apply Ab|apply Bv|apply Ai);exact Ak Z Z ⟨v',rfl,y1,y2,y3⟩
theorem fC (hE:E<=100000000) (pp:Nat) (ad0:Option Addr) (left:Value) (d:Nat) (ns:List Be) (v:Value) (b r:Bs) (kind:Nat) (text:Bs) (w:World) (hv:Es bd C E dc v b) (a:VV d b (.sc kind text) r) (hD:w.heap[bd]?=some (.cells dc 5 fz))
  (hP:PS w pp (.slice ad0 E C) left (d:Int) ns) (hm:ns.length<=400000000):
  Calls PP 104 #[.pointer (F pp),v] w fun e w'=>∃v',e=.returned (.tuple #[.int .i32 ((ns.length+1:Nat):Int),v',.nilIface])/\Es bd C E dc v' r/\
   PS w' pp (.slice ad0 E C) left (d:Int) (ns++Df (.sc kind text) ns.length)/\Fm pp [52,104] w w':=by
 have key:Calls PP 104 #[.pointer (F pp),v] w (Rv bd C E dc pp ad0 left (d:Int) ns (Db kind) text r w):=by
  cases a with
  | Bm h1 h2 h3=>exact nG hE pp ad0 left d ns v _ r text w hv Z (.inl ⟨_,rfl,h2,h3⟩) hD hP hm
  | lit h1 h2 h3=>exact lR hE pp ad0 left d ns v _ r text w hv Z (.inl ⟨_,rfl,h2,h3⟩) hD hP hm
  | mstr h1 h2=>exact nG hE pp ad0 left d ns v _ r text w hv Z (.inr ⟨_,rfl,h2⟩) hD hP hm
  | mlit h1 h2=>exact lR hE pp ad0 left d ns v _ r text w hv Z (.inr ⟨_,rfl,h2⟩) hD hP hm
  | tru h1=>exact Tx hE pp ad0 left d ns v _ _ 116 4 w (.inl ⟨rfl,rfl,rfl⟩) hv Z Z hD hP hm
  | fls h1=>exact Tx hE pp ad0 left d ns v _ _ 102 5 w (.inr ⟨rfl,rfl,rfl⟩) hv Z Z hD hP hm
  | num h1 h2 h3=>exact fG hE pp ad0 left d ns v b kind _ w hv h2 h3 hD hP hm
 exact key.mono fun e w' h=>h.out
end
end
end Go.Proofs.YtaccphdkapmdhaaGreat
