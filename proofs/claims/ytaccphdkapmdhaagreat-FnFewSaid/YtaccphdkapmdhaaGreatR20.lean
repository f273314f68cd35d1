/- The parser does as the grammar says. No condition. -/
import Derived.Test.YtaccphdkapmdhaaGreatR19
namespace Go.Proofs.YtaccphdkapmdhaaGreat
set_option maxRecDepth 100000
set_option maxHeartbeats 64000000
set_option linter.all false
section
attribute [local irreducible] binOp IntKind.wrap Sem.run
section
variable {bd C E:Nat} {dc:Array Value} {fz:Nat×Nat}
theorem cQ (pp:Nat) (ad0:Option Addr) (left:Value) (d:Nat) (ns:List Be) (v:Value) (b r:Bs) (ks:List Bs) (w:World)
  (hv:Es bd C E dc v (91::b)) (hE:E<=100000000) (hk:Ks b ks (93::r)) (hD:w.heap[bd]?=some (.cells dc 5 fz))
  (hP:PS w pp (.slice ad0 E C) left (d:Int) ns) (hm:ns.length+3*b.length<=399999999):
  Calls PP 78 #[.pointer (F pp),v] w fun e w'=>∃v',e=.returned (.tuple #[.int .i32 ((ns.length+1:Nat):Int),v',.nilIface])/\Es bd C E dc v' r/\
   PS w' pp (.slice ad0 E C) left (d:Int) (ns++⟨3,none,0,ns.length+2⟩::Ck (ns.length+1) ks)/\Fm pp [52,104] w w':=by
 have hC:=hv.C63;obtain⟨aa,ao⟩:=hk.len;simp only [Ya] at aa;have k:=hv;have c:=hv.cons;try simp only [Ya] at c
 subst c;have ab:=k.le;have ap:=k.EC;simp only [Ya] at ab;refine Bf (L:=[(0,.pointer (F pp)),(1,.slice (some ⟨bd,E-(b.length+1),none⟩) (b.length+1) (C-(E-(b.length+1))))]) Tryz.func78 Z Z Z ⟨Z,Z,V⟩ ?_;repeat first|refine Aa Z ?_|apply Ab|apply Ac
 refine Cx Z Z (Uz _) Z ?_;refine Ae Z Z Z (Ho pp _ left d ns 3 0 0 0 0 _ none w hP trivial (fun s hs=>by cases hs) (by omega)) ?_;rintro e w1 ⟨rfl,ac,p⟩;refine T2 Z Z ?_;have l:w1.heap[bd]?=some (.cells dc 5 fz):=p.keep _ _ hD (by simp [Ce]);have m:(ns++[(⟨3,none,0,0⟩:Be)]).length=ns.length+1:=by simp
 repeat first|refine Aa Z ?_|apply Ab|apply Ac
 refine Fw b.length 1 Z Z (Sf.mk _ _ _) Z (by simp;omega) (by omega) (fun _=>rfl) (fun ad' ad=>?_);have ae:Es bd C E dc (.slice ad' b.length (C-(E-(b.length+1))-1)) b:=k.drop 1 (by simp) ad;refine Ae Z Z Z (ae.skip l) ?_;rintro e w2 ⟨v2,rfl,af,rfl⟩;refine T2 Z Z ?_;have h:=aL pp ad0 left d (ns++[(⟨3,none,0,0⟩:Be)]) v2 b (93::r) ks w2 af hE hk l ac (by rw [m];omega);rw [m] at h;refine Ae Z Z Z h ?_;rintro e w3 ⟨v3,rfl,n,ag,q⟩;refine T2 Z Z ?_;have aq:w3.heap[bd]?=some (.cells dc 5 fz):=q.keep _ _ l (by simp [Ce]);have ar:(ns++[(⟨3,none,0,0⟩:Be)]++Ck (ns.length+1) ks).length=ns.length+1+ks.length:=by rw [Ye,m,Cf]
 obtain⟨g,cap,cur,xs,hb,ah,o,ai,aj,t,ak,au,hN⟩:=ag.open (by omega);have h0:(ns++[(⟨3,none,0,0⟩:Be)]++Ck (ns.length+1) ks)[ns.length]?=some ⟨3,none,0,0⟩:=by
  rw [List.append_assoc,Yg Y];simp
 have u:ns.length*7+6<cur.size:=by rw [t];omega
 repeat first|refine Aa Z ?_|apply Ab|apply Ac|refine Bb Z (by first|with_reducible rfl|exact Bool.not_true) ?_|apply Ad|apply An|apply Af
 refine Ae Z Z Z (On pp g _ cap (ns.length+1) ns.length _ _ _ _ _ w3 hb Z (by omega) (by omega)) ?_;rintro e w4 ⟨rfl,rfl⟩;refine T2 Z Z ?_;repeat (refine Aa Z ?_)
 refine Bk Z Z Z o (Array.getElem?_eq_getElem u) Z (fun w5 x=>?_);have al:=PS.child hb ah o ai aj t ak hN _ _ h0 x;have y:=(p.trans q).trans (x.fm o (by omega) (by simp [Ce]) rfl);have am:w5.heap[bd]?=some (.cells dc 5 fz):=y.keep _ _ hD (by simp [Ce]);have e5:(ns++[(⟨3,none,0,0⟩:Be)]++Ck (ns.length+1) ks).set ns.length (⟨3,none,0,ns.length+1+1⟩:Be)=ns++⟨3,none,0,ns.length+2⟩::Ck (ns.length+1) ks:=by
  rw [List.append_assoc,List.set_append_right _ _ Y,Nat.sub_self];simp
 have f:=n.cell am;have j:=n;have a:=n.cons;try simp only [Ya] at a f
 subst a;have z:=j.le;simp only [Ya] at z;repeat first|refine Aa Z ?_|apply Ab|apply Ac|refine Aj Z (by first|omega|decide) ?_|refine Ax (i:=0) Z Z Z (by omega) Z ?_|refine Aw Z Z f Z ?_|refine Au Z ?_|apply Ad|apply An|apply Af|refine Az Z Z (by first|omega|decide) ?_
 refine Cp (fun _=>True) ?_;repeat (refine Cg (by kernel_rfl) (by first|trivial|assumption) Z ?_)
 refine Dr r.length 1 (by kernel_rfl) trivial Z Z (Sf.mk _ _ _) Z (by simp;omega) (by omega) (fun _=>rfl) (fun ad3 an=>?_);repeat (refine Cg (by kernel_rfl) (by first|trivial|assumption) Z ?_)
 refine Co ?_;repeat first|apply An|apply Ai
 refine Ak Z Z ⟨_,rfl,j.drop 1 (by simp) an,?_,y.drew⟩;rw [<-e5];exact al.sm (Sm.refl _).drew
theorem bZ (pp:Nat) (ad0:Option Addr) (left:Value) (d:Nat) (ns:List Be) (v:Value) (b r:Bs) (ks:List Bs) (w:World)
  (hv:Es bd C E dc v (91::91::b)) (hE:E<=100000000) (hk:Ks b ks (93::93::r)) (hD:w.heap[bd]?=some (.cells dc 5 fz))
  (hP:PS w pp (.slice ad0 E C) left (d:Int) ns) (hm:ns.length+3*b.length<=399999999):
  Calls PP 77 #[.pointer (F pp),v] w fun e w'=>∃v',e=.returned (.tuple #[.int .i32 ((ns.length+1:Nat):Int),v',.nilIface])/\Es bd C E dc v' r/\
   PS w' pp (.slice ad0 E C) left (d:Int) (ns++⟨4,none,0,ns.length+2⟩::Ck (ns.length+1) ks)/\Fm pp [52,104] w w':=by
 have hC:=hv.C63;obtain⟨ac,ap⟩:=hk.len;simp only [Ya] at ac;have m:=hv;have f:=hv.cons;simp only [Ya] at f;subst f;have ad:=m.le;have aq:=m.EC;simp only [Ya] at ad;refine Bf (L:=[(0,.pointer (F pp)),(1,.slice (some ⟨bd,E-(b.length+1+1),none⟩) (b.length+1+1) (C-(E-(b.length+1+1))))]) Tryz.func77 Z Z Z ⟨Z,Z,V⟩ ?_;repeat first|refine Aa Z ?_|apply Ab|apply Ac
 refine Cx Z Z (Uz _) Z ?_;refine Ae Z Z Z (Ho pp _ left d ns 4 0 0 0 0 _ none w hP trivial (fun s hs=>by cases hs) (by omega)) ?_;rintro e w1 ⟨rfl,ae,q⟩;refine T2 Z Z ?_;have n:w1.heap[bd]?=some (.cells dc 5 fz):=q.keep _ _ hD (by simp [Ce]);have o:(ns++[(⟨4,none,0,0⟩:Be)]).length=ns.length+1:=by simp
 repeat first|refine Aa Z ?_|apply Ab|apply Ac
 refine Fw b.length 2 Z Z (Sf.mk _ _ _) Z (by simp;omega) (by omega) (fun _=>rfl) (fun ad' af=>?_);have ag:Es bd C E dc (.slice ad' b.length (C-(E-(b.length+1+1))-2)) b:=m.drop 2 (by simp) af;refine Ae Z Z Z (ag.skip n) ?_;rintro e w2 ⟨v2,rfl,ah,rfl⟩;refine T2 Z Z ?_;have k:=aL pp ad0 left d (ns++[(⟨4,none,0,0⟩:Be)]) v2 b (93::93::r) ks w2 ah hE hk n ae (by rw [o];omega);rw [o] at k;refine Ae Z Z Z k ?_;rintro e w3 ⟨v3,rfl,j,ai,t⟩;refine T2 Z Z ?_;have ar:w3.heap[bd]?=some (.cells dc 5 fz):=t.keep _ _ n (by simp [Ce]);have au:(ns++[(⟨4,none,0,0⟩:Be)]++Ck (ns.length+1) ks).length=ns.length+1+ks.length:=by rw [Ye,o,Cf]
 obtain⟨g,cap,cur,xs,hb,aj,p,ak,al,u,am,av,hN⟩:=ai.open (by omega);have h0:(ns++[(⟨4,none,0,0⟩:Be)]++Ck (ns.length+1) ks)[ns.length]?=some ⟨4,none,0,0⟩:=by
  rw [List.append_assoc,Yg Y];simp
 have x:ns.length*7+6<cur.size:=by rw [u];omega
 repeat first|refine Aa Z ?_|apply Ab|apply Ac|refine Bb Z (by first|with_reducible rfl|exact Bool.not_true) ?_|apply Ad|apply An|apply Af
 refine Ae Z Z Z (On pp g _ cap (ns.length+1) ns.length _ _ _ _ _ w3 hb Z (by omega) (by omega)) ?_;rintro e w4 ⟨rfl,rfl⟩;refine T2 Z Z ?_;repeat (refine Aa Z ?_)
 refine Bk Z Z Z p (Array.getElem?_eq_getElem x) Z (fun w5 y=>?_);have an:=PS.child hb aj p ak al u am hN _ _ h0 y;have z:=(q.trans t).trans (y.fm p (by omega) (by simp [Ce]) rfl);have aa:w5.heap[bd]?=some (.cells dc 5 fz):=z.keep _ _ hD (by simp [Ce]);have e5:(ns++[(⟨4,none,0,0⟩:Be)]++Ck (ns.length+1) ks).set ns.length (⟨4,none,0,ns.length+1+1⟩:Be)=ns++⟨4,none,0,ns.length+2⟩::Ck (ns.length+1) ks:=by
  rw [List.append_assoc,List.set_append_right _ _ Y,Nat.sub_self];simp
 have h:=j.cell aa;have l:=j;have a:=j.cons;have c:=j.c1 aa;simp only [Ya] at a h c;subst a;have ab:=l.le;simp only [Ya] at ab;repeat first|refine Aa Z ?_|apply Ab|apply Ac|refine Aj Z (by first|omega|decide) ?_|refine Ax (i:=0) Z Z Z (by omega) Z ?_|refine Aw Z Z h Z ?_|refine Ax (i:=1) Z Z Z (by omega) Z ?_|refine Aw Z Z c Z ?_|refine Au Z ?_|apply Ad|apply An|apply Af|refine Az Z Z (by first|omega|decide) ?_
 refine Cp (fun _=>True) ?_;repeat (refine Cg (by kernel_rfl) (by first|trivial|assumption) Z ?_)
 refine Dr r.length 2 (by kernel_rfl) trivial Z Z (Sf.mk _ _ _) Z (by simp;omega) (by omega) (fun _=>rfl) (fun ad3 ao=>?_);repeat (refine Cg (by kernel_rfl) (by first|trivial|assumption) Z ?_)
 refine Co ?_;repeat first|apply An|apply Ai
 refine Ak Z Z ⟨_,rfl,l.drop 2 (by simp) ao,?_,z.drew⟩;rw [<-e5];exact an.sm (Sm.refl _).drew
end
section
variable {bd C E:Nat} {dc:Array Value} {fz:Nat×Nat}
theorem Qg (pp root:Nat) (data left:Value) (nest:Int) (ns:List Be) (v:Value) (b r:Bs) (w:World) (hv:Es bd C E dc v b) (he:eX (Bd b) r) (hD:w.heap[bd]?=some (.cells dc 5 fz)) (hP:PS w pp data left nest ns):
  Calls PP 79 #[.pointer (F pp),.int .i32 root,v] w fun e w'=>∃v',e=.returned (.tuple #[v',.nilIface])/\Es bd C E dc v' r/\Sm w w':=by
 refine Bf (L:=[(0,.pointer (F pp)),(1,.int .i32 root),(2,v)]) Tryz.func79 Z Z Z ⟨Z,Z,Z,V⟩ ?_;repeat first|refine Aa Z ?_|apply Ab|apply Ac
 refine Ae Z Z Z (hv.skip hD) ?_;rintro e w1 ⟨v1,rfl,a,rfl⟩;refine T2 Z Z ?_;cases l:Bd b with
 | nil=>
  rw [l] at a he;obtain⟨ad,rfl,hs⟩:=a.nil;cases he with
  | nl h=>
   (repeat first|refine Aa Z ?_|apply Ab|apply Ac|refine Bb Z (by first|with_reducible rfl|exact Bool.not_true) ?_|refine Au Z ?_|apply Ad|apply An|apply Af|refine Az Z Z (by first|omega|decide) ?_);refine Ae Z Z Z (Jn _ _ _ w1 a h hD) ?_;rintro e w2 ⟨v2,rfl,g,rfl⟩;refine T2 Z Z ?_;(repeat first|refine Aa Z ?_|apply Ab|apply Ai);exact Ak Z Z ⟨_,rfl,g,Sm.refl _⟩
 | cons c t=>
  rw [l] at a he;have d:=a.cell hD;have f:=a;have j:=a.cons;subst j;have m:=f.le;simp only [Ya] at m;cases he with
  | nl h=>
   have hc:c.toNat≠35:=by
    cases h with
    | lf=>decide
    | crlf=>decide
   (repeat first|refine Aa Z ?_|apply Ab|apply Ac|refine Aj Z (by first|omega|decide) ?_|refine Ax (i:=0) Z Z Z (by omega) Z ?_|refine Aw Z Z d Z ?_|refine Au Z ?_|apply Ad|apply An|apply Af|refine Bc Z Z (by first|omega|decide) ?_);refine Ae Z Z Z (Jn _ _ _ w1 f h hD) ?_;rintro e w2 ⟨v2,rfl,g,rfl⟩;refine T2 Z Z ?_;(repeat first|refine Aa Z ?_|apply Ab|apply Ai);exact Ak Z Z ⟨_,rfl,g,Sm.refl _⟩
  | cm h1 h2=>
   (repeat first|refine Aa Z ?_|apply Ab|apply Ac|refine Ao Z (by first|omega|decide) ?_|refine Ax (i:=0) Z Z Z (by omega) Z ?_|refine Aw Z Z d Z ?_|refine Au Z ?_|apply Ad|refine Bc Z Z (by first|omega|decide) ?_);refine Ae Z Z Z (Kq _ _ _ w1 f h1 hD) ?_;rintro e w2 ⟨v2,v3,rfl,n,k⟩;refine T2 Z Z ?_;obtain⟨nv,xs,o,_,_⟩:=hP.sm k;(repeat first|refine Aa Z ?_|apply Ab|apply Ac|refine Bb Z (by first|with_reducible rfl|exact Bool.not_true) ?_|refine Av (b:=pp) (v:=.bool false) Z Z o Z Z ?_|apply Ad|apply Am|apply An|apply Af);refine Ae Z Z Z (Jn _ _ _ w2 n h2 (k.at hD)) ?_;rintro e w3 ⟨v4,rfl,p,rfl⟩;refine T2 Z Z ?_;(repeat first|refine Aa Z ?_|apply Ab|apply Ai);exact Ak Z Z ⟨_,rfl,p,k⟩
def Kl:Ex->List Be
 | .kv ks v=>He ks (Df v) 0
 | .tab ks=>⟨3,none,0,2⟩::Ck 1 ks
 | .atab ks=>⟨4,none,0,2⟩::Ck 1 ks
theorem Pu (pp:Nat) (ad0:Option Addr) (left:Value) (v:Value) (b b1 r:Bs) (x:Ex) (w:World) (hv:Es bd C E dc v (91::b)) (hE:E<=100000000) (hx:EX (91::b) x b1) (hn:∀ks v,x≠.kv ks v) (he:eX (Bd b1) r) (hD:w.heap[bd]?=some (.cells dc 5 fz))
  (hP:PS w pp (.slice ad0 E C) left 0 []):
  Calls PP 45 #[.pointer (F pp),v] w fun e w'=>∃v',e=.returned (.tuple #[v',.nilIface])/\Es bd C E dc v' r/\PS w' pp (.slice ad0 E C) left 0 (Kl x)/\Fm pp [52,104] w w':=by
 have hC:=hv.C63;have d:=hv;have j:=hv.cons;subst j;have k:=d.le;have o:=d.EC;simp only [Ya] at k;refine Bf (L:=[(0,.pointer (F pp)),(1,.slice (some ⟨bd,E-(b.length+1),none⟩) (b.length+1) (C-(E-(b.length+1))))]) Tryz.func45 Z Z Z ⟨Z,Z,V⟩ ?_;cases hx with
 | kv=>exact absurd Z (hn _ _)
 | tab h1 h2=>
  cases b with
  | nil=>exact absurd (h2.len.1) (by simp)
  | cons c t=>
   have hc:c.toNat≠91:=fun e=>h1 (by
    have:c=91:=UInt8.toNat_inj.1 e;rw [this];rfl)
   have a:=d.c1 hD;simp only [Ya] at a k;(repeat first|refine Aa Z ?_|apply Ab|apply Ac|refine Aj Z (by first|omega|decide) ?_|refine Ax (i:=1) Z Z Z (by simp) Z ?_|refine Aw Z Z a Z ?_|refine Bc Z Z (by simp;omega) ?_|refine Au Z ?_|apply Ad|apply Am);refine Ae Z Z Z (cQ pp ad0 left 0 [] _ _ _ _ w d hE h2 hD hP (by simp;omega)) ?_;rintro e w1 ⟨v1,rfl,l,f,g⟩;refine T2 Z Z ?_;have m:w1.heap[bd]?=some (.cells dc 5 fz):=g.keep _ _ hD (by simp [Ce]);(repeat first|refine Aa Z ?_|apply Ab|apply Ac|refine Bb Z (by first|with_reducible rfl|exact Bool.not_true) ?_|apply Ad|apply An|apply Af);refine Ae Z Z Z (Qg pp _ _ left _ _ v1 _ r w1 l he m f) ?_;rintro e w2 ⟨v2,rfl,n,h⟩;refine T2 Z Z ?_;(repeat first|refine Aa Z ?_|apply Ab|apply Ai);exact Ak Z Z ⟨_,rfl,n,f.sm h,g.trans h.fm⟩
 | @atab b _ ks h2=>
  have a:=d.c1 hD;simp only [Ya] at a k;(repeat first|refine Aa Z ?_|apply Ab|apply Ac|refine Ao Z (by first|omega|decide) ?_|refine Ax (i:=1) Z Z Z (by simp) Z ?_|refine Aw Z Z a Z ?_|refine Bc Z Z (by simp;omega) ?_|refine Au Z ?_|apply Ad|apply Am);refine Ae Z Z Z (bZ pp ad0 left 0 [] _ _ _ _ w d hE h2 hD hP (by simp;omega)) ?_;rintro e w1 ⟨v1,rfl,l,f,g⟩;refine T2 Z Z ?_;have m:w1.heap[bd]?=some (.cells dc 5 fz):=g.keep _ _ hD (by simp [Ce]);(repeat first|refine Aa Z ?_|apply Ab|apply Ac|refine Bb Z (by first|with_reducible rfl|exact Bool.not_true) ?_|apply Ad|apply An|apply Af);refine Ae Z Z Z (Qg pp _ _ left _ _ v1 _ r w1 l he m f) ?_;rintro e w2 ⟨v2,rfl,n,h⟩;refine T2 Z Z ?_;(repeat first|refine Aa Z ?_|apply Ab|apply Ai);exact Ak Z Z ⟨_,rfl,n,f.sm h,g.trans h.fm⟩
theorem We (pp:Nat) (ad0:Option Addr) (left:Value) (v:Value) (b b1 b2 r:Bs) (ks:List Bs) (val:Bz) (w:World) (hv:Es bd C E dc v (Bd b)) (hE:E<=100000000) (hk:Ks b ks (61::b1)) (a:VV 0 (Bd b1) val b2) (he:eX (Bd b2) r) (hD:w.heap[bd]?=some (.cells dc 5 fz))
  (j:b.length<=100000000) (hP:PS w pp (.slice ad0 E C) left 0 []):
  Calls PP 46 #[.pointer (F pp),v] w fun e w'=>∃v',e=.returned (.tuple #[v',.nilIface])/\Es bd C E dc v' r/\PS w' pp (.slice ad0 E C) left 0 (Kl (.kv ks val))/\Fm pp [52,104] w w':=by
 refine Bf (L:=[(0,.pointer (F pp)),(1,v)]) Tryz.func46 Z Z Z ⟨Z,Z,V⟩ ?_;repeat first|refine Aa Z ?_|apply Ab|apply Ac
 refine Ae Z Z Z (Vu (jI hE (Bd b1).length) pp ad0 left 0 [] v b b1 b2 ks val w hv hE hk a Y hD hP (by simp;omega)) ?_;rintro e w1 ⟨v1,rfl,g,c,d⟩;refine T2 Z Z ?_;have h:w1.heap[bd]?=some (.cells dc 5 fz):=d.keep _ _ hD (by simp [Ce]);repeat first|refine Aa Z ?_|apply Ab|apply Ac|refine Bb Z (by first|with_reducible rfl|exact Bool.not_true) ?_|apply Ad|apply An|apply Af
 refine Ae Z Z Z (Qg pp _ _ left _ _ v1 _ r w1 g he h c) ?_;rintro e w2 ⟨v2,rfl,i,f⟩;refine T2 Z Z ?_;repeat first|refine Aa Z ?_|apply Ab|apply Ai
 exact Ak Z Z ⟨_,rfl,i,c.sm f,d.trans f.fm⟩
end
theorem Ks.head91 {c:UInt8} {t r:Bs} {ks:List Bs} (h:Ks (c::t) ks r) (hs:Bd (c::t)=c::t):c.toNat≠91:=by
 have key:∀{x k r':Bs},KP x k r'->∀c t,x=c::t->c.toNat≠91:=by
  intro x k r' hk c t hx;cases hk with
  | bare h1 h2 h3=>
   cases k with
   | nil=>exact absurd rfl h1
   | cons c' k=>
    have:=h2 c' (by simp);simp only [Er,decide_eq_true_eq] at this;simp only [List.cons_append,List.cons.injEq] at hx;obtain⟨rfl,_⟩:=hx;omega
  | lit h=>
   simp only [List.cons.injEq] at hx;obtain⟨rfl,_⟩:=hx;decide
  | bas h=>
   simp only [List.cons.injEq] at hx;obtain⟨rfl,_⟩:=hx;decide
 cases h with
 | one h1 h2=>rw [hs] at h1;exact key h1 c t rfl
 | dot h1 h2 h3=>rw [hs] at h1;exact key h1 c t rfl
theorem PS.leftSet {w w':World} {pp:Nat} {data left left':Value} {nest:Int} {ns:List Be} {nv:Value} {xs:List Value} (h1:w.heap[pp]?=some (.cells ⟨[.bool false,data,left,nv,.nilIface,.int .i64 nest]⟩ 52 (0,0))) (h2:w.ownsRow (pp+1) 104 7 nv ns.length xs) (h3:NL w pp ns xs)
  (hS:St w pp (.cells ⟨[.bool false,data,left',nv,.nilIface,.int .i64 nest]⟩ 52 (0,0)) w'):PS w' pp data left' nest ns/\Fm pp [52,104] w w':=by
 have hf:Fm pp [52,104] w w':=hS.fm h1 Y (by simp [Ce]) rfl;refine⟨⟨nv,xs,hS.at_,Bi h2 (fun k o hk h=>hS.keep h ?_),h3.fm hf (by simp)⟩,hf⟩;have:=(h2.lt k hk).1;omega
section
variable {bd C E:Nat} {dc:Array Value} {fz:Nat×Nat}
def Next (bd C E:Nat) (dc:Array Value) (pp:Nat) (data:Value) (es:List Ex) (w:World) (e:Ending) (w':World):Prop:=
 (es=[]/\e=.returned (.bool false)/\(∃left',PS w' pp data left' 0 []))∨
 (∃x es' left' b',es=x::es'/\e=.returned (.bool true)/\Es bd C E dc left' b'/\Lr b' es'/\PS w' pp data left' 0 (Kl x))
theorem mJ (pp:Nat) (ad0:Option Addr) (left:Value) (ns:List Be) (b:Bs) (es:List Ex) (w:World) (hv:Es bd C E dc left b) (hE:E<=100000000) (hd:Lr b es) (hD:w.heap[bd]?=some (.cells dc 5 fz))
  (hP:PS w pp (.slice ad0 E C) left 0 ns):
  Calls PP 21 #[.pointer (F pp)] w fun e w'=>Next bd C E dc pp (.slice ad0 E C) es w e w'/\Fm pp [52,104] w w':=by
 have hC:=hv.C63;obtain⟨nv,xs,q1,q2,q3⟩:=hP;refine Bf (L:=[(0,.pointer (F pp))]) Tryz.func21 Z Z Z ⟨Z,V⟩ ?_;obtain⟨ad,cap,au⟩:∃ad cap,nv=.slice ad ns.length cap:=by
  rcases q2.2 with ⟨rfl,hn⟩|⟨g,cap,cur,rfl,_⟩
  ·exact⟨none,0,by rw [hn]⟩
  ·exact⟨_,_,rfl⟩
 subst au;repeat first|refine Aa Z ?_|apply Ab|apply Ac|refine Bb Z (by first|with_reducible rfl|exact Bool.not_true) ?_|refine Av (b:=pp) (v:=.nilIface) Z Z q1 Z Z ?_|apply Ad|apply An|apply Af
 refine Av (b:=pp) (v:=.slice ad ns.length cap) Z Z q1 Z Z ?_;refine Ub 0 Z Z Z O Z ?_;repeat (refine Aa Z ?_)
 refine Bk Z Z Z q1 Z Z (fun w1 ai=>?_);have an:Fm pp [52,104] w w1:=ai.fm q1 Y (by simp [Ce]) rfl;have ao:PS w1 pp (.slice ad0 E C) left 0 []:=by
  refine⟨.slice ad 0 cap,[],ai.at_,⟨rfl,?_⟩,fun i n h=>by simp at h⟩;rcases q2.2 with ⟨hn,_⟩|⟨g,cap',cur,hn,av,hg,hc,hm,hs,ht⟩
  ·simp only [Value.slice.injEq] at hn;obtain⟨rfl,-,rfl⟩:=hn;exact .inl ⟨rfl,rfl⟩
  ·simp only [Value.slice.injEq] at hn;obtain⟨rfl,-,rfl⟩:=hn;exact .inr ⟨g,cap,cur,rfl,av,ai.keep hg (by omega),Nat.zero_le _,hm,hs,by simp⟩
 clear ai q1 q2 q3;repeat first|apply Ab|apply Ag
 refine Bg (σ:=Value×Bs) (I:=fun s w'=>Es bd C E dc s.1 s.2/\Lr s.2 es/\PS w' pp (.slice ad0 E C) s.1 0 []/\Fm pp [52,104] w w') (m:=fun s=>s.2.length) (Lf:=fun s=>[(0,.pointer (F pp))]) (left,b) ⟨hv,hd,ao,an⟩ ⟨Z,V⟩ ?_;clear hv hd ao an;rintro⟨left1,b1⟩ w2 ⟨hv,hd,hP,hF⟩;dsimp only at hv hd hP ⊢;have q:w2.heap[bd]?=some (.cells dc 5 fz):=hF.keep _ _ hD (by simp [Ce]);have ac:=Cw b1;have aj:=hP;obtain⟨nv,xs,q1,q2,q3⟩:=hP;repeat first|refine Aa Z ?_|apply Ac|refine Av (b:=pp) (v:=left1) Z Z q1 Z Z ?_|apply Ag
 refine Ae Z Z Z (hv.skip q) ?_;rintro e w3 ⟨v3,rfl,o,rfl⟩;refine T2 Z Z ?_;cases r:Bd b1 with
 | nil=>
  rw [r] at o;obtain⟨ad3,rfl,ak⟩:=o.nil;have aw:es=[]:=by
   cases hd with
   | done _=>rfl
   | blank h _ _=>exact absurd r h
   | expr h _ _ _=>rw [r] at h;cases h
  (repeat first|refine Aa Z ?_|apply Ab|apply Ac|refine Ao Z (by first|omega|decide) ?_|apply Ad);refine Bk Z Z Z q1 Z Z (fun w4 p=>?_);obtain⟨ae,af⟩:=PS.leftSet q1 q2 q3 p;(repeat first|refine Aa Z ?_|apply Ab|apply Ac|apply Bl|apply Bv|apply Ai);exact Ak Z Z ⟨.inl ⟨aw,rfl,_,ae⟩,hF.trans af⟩
 | cons c t=>
  rw [r] at o ac;have a:=o.cell q;have l:=o;have d:=o.cons;have ap:=l.le;have ba:=l.EC;simp only [Ya] at ap ac;cases hd with
  | done h=>rw [r] at h;cases h
  | @blank _ b' _ h he u=>
   rw [r] at he;cases he with
   | nl hn=>
    cases hn with
    | lf=>
     subst d;(repeat first|refine Aa Z ?_|apply Ab|apply Ac|refine Ao Z (by first|omega|decide) ?_|refine Aj Z (by first|omega|decide) ?_|refine Ax (i:=0) Z Z Z (by omega) Z ?_|refine Aw Z Z a Z ?_|apply Ad|apply Ag|apply An|apply Af);refine Fw t.length 1 Z Z (Sf.mk _ _ _) Z (by simp;omega) (by omega) (fun _=>rfl) (fun ad3 ak=>?_);(repeat (refine Aa Z ?_));refine Bk Z Z Z q1 Z Z (fun w4 p=>?_);obtain⟨ae,af⟩:=PS.leftSet q1 q2 q3 p;(repeat first|apply Ab|apply Cn|apply Ci|refine Kn Z ?_|apply Ba);exact Ap (_,t) ⟨l.tail ak,u,ae,hF.trans af⟩ (by dsimp only;omega) ⟨Z,V⟩
    | crlf=>
     have ab:=l.c1 q;simp only [Ya] at d a ab ap ac;subst d;(repeat first|refine Aa Z ?_|apply Ab|apply Ac|refine Ao Z (by first|omega|decide) ?_|refine Aj Z (by first|omega|decide) ?_|refine Ax (i:=0) Z Z Z (by omega) Z ?_|refine Aw Z Z a Z ?_|refine Ax (i:=1) Z Z Z (by omega) Z ?_|refine Aw Z Z ab Z ?_|refine Au Z ?_|apply Ad|apply Ag|apply An|apply Af|refine Bc Z Z (by first|omega|decide) ?_);refine Fw b'.length 2 Z Z (Sf.mk _ _ _) Z (by simp;omega) (by omega) (fun _=>rfl) (fun ad3 ak=>?_);have ax:=l.drop 2 (by simp) ak;(repeat (refine Aa Z ?_));refine Bk Z Z Z q1 Z Z (fun w4 p=>?_);obtain⟨ae,af⟩:=PS.leftSet q1 q2 q3 p;(repeat first|apply Ab|apply Cn|apply Ci|refine Kn Z ?_|apply Ba);exact Ap (_,b') ⟨ax,u,ae,hF.trans af⟩ (by dsimp only;omega) ⟨Z,V⟩
   | @cm _ r1 _ h1 h2=>
    have ay:=gE h1;have bb:b'.length<=r1.length:=by
     cases h2 with
     | eof=>exact Nat.le_refl _
     | lf=>simp
     | crlf=>simp;omega
    simp only [Ya] at ay;subst d;(repeat first|refine Aa Z ?_|apply Ab|apply Ac|refine Ao Z (by first|omega|decide) ?_|refine Aj Z (by first|omega|decide) ?_|refine Ax (i:=0) Z Z Z (by omega) Z ?_|refine Aw Z Z a Z ?_|apply Ad|apply Ag|apply An|apply Af);refine Ae Z Z Z (Kq _ _ _ w3 l h1 q) ?_;rintro e w4 ⟨v4,v5,rfl,k,p⟩;refine T2 Z Z ?_;(repeat first|refine Aa Z ?_|apply Ab|apply Ac|refine Bn Z (by first|with_reducible rfl|exact Bool.not_false) ?_|apply Ad|apply Am);refine Ae Z Z Z (Jn _ _ _ w4 k h2 (p.at q)) ?_;rintro e w5 ⟨v6,rfl,aq,rfl⟩;refine T2 Z Z ?_;obtain⟨nv5,xs5,p1,p2,p3⟩:=aj.sm p;(repeat first|refine Aa Z ?_|apply Ab|apply Ac|refine Bn Z (by first|with_reducible rfl|exact Bool.not_false) ?_|refine Bb Z (by first|with_reducible rfl|exact Bool.not_true) ?_|refine Av (b:=pp) (v:=.bool false) Z Z p1 Z Z ?_|apply Ad|apply An|apply Af);have al:Bp v6=true:=(by obtain⟨ad6,h6,_⟩:=aq.ex;rw [h6];rfl);refine Bk Z Z al p1 Z Z (fun w6 y=>?_);obtain⟨z,aa⟩:=PS.leftSet p1 p2 p3 y;(repeat first|apply Ab|apply Cn|apply Ci|refine Kn Z ?_|apply Ba);exact Ap (v6,b') ⟨aq,u,z,(hF.trans p.fm).trans aa⟩ (by dsimp only;omega) ⟨Z,V⟩
  | @expr _ c' b2 b3 hh x es' h hx he u=>
   rw [r] at h;simp only [List.cons.injEq] at h;obtain⟨rfl,rfl⟩:=h;have ar:=hx;have am:Bd (c::t)=c::t:=(by rw [<-r,Ed]);cases hx with
   | tab h1 h2=>
    have f:=Pu pp ad0 left1 v3 _ _ _ _ w3 o hE ar (by intros;simp) he q aj;subst d;(repeat first|refine Aa Z ?_|apply Ab|apply Ac|refine Ao Z (by first|omega|decide) ?_|refine Aj Z (by first|omega|decide) ?_|refine Ax (i:=0) Z Z Z (by omega) Z ?_|refine Aw Z Z a Z ?_|apply Ad|apply Ag|apply An|apply Af);refine Ae Z Z Z f ?_;rintro e w5 ⟨v5,rfl,k,ag,ah⟩;refine T2 Z Z ?_;obtain⟨nv5,xs5,p1,p2,p3⟩:=ag;have j:Bp v5=true:=(by obtain⟨ad6,h6,_⟩:=k.ex;rw [h6];rfl);(repeat first|refine Aa Z ?_|apply Ab|apply Ac|refine Bn Z (by first|with_reducible rfl|exact Bool.not_false) ?_);refine Bk Z Z j p1 Z Z (fun w6 y=>?_);obtain⟨z,aa⟩:=PS.leftSet p1 p2 p3 y;(repeat first|refine Aa Z ?_|apply Ab|apply Ac|apply Bl|apply Bv|apply Ai);exact Ak Z Z ⟨.inr ⟨_,_,_,_,rfl,rfl,k,u,z⟩,(hF.trans ah).trans aa⟩
   | atab h2=>
    have f:=Pu pp ad0 left1 v3 _ _ _ _ w3 o hE ar (by intros;simp) he q aj;subst d;(repeat first|refine Aa Z ?_|apply Ab|apply Ac|refine Ao Z (by first|omega|decide) ?_|refine Aj Z (by first|omega|decide) ?_|refine Ax (i:=0) Z Z Z (by omega) Z ?_|refine Aw Z Z a Z ?_|apply Ad|apply Ag|apply An|apply Af);refine Ae Z Z Z f ?_;rintro e w5 ⟨v5,rfl,k,ag,ah⟩;refine T2 Z Z ?_;obtain⟨nv5,xs5,p1,p2,p3⟩:=ag;have j:Bp v5=true:=(by obtain⟨ad6,h6,_⟩:=k.ex;rw [h6];rfl);(repeat first|refine Aa Z ?_|apply Ab|apply Ac|refine Bn Z (by first|with_reducible rfl|exact Bool.not_false) ?_);refine Bk Z Z j p1 Z Z (fun w6 y=>?_);obtain⟨z,aa⟩:=PS.leftSet p1 p2 p3 y;(repeat first|refine Aa Z ?_|apply Ab|apply Ac|apply Bl|apply Bv|apply Ai);exact Ak Z Z ⟨.inr ⟨_,_,_,_,rfl,rfl,k,u,z⟩,(hF.trans ah).trans aa⟩
   | @kv _ _ b4 _ ks val h1 h2=>
    obtain⟨c1,t1,e1,az⟩:=h1.head;have bc:=h1.head91 am;rw [am] at e1;simp only [List.cons.injEq] at e1;obtain⟨rfl,rfl⟩:=e1;obtain⟨be,bf,bg,bh,bi⟩:=az;have f:=We pp ad0 left1 v3 (c::t) b4 _ _ ks val w3 (by rw [am];exact o) hE h1 h2 he q (by simp only [Ya];omega) aj;subst d;(repeat first|refine Aa Z ?_|apply Ab|apply Ac|refine Aj Z (by first|omega|decide) ?_|refine Ax (i:=0) Z Z Z (by omega) Z ?_|refine Aw Z Z a Z ?_|apply Ad|apply Ag|apply An|apply Af);refine Ae Z Z Z f ?_;rintro e w5 ⟨v5,rfl,k,ag,ah⟩;refine T2 Z Z ?_;obtain⟨nv5,xs5,p1,p2,p3⟩:=ag;have j:Bp v5=true:=(by obtain⟨ad6,h6,_⟩:=k.ex;rw [h6];rfl);(repeat first|refine Aa Z ?_|apply Ab|apply Ac|refine Bn Z (by first|with_reducible rfl|exact Bool.not_false) ?_);refine Bk Z Z j p1 Z Z (fun w6 y=>?_);obtain⟨z,aa⟩:=PS.leftSet p1 p2 p3 y;(repeat first|refine Aa Z ?_|apply Ab|apply Ac|apply Bl|apply Bv|apply Ai);exact Ak Z Z ⟨.inr ⟨_,_,_,_,rfl,rfl,k,u,z⟩,(hF.trans ah).trans aa⟩
end
structure AR (w:World) (pp g:Nat) (ns:List Be):Prop where
 ex:∃(c0 data left err nest:Value) (cap:Nat),w.heap[pp]?=some (.cells ⟨[c0,data,left,.slice (F g) ns.length cap,err,nest]⟩ 52 (0,0))
 cells:∃cur:Array Value,w.heap[g]?=some (.cells cur 104 (0,0))/\NL w pp ns cur.toList
 small:ns.length<=1000000000
theorem PS.ar {w:World} {pp:Nat} {data left:Value} {nest:Int} {ns:List Be} (h:PS w pp data left nest ns) (h0:0<ns.length) (hm:ns.length<=1000000000):∃g,pp<g/\AR w pp g ns:=by
 obtain⟨g,cap,cur,xs,hb,a,b,d,f,j,c,k,hN⟩:=h.open h0;refine⟨g,a,⟨_,_,_,_,_,_,hb⟩,⟨cur,b,fun i n hn=>?_⟩,hm⟩;have:=hN i n hn;have e:cur.toList=xs++cur.toList.drop (ns.length*7):=by rw [<-c,List.take_append_drop]
 rw [e];exact this.app
theorem AR.fm {B T w w' pp g ns} (h:AR w pp g ns) (hf:Fm B T w w') (h5:5∉T) (b:52∉T) (a:104∉T):AR w' pp g ns:=by
 obtain⟨c0,data,left,err,nest,cap,h1⟩:=h.ex;obtain⟨cur,h2,h3⟩:=h.cells;exact⟨⟨c0,data,left,err,nest,cap,hf.keep _ _ h1 b⟩,⟨cur,hf.keep _ _ h2 a,h3.fm hf h5⟩,h.small⟩
def Gm (g h:Nat):Value:=.pointer (if h=0 then none else some ⟨g,(h-1)*7,none⟩)
theorem Pc (pp g i:Nat) (ns:List Be) (n:Be) (w:World) (hA:AR w pp g ns) (hn:ns[i]?=some n) (hc:n.child<=ns.length):
  Calls PP 100 #[.pointer (some ⟨g,i*7,none⟩)] w fun e w'=>e=.returned (Gm g n.child)/\Sm w w':=by
 obtain⟨c0,data,left,err,nest,cap,h1⟩:=hA.ex;obtain⟨cur,h2,h3⟩:=hA.cells;have hN:=h3 i n hn;have a:=hA.small;have c6:w.cell? ⟨g,i*7+6,none⟩=some (.int .i32 n.child):=Ar h2 (by simpa using hN.child);refine Bf (L:=[(0,.pointer (some ⟨g,i*7,none⟩))]) Tryz.func100 Z Z Z ⟨Z,V⟩ ?_;by_cases h0:n.child=0
 ·(repeat first|refine Aa Z ?_|apply Ab|apply Ac|refine Ao Z (by first|omega|decide) ?_|refine Aw Z Z c6 Z ?_|apply Ad|apply Bl|apply Ai);refine Ak Z Z ⟨?_,Sm.refl _⟩;simp [Gm,h0,cZ]
 ·(repeat first|refine Aa Z ?_|apply Ab|apply Ac|refine Aj Z (by first|omega|decide) ?_|refine Aw Z Z c6 Z ?_|apply Ad|apply An|apply Af);refine Cp (fun w'=>w'.heap=w.heap) ?_;have hd:w.drew.heap=w.heap:=rfl;have k6:∀w':World,w'.heap=w.heap->w'.cell? ⟨g,i*7+6,none⟩=some (.int .i32 n.child):=fun w' hw=>Ar (by rw [hw];exact h2) (by simpa using hN.child);have k4:∀w':World,w'.heap=w.heap->w'.cell? ⟨g,i*7+4,none⟩=some (.pointer (F pp)):=fun w' hw=>Ar (by rw [hw];exact h2) (by simpa using hN.parser);have k3:∀w':World,w'.heap=w.heap->w'.cell? ⟨pp,3,none⟩=some (.slice (F g) ns.length cap):=fun w' hw=>Ar (by rw [hw];exact h1) rfl;(repeat first|refine Cg (by kernel_rfl) (by first|trivial|assumption) Z ?_|refine Cl (by kernel_rfl) hd Z Z k4 Z ?_|refine Cl (by kernel_rfl) hd Z Z k3 Z ?_|refine Cl (by kernel_rfl) hd Z Z k6 Z ?_|refine iT (by kernel_rfl) hd Z Z (by omega) Z ?_|refine Il (i:=n.child-1) (by kernel_rfl) hd Z Z (by omega) (by omega) Z ?_);refine Co ?_;(repeat first|apply An|apply Ai);refine Ak Z Z ⟨?_,(Sm.refl _).drew⟩;simp [Gm,h0,cZ]
theorem Ra (pp g i:Nat) (ns:List Be) (n:Be) (w:World) (hA:AR w pp g ns) (hn:ns[i]?=some n) (hc:n.next<=ns.length):
  Calls PP 107 #[.pointer (some ⟨g,i*7,none⟩)] w fun e w'=>e=.returned (Gm g n.next)/\Sm w w':=by
 obtain⟨c0,data,left,err,nest,cap,h1⟩:=hA.ex;obtain⟨cur,h2,h3⟩:=hA.cells;have hN:=h3 i n hn;have a:=hA.small;have c5:w.cell? ⟨g,i*7+5,none⟩=some (.int .i32 n.next):=Ar h2 (by simpa using hN.next);refine Bf (L:=[(0,.pointer (some ⟨g,i*7,none⟩))]) Tryz.func107 Z Z Z ⟨Z,V⟩ ?_;by_cases h0:n.next=0
 ·(repeat first|refine Aa Z ?_|apply Ab|apply Ac|refine Ao Z (by first|omega|decide) ?_|refine Aw Z Z c5 Z ?_|apply Ad|apply Bl|apply Ai);refine Ak Z Z ⟨?_,Sm.refl _⟩;simp [Gm,h0,cZ]
 ·(repeat first|refine Aa Z ?_|apply Ab|apply Ac|refine Aj Z (by first|omega|decide) ?_|refine Aw Z Z c5 Z ?_|apply Ad|apply An|apply Af);refine Cp (fun w'=>w'.heap=w.heap) ?_;have hd:w.drew.heap=w.heap:=rfl;have k5:∀w':World,w'.heap=w.heap->w'.cell? ⟨g,i*7+5,none⟩=some (.int .i32 n.next):=fun w' hw=>Ar (by rw [hw];exact h2) (by simpa using hN.next);have k4:∀w':World,w'.heap=w.heap->w'.cell? ⟨g,i*7+4,none⟩=some (.pointer (F pp)):=fun w' hw=>Ar (by rw [hw];exact h2) (by simpa using hN.parser);have k3:∀w':World,w'.heap=w.heap->w'.cell? ⟨pp,3,none⟩=some (.slice (F g) ns.length cap):=fun w' hw=>Ar (by rw [hw];exact h1) rfl;(repeat first|refine Cg (by kernel_rfl) (by first|trivial|assumption) Z ?_|refine Cl (by kernel_rfl) hd Z Z k4 Z ?_|refine Cl (by kernel_rfl) hd Z Z k3 Z ?_|refine Cl (by kernel_rfl) hd Z Z k5 Z ?_|refine iT (by kernel_rfl) hd Z Z (by omega) Z ?_|refine Il (i:=n.next-1) (by kernel_rfl) hd Z Z (by omega) (by omega) Z ?_);refine Co ?_;(repeat first|apply An|apply Ai);refine Ak Z Z ⟨?_,(Sm.refl _).drew⟩;simp [Gm,h0,cZ]
def Wf (ns:List Be):Prop:=∀(i:Nat) (n:Be),ns[i]?=some n->n.kind≠0/\n.kind<=100/\n.next<=ns.length/\n.child<=ns.length
theorem Yt {g h:Nat} (h0:h≠0):Gm g h=.pointer (some ⟨g,(h-1)*7,none⟩):=by simp [Gm,h0]
theorem kC (g:Nat):Gm g 0=.pointer none:=rfl
theorem Oq (pp g h:Nat) (ns:List Be) (w:World) (hA:AR w pp g ns) (hw:Wf ns) (hh:h<=ns.length):
  Calls PP 106 #[Gm g h] w fun e w'=>e=.returned (.bool (dc (h≠0)))/\w'=w:=by
 by_cases h0:h=0
 ·subst h0;rw [kC];refine Bf (L:=[(0,.pointer none)]) Tryz.func106 Z Z Z ⟨Z,V⟩ ?_;(repeat first|refine Aa Z ?_|apply Ab|apply Ac|refine Au Z ?_|apply Ai);refine Ak Z Z ⟨?_,rfl⟩;rw [Ew (by simp)];rfl
 ·rw [Yt h0];obtain⟨cur,h2,h3⟩:=hA.cells;obtain⟨n,hn⟩:∃n,ns[h-1]?=some n:=⟨_,Yd (by omega)⟩;have hN:=h3 _ n hn;obtain⟨hk,a,_⟩:=hw _ n hn;have c0:w.cell? ⟨g,(h-1)*7,none⟩=some (.int .i64 n.kind):=Ar h2 (by simpa using hN.kind);refine Bf (L:=[(0,.pointer (some ⟨g,(h-1)*7,none⟩))]) Tryz.func106 Z Z Z ⟨Z,V⟩ ?_;(repeat first|refine Aa Z ?_|apply Ab|apply Ac|refine Aw Z Z c0 Z ?_|refine Au Z ?_|apply Ai);refine Ak Z Z ⟨?_,rfl⟩;rw [Fj (show h≠0 from h0)];refine congrArg Ending.returned (congrArg Value.bool ?_);exact Fj (by omega)
theorem Pa (pp:Nat) (data left:Value) (nest:Int) (ns:List Be) (w:World) (hP:PS w pp data left nest ns):
  Calls PP 24 #[.pointer (F pp)] w fun e w'=>e=.returned .nilIface/\w'=w:=by
 obtain⟨nv,xs,q1,_,_⟩:=hP;refine Bf (L:=[(0,.pointer (F pp))]) Tryz.func24 Z Z Z ⟨Z,V⟩ ?_;repeat first|refine Aa Z ?_|apply Ab|apply Ac|refine Av (b:=pp) (v:=.nilIface) Z Z q1 Z Z ?_|apply Ai
 exact Ak Z Z ⟨rfl,rfl⟩
theorem Jm (pp g:Nat) (ns:List Be) (w:World) (hA:AR w pp g ns) (h0:0<ns.length):
  Calls PP 23 #[.pointer (F pp)] w fun e w'=>e=.returned (.pointer (F g))/\w'=w:=by
 obtain⟨c0,data,left,err,nest,cap,h1⟩:=hA.ex;refine Bf (L:=[(0,.pointer (F pp))]) Tryz.func23 Z Z Z ⟨Z,V⟩ ?_;repeat first|refine Aa Z ?_|apply Ab|apply Ac|refine Aj Z (by first|omega|decide) ?_|refine Av (b:=pp) (v:=.slice (F g) ns.length cap) Z Z h1 Z Z ?_|refine Ax (i:=0) Z Z Z h0 Z ?_|apply Ad|apply An|apply Af|apply Ai
 refine Ak Z Z ⟨?_,rfl⟩;simp [cZ]
theorem Xp (pp g h it:Nat) (ns:List Be) (w:World) (hA:AR w pp g ns) (hw:Wf ns) (hh:h<=ns.length) (hi:w.heap[it]?=some (.cells ⟨[.bool false,Gm g h]⟩ 147 (0,0))):
  Calls PP 82 #[.pointer (F it)] w fun e w'=>e=.returned (.bool (dc (h≠0)))/\St w it (.cells ⟨[.bool true,Gm g h]⟩ 147 (0,0)) w':=by
 refine Bf (L:=[(0,.pointer (F it))]) Tryz.func82 Z Z Z ⟨Z,V⟩ ?_;repeat first|refine Aa Z ?_|apply Ab|apply Ac|refine Bn Z (by first|with_reducible rfl|exact Bool.not_false) ?_|refine Av (b:=it) (i:=0) (v:=.bool false) Z Z hi Z Z ?_|apply Ad|apply Am
 refine Bk Z Z Z hi Z Z (fun w1 hS=>?_);have a:w1.heap[it]?=some (.cells ⟨[.bool true,Gm g h]⟩ 147 (0,0)):=hS.at_;have c:AR w1 pp g ns:=hA.fm (B:=0) (T:=[147]) (hS.fm hi O (by simp [Ce]) rfl) (by simp) (by simp) (by simp);repeat first|refine Aa Z ?_|apply Ab|apply Ac|refine Av (b:=it) (i:=1) (v:=Gm g h) Z Z a Z Z ?_
 refine Ae Z Z Z (Oq pp g h ns w1 c hw hh) ?_;rintro e w2 ⟨rfl,rfl⟩;refine T2 Z Z ?_;repeat first|refine Aa Z ?_|apply Ab|apply Ai
 exact Ak Z Z ⟨rfl,hS⟩
theorem aR (pp g i it:Nat) (ns:List Be) (n:Be) (w:World) (hA:AR w pp g ns) (hw:Wf ns) (hn:ns[i]?=some n) (hi:w.heap[it]?=some (.cells ⟨[.bool true,Gm g (i+1)]⟩ 147 (0,0))):
  Calls PP 82 #[.pointer (F it)] w fun e w'=>e=.returned (.bool (dc (n.next≠0)))/\∃w1,Sm w w1/\St w1 it (.cells ⟨[.bool true,Gm g n.next]⟩ 147 (0,0)) w':=by
 have k:=(Yc.1 hn).1;have c:=(hw i n hn).2.2.1;refine Bf (L:=[(0,.pointer (F it))]) Tryz.func82 Z Z Z ⟨Z,V⟩ ?_;repeat first|refine Aa Z ?_|apply Ab|apply Ac|refine Bb Z (by first|with_reducible rfl|exact Bool.not_true) ?_|refine Av (b:=it) (i:=0) (v:=.bool true) Z Z hi Z Z ?_|refine Av (b:=it) (i:=1) (v:=Gm g (i+1)) Z Z hi Z Z ?_|apply Ad
 refine Ae Z Z Z (Oq pp g (i+1) ns w hA hw (by omega)) ?_;rintro e w2 ⟨rfl,rfl⟩;refine T2 Z Z ?_;repeat first|refine Aa Z ?_|apply Ab|refine Ao Z (by first|omega|decide) ?_|refine Av (b:=it) (i:=1) (v:=Gm g (i+1)) Z Z hi Z Z ?_|apply Am
 refine Ae Z Z Z (Ra pp g i ns n w2 hA hn c) ?_;rintro e w3 ⟨rfl,a⟩;refine T2 Z Z ?_;have d:=a.at hi;have f:AR w3 pp g ns:=hA.fm (B:=0) (T:=[]) a.fm (by simp) (by simp) (by simp);repeat (refine Aa Z ?_)
 refine Bk Z Z Z d Z Z (fun w4 hS=>?_);have h:w4.heap[it]?=some (.cells ⟨[.bool true,Gm g n.next]⟩ 147 (0,0)):=hS.at_;have j:AR w4 pp g ns:=f.fm (B:=0) (T:=[147]) (hS.fm d O (by simp [Ce]) rfl) (by simp) (by simp) (by simp);repeat first|refine Aa Z ?_|apply Ab|apply Ac|refine Av (b:=it) (i:=1) (v:=Gm g n.next) Z Z h Z Z ?_
 refine Ae Z Z Z (Oq pp g n.next ns w4 j hw c) ?_;rintro e w5 ⟨rfl,rfl⟩;refine T2 Z Z ?_;repeat first|refine Aa Z ?_|apply Ab|apply Ai
 exact Ak Z Z ⟨rfl,w3,a,hS⟩
theorem Gc (st v:Value) (it:Nat) (w:World) (hi:w.heap[it]?=some (.cells ⟨[st,v]⟩ 147 (0,0))):
  Calls PP 83 #[.pointer (F it)] w fun e w'=>e=.returned v/\w'=w:=by
 refine Bf (L:=[(0,.pointer (F it))]) Tryz.func83 Z Z Z ⟨Z,V⟩ ?_;repeat first|refine Aa Z ?_|apply Ab|apply Ac|refine Av (b:=it) (i:=1) (v:=v) Z Z hi Z Z ?_|apply Ai
 exact Ak Z Z ⟨rfl,rfl⟩
theorem Qe (pp g i it:Nat) (st:Value) (ns:List Be) (n:Be) (w:World) (hA:AR w pp g ns) (hn:ns[i]?=some n) (hi:w.heap[it]?=some (.cells ⟨[st,.pointer (some ⟨g,i*7,none⟩)]⟩ 147 (0,0))):
  Calls PP 84 #[.pointer (F it)] w fun e w'=>e=.returned (.bool (dc ((n.next:Int)=0)))/\w'=w:=by
 obtain⟨cur,h2,h3⟩:=hA.cells;have hN:=h3 i n hn;have c5:w.cell? ⟨g,i*7+4+1,none⟩=some (.int .i32 n.next):=Ar h2 (by simpa using hN.next);refine Bf (L:=[(0,.pointer (F it))]) Tryz.func84 Z Z Z ⟨Z,V⟩ ?_;repeat first|refine Aa Z ?_|apply Ab|apply Ac|refine Av (b:=it) (i:=1) (v:=.pointer (some ⟨g,i*7,none⟩)) Z Z hi Z Z ?_|refine Aw Z Z c5 Z ?_|apply Ai
 exact Ak Z Z ⟨rfl,rfl⟩
theorem bdIter (p:Option Addr) (w:World):(Instr.build 147 ⟨[(1,.pointer p)]⟩).run PP w=.ok (.agg ⟨[.bool false,.pointer p]⟩) w:=by kernel_rfl
theorem bY (g h:Nat) (w:World):(Instr.build 147 ⟨[(1,Gm g h)]⟩).run PP w=.ok (.agg ⟨[.bool false,Gm g h]⟩) w:=bdIter _ w
theorem Kz (pp g i:Nat) (ns:List Be) (n:Be) (w:World) (hA:AR w pp g ns) (hn:ns[i]?=some n) (hc:n.child<=ns.length):
  Calls PP 99 #[.pointer (some ⟨g,i*7,none⟩)] w fun e w'=>e=.returned (.agg ⟨[.bool false,Gm g n.child]⟩)/\Up w.heap.size w w':=by
 refine Bf (L:=[(0,.pointer (some ⟨g,i*7,none⟩))]) Tryz.func99 Z Z Z ⟨Z,V⟩ ?_;repeat (apply Ac)
 refine Dk Z Z Z (fun w1 a=>?_);have d:AR w1 pp g ns:=hA.fm (B:=0) (T:=[]) (a.fm O) (by simp) (by simp) (by simp);repeat first|refine Aa Z ?_|apply Ab|apply Ac
 refine Ae Z Z Z (Pc pp g i ns n w1 d hn hc) ?_;rintro e w2 ⟨rfl,b⟩;refine T2 Z Z ?_;refine Cx Z Z (bY _ _) Z ?_;refine Bx Z Z Z (by simp [Bp,Gm]) (b.at a.at_) (by simp) Z (fun w3 c=>?_);repeat first|apply Ab|apply Ai
 exact Ch Z Z Z c.at_ Z ⟨rfl,((a.up Y).trans b.up).trans (c.up Y)⟩
theorem Ns (pp g i:Nat) (ns:List Be) (n:Be) (w:World) (hA:AR w pp g ns) (hn:ns[i]?=some n) (hc:n.child<=ns.length):
  Calls PP 70 #[.pointer (some ⟨g,i*7,none⟩)] w fun e w'=>e=.returned (Gm g n.child)/\Sm w w':=by
 refine Bf (L:=[(0,.pointer (some ⟨g,i*7,none⟩))]) Tryz.func70 Z Z Z ⟨Z,V⟩ ?_;repeat first|refine Aa Z ?_|apply Ab|apply Ac
 refine Ae Z Z Z (Pc pp g i ns n w hA hn hc) ?_;rintro e w2 ⟨rfl,a⟩;refine T2 Z Z ?_;repeat first|refine Aa Z ?_|apply Ab|apply Ai
 exact Ak Z Z ⟨rfl,a⟩
def Hx (ns:List Be) (n:Be):Nat:=if n.kind=5 then (match ns[n.child-1]? with|some m=>m.next|none=>0) else n.child
theorem Oy (pp g i:Nat) (ns:List Be) (n:Be) (w:World) (hA:AR w pp g ns) (hw:Wf ns) (hn:ns[i]?=some n) (hk:n.kind=5/\n.child≠0∨n.kind=3∨n.kind=4):
  Calls PP 81 #[.pointer (some ⟨g,i*7,none⟩)] w fun e w'=>e=.returned (.agg ⟨[.bool false,Gm g (Hx ns n)]⟩)/\Up w.heap.size w w':=by
 have hc:=(hw i n hn).2.2.2;refine Bf (L:=[(0,.pointer (some ⟨g,i*7,none⟩))]) Tryz.func81 Z Z Z ⟨Z,V⟩ ?_;repeat (apply Ac)
 refine Dk Z Z Z (fun w1 b=>?_);have c:AR w1 pp g ns:=hA.fm (B:=0) (T:=[]) (b.fm O) (by simp) (by simp) (by simp);obtain⟨cur,h2,h3⟩:=c.cells;have hN:=h3 i n hn;have c0:w1.cell? ⟨g,i*7,none⟩=some (.int .i64 n.kind):=Ar h2 (by simpa using hN.kind);rcases hk with ⟨hk,d⟩|hk|hk
 ·obtain⟨m,hm⟩:∃m,ns[n.child-1]?=some m:=⟨_,Yd (by omega)⟩;have l:=(hw _ m hm).2.2.1;have he:Hx ns n=m.next:=(by simp [Hx,hk,hm]);rw [he];(repeat first|refine Aa Z ?_|apply Ab|apply Ac|refine Ao Z (by first|omega|decide) ?_|refine Aw Z Z c0 Z ?_|apply Ag);refine Ae Z Z Z (Pc pp g i ns n w1 c hn hc) ?_;rintro e w2 ⟨rfl,a⟩;refine T2 Z Z ?_;have f:AR w2 pp g ns:=c.fm (B:=0) (T:=[]) a.fm (by simp) (by simp) (by simp);(repeat first|refine Aa Z ?_|apply Ab|apply Ac|apply Ad);refine Ae Z Z Z (Oq pp g n.child ns w2 f hw hc) ?_;rintro e w3 ⟨rfl,rfl⟩;rw [Fj (show n.child≠0 from d)];refine T2 Z Z ?_;rw [Yt d];(repeat first|refine Aa Z ?_|apply Ab|apply Ac|refine Bb Z (by first|with_reducible rfl|exact Bool.not_true) ?_|apply An|apply Af);refine Ae Z Z Z (Ra pp g (n.child-1) ns m w3 f hm l) ?_;rintro e w4 ⟨rfl,h⟩;refine T2 Z Z ?_;refine Cx Z Z (bY _ _) Z ?_;refine Bx Z Z Z (by simp [Bp,Gm]) (h.at (a.at b.at_)) (by simp) Z (fun w5 j=>?_);(repeat first|apply Ab|apply Bv|apply Ai);exact Ch Z Z Z j.at_ Z ⟨rfl,(((b.up Y).trans a.up).trans h.up).trans (j.up Y)⟩
 all_goals
  have he:Hx ns n=n.child:=(by simp [Hx,hk]);rw [he];(repeat first|refine Aa Z ?_|apply Ab|apply Ac|refine Ao Z (by first|omega|decide) ?_|refine Aj Z (by first|omega|decide) ?_|refine Aw Z Z c0 Z ?_|apply Ad|apply Am|apply Ag|apply An|apply Af);refine Ae Z Z Z (Pc pp g i ns n w1 c hn hc) ?_;rintro e w2 ⟨rfl,a⟩;refine T2 Z Z ?_;refine Cx Z Z (bY _ _) Z ?_;refine Bx Z Z Z (by simp [Bp,Gm]) (a.at b.at_) (by simp) Z (fun w3 k=>?_);(repeat first|apply Ab|apply Bv|apply Ai);exact Ch Z Z Z k.at_ Z ⟨rfl,((b.up Y).trans a.up).trans (k.up Y)⟩
end
end Go.Proofs.YtaccphdkapmdhaaGreat
