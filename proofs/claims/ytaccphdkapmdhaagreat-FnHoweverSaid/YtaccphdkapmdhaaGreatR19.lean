/- The parser does as the grammar says. No condition. -/
import Derived.Test.YtaccphdkapmdhaaGreatR18
namespace Go.Proofs.YtaccphdkapmdhaaGreat
set_option maxRecDepth 100000
set_option maxHeartbeats 64000000
set_option linter.all false
section
attribute [local irreducible] binOp IntKind.wrap Sem.run
def lG (bd C E:Nat) (dc:Array Value) (fz:Nat×Nat) (n:Nat):Prop:=
 ∀(pp:Nat) (ad0:Option Addr) (left:Value) (d:Nat) (ns:List Be) (v:Value) (b r:Bs) (val:Bz) (w:World),Es bd C E dc v b->VV d b val r->b.length<=n->w.heap[bd]?=some (.cells dc 5 fz)->
  PS w pp (.slice ad0 E C) left (d:Int) ns->ns.length+3*b.length<=400000000->
  Calls PP 104 #[.pointer (F pp),v] w fun e w'=>∃v',e=.returned (.tuple #[.int .i32 ((ns.length+1:Nat):Int),v',.nilIface])/\Es bd C E dc v' r/\
   PS w' pp (.slice ad0 E C) left (d:Int) (ns++Df val ns.length)/\Fm pp [52,104] w w'
theorem splice2 (c:List Value) (o:Nat) (x y:Value) (h:o+2<=c.length):c.take o++[x,y]++c.drop (o+2)=(c.set o x).set (o+1) y:=by
 apply List.ext_getElem?;intro i;by_cases h1:i<o
 ·rw [List.getElem?_set_ne (by omega),List.getElem?_set_ne (by omega),List.append_assoc,Yf (by simp;omega),List.getElem?_take,if_pos h1]
 ·by_cases h2:i=o
  ·subst h2;rw [List.getElem?_set_ne (by omega),List.getElem?_set_self (by omega),List.append_assoc,Yg (by simp;omega)];simp [Nat.min_eq_left (show i<=c.length by omega)]
  ·by_cases h3:i=o+1
   ·subst h3;rw [List.getElem?_set_self (by simp;omega),List.append_assoc,Yg (by simp;omega)];simp [Nat.min_eq_left (show o<=c.length by omega)]
   ·rw [List.getElem?_set_ne (by omega),List.getElem?_set_ne (by omega),Yg (by simp;omega),List.getElem?_drop];congr 1;simp;omega
theorem PS.child {w w':World} {pp:Nat} {data left:Value} {nest:Int} {ns:List Be} {g cap:Nat} {cur:Array Value} {xs:List Value} (hb:w.heap[pp]?=some (.cells ⟨[.bool false,data,left,.slice (F g) ns.length cap,.nilIface,.int .i64 nest]⟩ 52 (0,0)))
  (a:pp<g) (b:w.heap[g]?=some (.cells cur 104 (0,0))) (c:ns.length<=cap) (d:cap<=maxLen) (e:cur.size=cap*7) (f:cur.toList.take (ns.length*7)=xs) (hN:NL w pp ns xs)
  (i v:Nat) {n:Be} (hi:ns[i]?=some n) (hS:St w g (.cells (cur.setIfInBounds (i*7+6) (.int .i32 v)) 104 (0,0)) w'):PS w' pp data left nest (ns.set i { n with child:=v }):=
 PS.stored hb a b c d (by simpa using e) (by simp) hS (by
  have:=hN.setChild i v hi;rw [Mg,f];exact this)
theorem PS.nxt {w w':World} {pp:Nat} {data left:Value} {nest:Int} {ns:List Be} {g cap:Nat} {cur:Array Value} {xs:List Value} (hb:w.heap[pp]?=some (.cells ⟨[.bool false,data,left,.slice (F g) ns.length cap,.nilIface,.int .i64 nest]⟩ 52 (0,0)))
  (a:pp<g) (b:w.heap[g]?=some (.cells cur 104 (0,0))) (c:ns.length<=cap) (d:cap<=maxLen) (e:cur.size=cap*7) (f:cur.toList.take (ns.length*7)=xs) (hN:NL w pp ns xs)
  (i v:Nat) {n:Be} (hi:ns[i]?=some n) (hS:St w g (.cells (cur.setIfInBounds (i*7+5) (.int .i32 v)) 104 (0,0)) w'):PS w' pp data left nest (ns.set i { n with next:=v }):=
 PS.stored hb a b c d (by simpa using e) (by simp) hS (by
  have:=hN.setNext i v hi;rw [Mg,f];exact this)
theorem PS.raw {w w':World} {pp:Nat} {data left:Value} {nest:Int} {ns:List Be} {g cap:Nat} {cur:Array Value} {xs:List Value} (hb:w.heap[pp]?=some (.cells ⟨[.bool false,data,left,.slice (F g) ns.length cap,.nilIface,.int .i64 nest]⟩ 52 (0,0)))
  (d:pp<g) (e:w.heap[g]?=some (.cells cur 104 (0,0))) (f:ns.length<=cap) (h:cap<=maxLen) (c:cur.size=cap*7) (j:cur.toList.take (ns.length*7)=xs) (hN:NL w pp ns xs)
  (i:Nat) (a b:Int) {n:Be} (hi:ns[i]?=some n) (hS:St w g (.cells ⟨cur.toList.take (i*7+1)++[.int .u32 a,.int .u32 b]++cur.toList.drop (i*7+1+2)⟩ 104 (0,0)) w'):PS w' pp data left nest ns:=by
 have k:=(Yc.1 hi).1;have hl:cur.toList.length=cap*7:=by simpa using c
 rw [splice2 _ _ _ _ (by omega)] at hS;refine PS.stored hb d e f h (by simpa using c) rfl hS ?_;have:=hN.setRaw i a b hi;rw [<-j,<-List.take_set,<-List.take_set] at this;exact this
section
variable {bd C E:Nat} {dc:Array Value} {fz:Nat×Nat}
theorem Vu {n:Nat} (hV:lG bd C E dc fz n) (pp:Nat) (ad0:Option Addr) (left:Value) (d:Nat) (ns:List Be) (v:Value) (b b1 r:Bs) (ks:List Bs) (val:Bz) (w:World)
  (hv:Es bd C E dc v (Bd b)) (hE:E<=100000000) (hk:Ks b ks (61::b1)) (ac:VV d (Bd b1) val r) (hn:(Bd b1).length<=n) (hD:w.heap[bd]?=some (.cells dc 5 fz))
  (hP:PS w pp (.slice ad0 E C) left (d:Int) ns) (hm:ns.length+3*b.length<=400000000):
  Calls PP 80 #[.pointer (F pp),v] w fun e w'=>∃v',e=.returned (.tuple #[.int .i32 ((ns.length+1:Nat):Int),v',.nilIface])/\Es bd C E dc v' r/\
   PS w' pp (.slice ad0 E C) left (d:Int) (ns++He ks (Df val) ns.length)/\Fm pp [52,104] w w':=by
 have hC:=hv.C63;obtain⟨bh,bs⟩:=hk.len;simp only [Ya] at bh;have bt:=Cw b1;have ap:=ac.len (ns.length+1+ks.length);obtain⟨adv,nv,capv,rfl,af⟩:=hv.capLe;refine Bf (L:=[(0,.pointer (F pp)),(1,.slice adv nv capv)]) Tryz.func80 Z Z Z ⟨Z,Z,V⟩ ?_;repeat first|refine Aa Z ?_|apply Ab|apply Ac
 refine Cx Z Z (Uz _) Z ?_;refine Ae Z Z Z (Ho pp _ left d ns 5 0 0 0 0 _ none w hP trivial (fun s hs=>by cases hs) (by omega)) ?_;rintro e w1 ⟨rfl,bi,aq⟩;refine T2 Z Z ?_;have ar:w1.heap[bd]?=some (.cells dc 5 fz):=aq.keep _ _ hD (by simp [Ce]);have ag:(ns++[(⟨5,none,0,0⟩:Be)]).length=ns.length+1:=by simp
 repeat first|refine Aa Z ?_|apply Ab|apply Ac
 have ad:=aL pp ad0 left d (ns++[(⟨5,none,0,0⟩:Be)]) (.slice adv nv capv) b (61::b1) ks w1 hv hE hk ar bi (by rw [ag];omega);rw [ag] at ad;refine Ae Z Z Z ad ?_;rintro e w2 ⟨v2,rfl,ah,bj,au⟩;refine T2 Z Z ?_;have ai:w2.heap[bd]?=some (.cells dc 5 fz):=au.keep _ _ ar (by simp [Ce]);have aj:=ah.cell ai;have u:=ah;have ak:=ah.cons;subst ak;have bk:=u.le;have bu:=u.EC;simp only [Ya] at bk;repeat first|refine Aa Z ?_|apply Ab|apply Ac|refine Bb Z (by first|with_reducible rfl|exact Bool.not_true) ?_|refine Aj Z (by first|omega|decide) ?_|refine Ax (i:=0) Z Z Z (by omega) Z ?_|refine Aw Z Z aj Z ?_|refine Au Z ?_|apply Ad|apply An|apply Af|refine Az Z Z (by first|omega|decide) ?_
 refine Fw b1.length 1 Z Z (Sf.mk _ _ _) Z (by simp;omega) (by omega) (fun _=>rfl) (fun ad' bl=>?_);skip;refine Ae Z Z Z ((u.tail bl).skip ai) ?_;rintro e w3 ⟨v3,rfl,bm,rfl⟩;refine T2 Z Z ?_;repeat first|refine Aa Z ?_|apply Ab|apply Ac
 have al:(ns++[(⟨5,none,0,0⟩:Be)]++Ck (ns.length+1) ks).length=ns.length+1+ks.length:=by rw [Ye,ag,Cf]
 have av:=hV pp ad0 left d (ns++[(⟨5,none,0,0⟩:Be)]++Ck (ns.length+1) ks) v3 (Bd b1) r val w3 bm ac hn ai bj (by rw [al];omega);rw [al] at av;refine Ae Z Z Z av ?_;rintro e w4 ⟨v4,rfl,aw,ax,bn⟩;refine T2 Z Z ?_;obtain⟨a,l,ay,bv⟩:=Hc val (ns.length+1+ks.length);rw [ay] at ax ap;have bo:(ns++[(⟨5,none,0,0⟩:Be)]++Ck (ns.length+1) ks++a::l).length=ns.length+1+ks.length+1+l.length:=by rw [Ye,al,Ya];omega
 simp only [Ya] at ap;have az:=(aq.trans au).trans bn;obtain⟨g,cap,cur,xs,hb,k,f,m,o,h,p,ab,hN⟩:=ax.open (by omega);have h0:(ns++[(⟨5,none,0,0⟩:Be)]++Ck (ns.length+1) ks++a::l)[ns.length]?=some ⟨5,none,0,0⟩:=by
  rw [List.append_assoc,List.append_assoc,Yg Y];simp
 have j:ns.length*7+6<cur.size:=by rw [h];omega
 repeat first|refine Aa Z ?_|apply Ab|apply Ac|refine Bb Z (by first|with_reducible rfl|exact Bool.not_true) ?_|apply Ad|apply An|apply Af
 refine Ae Z Z Z (On pp g _ cap (ns.length+1) ns.length _ _ _ _ _ w4 hb Z (by omega) (by omega)) ?_;rintro e w5 ⟨rfl,rfl⟩;refine T2 Z Z ?_;repeat (refine Aa Z ?_)
 refine Bk Z Z Z f (Array.getElem?_eq_getElem j) Z (fun w6 am=>?_);have ba:=PS.child hb k f m o h p hN _ _ h0 am;have bp:=az.trans (am.fm f (by omega) (by simp [Ce]) rfl);generalize z:(ns++[(⟨5,none,0,0⟩:Be)]++Ck (ns.length+1) ks++a::l).set ns.length _=ns6 at ba;have bq:ns6.length=ns.length+1+ks.length+1+l.length:=by rw [<-z,List.length_set,bo]
 have e6:ns6=ns++(⟨5,none,0,ns.length+1+ks.length+1⟩::(Ck (ns.length+1) ks++a::l)):=by
  rw [<-z,List.append_assoc,List.append_assoc,List.set_append_right _ _ Y,Nat.sub_self];simp
 have h6:ns6[ns.length+1+ks.length]?=some a:=by
  rw [e6,Yg (by omega),show ns.length+1+ks.length-ns.length=ks.length+1 by omega,List.getElem?_cons_succ,Yg (by rw [Cf];exact Nat.le_refl _),Cf,Nat.sub_self];rfl
 clear z am hb k f m o h p ab hN j h0;obtain⟨g,cap,cur,xs,hb,k,f,m,o,h,p,ab,hN⟩:=ba.open (by omega);have j:(ns.length+1+ks.length)*7+5<cur.size:=by rw [h];omega
 repeat first|refine Aa Z ?_|apply Ab|apply Ac
 refine Ae Z Z Z (On pp g _ cap (ns.length+1+ks.length+1) (ns.length+1+ks.length) _ _ _ _ _ w6 hb Z (by omega) (by omega)) ?_;rintro e w7 ⟨rfl,rfl⟩;refine T2 Z Z ?_;repeat (refine Aa Z ?_)
 refine Bk Z Z Z f (Array.getElem?_eq_getElem j) Z (fun w8 an=>?_);have bb:=PS.nxt hb k f m o h p hN _ _ h6 an;have br:=bp.trans (an.fm f (by omega) (by simp [Ce]) rfl);generalize aa:ns6.set (ns.length+1+ks.length) _=ns8 at bb;have bw:ns8.length=ns.length+1+ks.length+1+l.length:=by rw [<-aa,List.length_set,bq]
 have e8:ns8=ns++He ks (Df val) ns.length:=by
  rw [<-aa,e6,List.set_append_right _ _ (by omega),show ns.length+1+ks.length-ns.length=ks.length+1 by omega,List.set_cons_succ,List.set_append_right _ _ (by rw [Cf];exact Nat.le_refl _),Cf,Nat.sub_self,List.set_cons_zero];unfold He;rw [ay];simp only [No];rw [show ns.length+1+ks.length+1=ns.length+ks.length+2 by omega]
 have h8:∃n8,ns8[ns.length]?=some n8:=⟨_,Yd (by omega)⟩;obtain⟨n8,h8⟩:=h8;clear aa an hb k f m o h p ab hN j;obtain⟨g,cap,cur,xs,hb,k,f,m,o,h,p,ab,hN⟩:=bb.open (by omega);repeat first|refine Aa Z ?_|apply Ab|apply Ac
 refine Ae Z Z Z (On pp g _ cap (ns.length+1) ns.length _ _ _ _ _ w8 hb Z (by omega) (by omega)) ?_;rintro e w9 ⟨rfl,rfl⟩;refine T2 Z Z ?_;repeat (refine Aa Z ?_)
 obtain⟨ad5,nv5,cap5,rfl,ao⟩:=aw.capLe;refine Ae Z Z Z (Xn pp E C nv capv nv5 cap5 ad0 adv ad5 _ _ _ _ _ w9 hb hC af ao) ?_;rintro e bx ⟨x,y,rfl,t⟩;refine T2 Z Z ?_;have bc:=t.at (Ah hb) hb;have q:=t.at (Ah f) f;have be:=hN.fm (t.fm (B':=pp) (T:=[]) Y (Nat.le_of_lt (Ah hb))) (by simp);repeat (refine Aa Z ?_)
 refine Bx (c:=cur.toList) Z Z Z (by simp [Bp]) q (by
  have hl:cur.toList.length=cap*7:=(by simpa using h);omega) Z (fun bz ae=>?_)
 have bf:=PS.raw bc k q m o h p be _ x y h8 ae;have bg:=(br.trans (t.fm (B':=pp) (T:=[52,104]) Y (Nat.le_of_lt (Ah hb)))).trans (ae.fm q (by omega) (by simp [Ce]) rfl);repeat first|refine Aa Z ?_|apply Ab|apply Ac|apply Ai
 refine Ak Z Z ⟨_,rfl,aw,?_,bg⟩;rw [<-e8];exact bf
end
def Ea (K:Nat) (ns:List Be) (ds:List (Nat->List Be)):List Be:=ns++(⟨K,none,0,if ds.isEmpty then 0 else ns.length+2⟩::Cq (ns.length+1) ds)
def Jx (ns:List Be) (ds:List (Nat->List Be)):Nat:=if ds.isEmpty then 0 else Gk (ns.length+1) ds+1
theorem Jk (K:Nat) (ns:List Be) (ds:List (Nat->List Be)):(Ea K ns ds).length=ns.length+1+(Cq (ns.length+1) ds).length:=by
 simp only [Ea,Ye,Ya];omega
theorem Ox:∀(ds:List (Nat->List Be)) (k:Nat),ds≠[]->(∀y∈ds,∀j,∃(a:Be) (l:List Be),y j=a::l)->Gk k ds<k+(Cq k ds).length
 | [],_,h,_=>absurd rfl h
 | [y],k,_,hy=>by
  obtain⟨a,l,h⟩:=hy y (by simp) k;simp [Gk,Cq,h]
 | y::z::ds,k,_,hy=>by
  have:=Ox (z::ds) (k+(y k).length) (by simp) (fun u hu=>hy u (by simp [hu]));simp only [Gk,Cq,Ye,Gp];omega
theorem iI (K:Nat) (ns:List Be) (ds:List (Nat->List Be)) (x:Nat->List Be) (hy:∀y∈ds,∀j,∃(a:Be) (l:List Be),y j=a::l):
  Uf (Ea K ns ds++x (Ea K ns ds).length) (ns.length+1) (Jx ns ds) ((Ea K ns ds).length+1)=Ea K ns (ds++[x])/\Jx ns (ds++[x])=(Ea K ns ds).length+1:=by
 by_cases h0:ds=[]
 ·subst h0;constructor
  ·have e:Uf (Ea K ns []++x (Ea K ns []).length) (ns.length+1) (Jx ns []) ((Ea K ns []).length+1)=(ns++(⟨K,none,0,0⟩::x (ns.length+1))).modify ns.length (fun a=>{ a with child:=ns.length+1+1 }):=by
    simp [Uf,Jx,Ea,Cq]
   rw [e,Lm (a:=⟨K,none,0,0⟩) _ (by rw [Yg Y,Nat.sub_self];rfl),List.set_append_right _ _ Y,Nat.sub_self];simp [Ea,Cq]
  ·simp [Jx,Gk,Ea,Cq]
 ·have b:ds.isEmpty=false:=(by cases ds<;>simp_all);have c:(ds++[x]).isEmpty=false:=(by simp);obtain⟨a,h1,h2,h3⟩:=Ts ds (ns.length+1) x h0 hy;have d:=Sq ds (ns.length+1);have f:=Ox ds (ns.length+1) h0 hy;have hl:=Jk K ns ds;constructor
  ·unfold Uf Jx;simp only [b,Bool.false_eq_true,if_false];rw [if_neg (by omega),Nat.add_sub_cancel];have e:Ea K ns ds++x (Ea K ns ds).length=ns++(⟨K,none,0,ns.length+2⟩::(Cq (ns.length+1) ds++x (ns.length+1+(Cq (ns.length+1) ds).length))):=by
    rw [hl];simp [Ea,b]
   have ei:Gk (ns.length+1) ds-ns.length=(Gk (ns.length+1) ds-(ns.length+1))+1:=(by omega);rw [e,Lm (a:=a) _ (by
    rw [Yg (by omega),ei,List.getElem?_cons_succ,Yf (by omega)];exact h1),List.set_append_right _ _ (by omega),ei,List.set_cons_succ,hl,h2]
   simp [Ea]
  ·unfold Jx;simp only [c,Bool.false_eq_true,if_false];rw [h3,hl]
section
variable {bd C E:Nat} {dc:Array Value} {fz:Nat×Nat}
theorem lF {n:Nat} (hV:lG bd C E dc fz n) (pp:Nat) (ad0:Option Addr) (left:Value) (d:Nat) (ns:List Be) (v:Value) (b r:Bs) (vs:List Bz) (w:World)
  (hv:Es bd C E dc v (91::b)) (hE:E<=100000000) (aj:VA d false b vs r) (hn:b.length<=n) (hD:w.heap[bd]?=some (.cells dc 5 fz))
  (hP:PS w pp (.slice ad0 E C) left (d:Int) ns) (hm:ns.length+1+3*b.length<=400000000):
  Calls PP 121 #[.pointer (F pp),v] w fun e w'=>∃v',e=.returned (.tuple #[.int .i32 ((ns.length+1:Nat):Int),v',.nilIface])/\Es bd C E dc v' r/\
   PS w' pp (.slice ad0 E C) left (d:Int) (Ea 6 ns (Eb vs))/\Fm pp [52,104] w w':=by
 have hC:=hv.C63;have an:=hv;have f:=hv.cons;subst f;have ch:=an.le;have cx:=an.EC;have cy:=hP.lt;simp only [Ya] at ch;refine Bf (L:=[(0,.pointer (F pp)),(1,.slice (some ⟨bd,E-(b.length+1),none⟩) (b.length+1) (C-(E-(b.length+1))))]) Tryz.func121 Z Z Z ⟨Z,Z,V⟩ ?_;repeat (apply Ac)
 refine Gl Z Z Z (fun w1 ak=>?_);have ax:w1.heap[w.heap.size]?=some (.cells ⟨[.pointer (F pp)]⟩ 92 (0,0)):=ak.at_;have bk:=hP.up (ak.up Y);have bl:Fm pp [52,104] w w1:=ak.fm (by omega);have cz:=ak.size;generalize ct:w.heap.size=bx2 at *;repeat first|refine Aa Z ?_|apply Ab|apply Ac|refine Av (b:=bx2) (v:=.pointer (F pp)) Z Z ax Z Z ?_
 refine Cx Z Z (Uz _) Z ?_;refine Ae Z Z Z (Ho pp _ left d ns 6 0 0 0 0 _ none w1 bk trivial (fun s hs=>by cases hs) (by omega)) ?_;rintro e w2 ⟨rfl,bm,ao⟩;refine T2 Z Z ?_;have al:=ao.keep _ _ ax (by simp [Ce]);have da:=ao.size;refine Dk Z Z Z (fun w3 ay=>?_);skip;refine Bk Z Z Z ay.at_ Z Z (fun w4 az=>?_);have ba:w4.heap[w2.heap.size]?=some (.cells ⟨[.int .i32 ((ns.length+1:Nat):Int)]⟩ 21 (0,0)):=az.at_;have ap:Up w2.heap.size w2 w4:=(ay.up Y).trans (az.up Y);have bn:=bm.up ap;have ar:=ap.at (Ah al) al;have bo:Fm pp [52,104] w w4:=(bl.trans ao).trans (ap.fm Y (by omega));have db:w2.heap.size<w4.heap.size:=Ah ba;generalize cu:w2.heap.size=bx7 at *;repeat first|refine Aa Z ?_|apply Ab|apply Ac
 refine Fw b.length 1 Z Z (Sf.mk _ _ _) Z (by simp;omega) (by omega) (fun _=>rfl) (fun ad' bp=>?_);repeat first|refine Aa Z ?_|apply Ab|apply Ac
 refine Dk Z Z Z (fun w5 ai=>?_);have bq:w5.heap[w4.heap.size]?=some (.cells ⟨[.int .i32 0]⟩ 21 (0,0)):=ai.at_;have br:=bn.up (ai.up Y);have au:=ai.keep ba;have av:=ai.keep ar;have bs:Fm pp [52,104] w w5:=bo.trans (ai.fm (by omega));have bb:w4.heap.size≠bx7:=by omega
 have bc:w4.heap.size≠bx2:=by omega
 have cv:bx2<=w4.heap.size:=by omega
 generalize cw:w4.heap.size=bx8 at *;have bt:=an.tail bp;repeat first|refine Aa Z ?_|apply Ab|apply Ac|apply Ag
 refine Bg (σ:=Value×Bs×Bool×List Bz×List Bz) (I:=fun s w'=>VA d s.2.2.1 s.2.1 s.2.2.2.2 r/\s.2.2.2.1++s.2.2.2.2=vs/\Es bd C E dc s.1 s.2.1/\s.2.1.length<=n/\PS w' pp (.slice ad0 E C) left (d:Int) (Ea 6 ns (Eb s.2.2.2.1))/\
   (Ea 6 ns (Eb s.2.2.2.1)).length+3*s.2.1.length<=400000000/\w'.heap[bx2]?=some (.cells ⟨[.pointer (F pp)]⟩ 92 (0,0))/\w'.heap[bx7]?=some (.cells ⟨[.int .i32 ((ns.length+1:Nat):Int)]⟩ 21 (0,0))/\
   w'.heap[bx8]?=some (.cells ⟨[.int .i32 (Jx ns (Eb s.2.2.2.1):Int)]⟩ 21 (0,0))/\Fm pp [52,104] w w')
  (m:=fun s=>s.2.1.length) (Lf:=fun s=>[(1,s.1),(2,.pointer (F bx2)),(7,.pointer (F bx7)),(9,.func (.func 132) #[] #[.pointer (F bx8),.pointer (F bx2),.pointer (F bx7)]),(12,.bool s.2.2.1)]) (_,b,false,[],vs) ⟨aj,rfl,bt,hn,br,by rw [Jk];simpa [Eb,Cq] using hm,av,au,bq,bs⟩ ⟨Z,Z,Z,Z,Z,V⟩ ?_
 clear aj bt hn br av au bq bs hv an bp hP bk bm bn ax al ar ba bl ao bo ak ay ai az ap;rintro⟨v6,b6,af,dn,rs⟩ w6 ⟨aj,ab,bu,hn,y,ci,h2,h7,h8,ac⟩;dsimp only at aj ab bu hn y ci h2 h7 h8 ⊢;have x:w6.heap[bd]?=some (.cells dc 5 fz):=ac.keep _ _ hD (by simp [Ce]);have p:=Cw b6;repeat first|refine Aa Z ?_|apply Ac|apply Ag
 refine Ae Z Z Z (bu.skip x) ?_;rintro e w7 ⟨v8,rfl,l,rfl⟩;refine T2 Z Z ?_;cases aj with
 | close u=>
  rw [u] at l p;have j:=l.cell x;have a:=l;have f:=l.cons;subst f;have q:=a.le;have z:=a.EC;simp only [Ya] at q p;have bv:dn=vs:=(by simpa using ab);subst bv;(repeat first|refine Aa Z ?_|apply Ab|apply Ac|refine Ao Z (by first|omega|decide) ?_|refine Aj Z (by first|omega|decide) ?_|refine Ax (i:=0) Z Z Z (by omega) Z ?_|refine Aw Z Z j Z ?_|apply Ad|apply Ag|apply An|apply Af);refine Cp (fun w'=>w'.heap[bx7]?=some (.cells ⟨[.int .i32 ((ns.length+1:Nat):Int)]⟩ 21 (0,0))) ?_;have dd:w7.drew.heap[bx7]?=some (.cells ⟨[.int .i32 ((ns.length+1:Nat):Int)]⟩ 21 (0,0)):=h7;(repeat first|refine Cg (by kernel_rfl) (by first|trivial|assumption) Z ?_|refine Cl (v:=.int .i32 ((ns.length+1:Nat):Int)) (by kernel_rfl) (by assumption) Z Z (fun w' cj=>Ar cj rfl) Z ?_);refine Dr r.length 1 (by kernel_rfl) (by assumption) Z Z (Sf.mk _ _ _) Z (by simp;omega) (by omega) (fun _=>rfl) (fun ad3 ad=>?_);(repeat (refine Cg (by kernel_rfl) (by first|trivial|assumption) Z ?_));refine Co ?_;(repeat first|apply An|apply Bl|apply Bv|apply Ai);refine Ak Z Z ⟨_,rfl,a.tail ad,y.sm (Sm.refl _).drew,ac.drew⟩
 | @lf _ _ _ b' _ _ u t=>
  rw [u] at l p;have j:=l.cell x;have a:=l;have f:=l.cons;subst f;have q:=a.le;have z:=a.EC;simp only [Ya] at q p;(repeat first|refine Aa Z ?_|apply Ab|apply Ac|refine Ao Z (by first|omega|decide) ?_|refine Aj Z (by first|omega|decide) ?_|refine Ax (i:=0) Z Z Z (by omega) Z ?_|refine Aw Z Z j Z ?_|apply Ad|apply Ag|apply An|apply Af);refine Fw b'.length 1 Z Z (Sf.mk _ _ _) Z (by simp;omega) (by omega) (fun _=>rfl) (fun ad3 ad=>?_);(repeat first|refine Aa Z ?_|apply Ab|apply Ci|refine Kn Z ?_|apply Ba);exact Ap (_,b',af,dn,rs) ⟨t,ab,a.tail ad,(by dsimp only;omega),y,(by dsimp only;omega),h2,h7,h8,ac⟩ (by dsimp only;omega) ⟨Z,Z,Z,Z,Z,V⟩
 | @crlf _ _ _ b' _ _ u t=>
  rw [u] at l p;have j:=l.cell x;have a:=l;have f:=l.cons;simp only [Ya] at f j;subst f;have q:=a.le;have z:=a.EC;simp only [Ya] at q p;have ag:=a.c1 x;simp only [Ya] at ag;(repeat first|refine Aa Z ?_|apply Ab|apply Ac|refine Ao Z (by first|omega|decide) ?_|refine Aj Z (by first|omega|decide) ?_|refine Ax (i:=0) Z Z Z (by omega) Z ?_|refine Aw Z Z j Z ?_|refine Ax (i:=1) Z Z Z (by omega) Z ?_|refine Aw Z Z ag Z ?_|refine Au Z ?_|apply Ad|apply Ag|apply An|apply Af|refine Bc Z Z (by first|omega|decide) ?_);refine Fw b'.length 2 Z Z (Sf.mk _ _ _) Z (by simp;omega) (by omega) (fun _=>rfl) (fun ad3 ad=>?_);have be:=a.drop 2 (by simp) ad;(repeat first|refine Aa Z ?_|apply Ab|apply Cn|apply Ci|refine Kn Z ?_|apply Ba);exact Ap (_,b',af,dn,rs) ⟨t,ab,be,(by dsimp only;omega),y,(by dsimp only;omega),h2,h7,h8,ac⟩ (by dsimp only;omega) ⟨Z,Z,Z,Z,Z,V⟩
 | @cm _ _ _ c b' _ _ u bw t=>
  have ck:=gE bw;simp only [Ya] at ck;rw [u] at l p;have j:=l.cell x;have a:=l;have f:=l.cons;subst f;have q:=a.le;have z:=a.EC;simp only [Ya] at q p;(repeat first|refine Aa Z ?_|apply Ab|apply Ac|refine Ao Z (by first|omega|decide) ?_|refine Aj Z (by first|omega|decide) ?_|refine Ax (i:=0) Z Z Z (by omega) Z ?_|refine Aw Z Z j Z ?_|apply Ad|apply Ag|apply An|apply Af);refine Ae Z Z Z (Kq _ c b' w7 a bw x) ?_;rintro e w8 ⟨v9,v10,rfl,bx,ae⟩;refine T2 Z Z ?_;have bf:=y.sm ae;obtain⟨nv,xs,cl,_,_⟩:=bf;(repeat first|refine Aa Z ?_|apply Ab|apply Ac|refine Bb Z (by first|with_reducible rfl|exact Bool.not_true) ?_|refine Av (b:=bx2) (v:=.pointer (F pp)) Z Z (ae.at h2) Z Z ?_|refine Av (b:=pp) (v:=.bool false) Z Z cl Z Z ?_|apply Ad|apply An|apply Ci|refine Kn Z ?_|apply Af|apply Ba);exact Ap (v10,b',af,dn,rs) ⟨t,ab,bx,(by dsimp only;omega),y.sm ae,(by dsimp only;omega),ae.at h2,ae.at h7,ae.at h8,ac.trans ae.fm⟩ (by dsimp only;omega) ⟨Z,Z,Z,Z,Z,V⟩
 | @comma _ _ b' _ _ u t=>
  rw [u] at l p;have j:=l.cell x;have a:=l;have f:=l.cons;subst f;have q:=a.le;have z:=a.EC;simp only [Ya] at q p;(repeat first|refine Aa Z ?_|apply Ab|apply Ac|refine Bb Z (by first|with_reducible rfl|exact Bool.not_true) ?_|refine Ao Z (by first|omega|decide) ?_|refine Aj Z (by first|omega|decide) ?_|refine Ax (i:=0) Z Z Z (by omega) Z ?_|refine Aw Z Z j Z ?_|apply Ad|apply Ag|apply An|apply Af);refine Fw b'.length 1 Z Z (Sf.mk _ _ _) Z (by simp;omega) (by omega) (fun _=>rfl) (fun ad3 ad=>?_);(repeat first|refine Aa Z ?_|apply Ab|apply Ci|refine Kn Z ?_|apply Ba);exact Ap (_,b',false,dn,rs) ⟨t,ab,a.tail ad,(by dsimp only;omega),y,(by dsimp only;omega),h2,h7,h8,ac⟩ (by dsimp only;omega) ⟨Z,Z,Z,Z,Z,V⟩
 | @val _ _ b1 b2 _ c v0 vs' u cn bg t=>
  rw [u] at l p;have j:=l.cell x;have a:=l;have f:=l.cons;subst f;have q:=a.le;have z:=a.EC;simp only [Ya] at q p;obtain⟨de,df,dg,dh,di⟩:=cn;have co:=bg.len (Ea 6 ns (Eb dn)).length;have cp:=bg.lt;obtain⟨a0,l0,cq,dj⟩:=Hc v0 (Ea 6 ns (Eb dn)).length;have bz:=congrArg List.length cq;simp only [Ya] at co cp bz;(repeat first|refine Aa Z ?_|apply Ab|apply Ac|refine Bb Z (by first|with_reducible rfl|exact Bool.not_true) ?_|refine Aj Z (by first|omega|decide) ?_|refine Ax (i:=0) Z Z Z (by omega) Z ?_|refine Aw Z Z j Z ?_|refine Av (b:=bx2) (v:=.pointer (F pp)) Z Z h2 Z Z ?_|apply Ad|apply Ag|apply An|apply Af);refine Ae Z Z Z (hV pp ad0 left d _ _ (c::b1) b2 v0 w7 a bg (by simp only [Ya];omega) x y (by simp only [Ya];omega)) ?_;rintro e w8 ⟨v9,rfl,be,bf,aq⟩;refine T2 Z Z ?_;have ca:=aq.keep _ _ h2 (by simp [Ce]);have cb:=aq.keep _ _ h7 (by simp [Ce]);have cc:=aq.keep _ _ h8 (by simp [Ce]);obtain⟨cd,cr⟩:=iI 6 ns (Eb dn) (Df v0) (Qi dn);have dk:=Jk 6 ns (Eb dn);have bh:Jx ns (Eb dn)<=(Ea 6 ns (Eb dn)++Df v0 (Ea 6 ns (Eb dn)).length).length:=by
   rw [Ye];unfold Jx;split
   ·omega
   ·have:=Ox (Eb dn) (ns.length+1) (by rintro h;simp_all) (Qi dn);omega
  (repeat first|refine Aa Z ?_|apply Ab|apply Ac|refine Bb Z (by first|with_reducible rfl|exact Bool.not_true) ?_|apply Ad|apply An|apply Af);refine Ae Z Z Z (dR 132 (.inl rfl) pp bx8 bx2 bx7 _ (ns.length+1) ((Ea 6 ns (Eb dn)).length+1) _ left d _ w8 bf (by rw [Ye];omega) cc ca cb ⟨by omega,by rw [Ye];omega⟩ bh) ?_;rintro e w9 ⟨rfl,ce,aw,ah,aa⟩;refine T2 Z Z ?_;rw [cd] at aw;have bi:Fm pp [52,104] w ce:=(ac.trans aq).trans (ah.mono Y (by simp));have cs:=ah.keep _ _ cc (by simp [Ce]);have cf:PS w9 pp (.slice ad0 E C) left (d:Int) (Ea 6 ns (Eb dn++[Df v0])):=by
   obtain⟨nv,xs,q1,q2,q3⟩:=aw;have bj:Fm 0 [21] ce w9:=aa.fm cs O (by simp [Ce]) rfl;refine⟨nv,xs,bj.keep _ _ q1 (by simp [Ce]),Bi q2 (fun k o hk h=>?_),q3.fm bj (by simp)⟩;rcases q2.2 with ⟨rfl,_⟩|⟨g,cap,cur,rfl,_,hg,_⟩
   ·simp [Value.ownBlock] at hk
   ·simp only [Value.ownBlock,Yb] at hk;subst hk;rw [hg] at h;cases h;exact bj.keep _ _ hg (by simp [Ce])
  have am:Eb (dn++[v0])=Eb dn++[Df v0]:=(by rw [Zi];rfl);have cg:(Ea 6 ns (Eb dn++[Df v0])).length=(Ea 6 ns (Eb dn)).length+(Df v0 (Ea 6 ns (Eb dn)).length).length:=by
   rw [<-cd];unfold Uf;split<;>simp
  (repeat first|refine Aa Z ?_|apply Ab|apply Ac|apply Ci|refine Kn Z ?_|apply Ba);refine Ap (v9,b2,true,dn++[v0],vs') ⟨t,by simpa using ab,be,(by dsimp only;omega),(by dsimp only;rw [am];exact cf),?_,aa.keep (ah.keep _ _ ca (by simp [Ce])) (Ne.symm bc),aa.keep (ah.keep _ _ cb (by simp [Ce])) (Ne.symm bb),?_,bi.stN aa (by omega) (by omega)⟩ (by dsimp only;omega) ⟨Z,Z,Z,Z,Z,V⟩
  ·dsimp only;rw [am,cg];omega
  ·dsimp only;rw [am,cr];exact aa.at_
end
section
attribute [local semireducible] WL WC X WD
variable {all:List Oper} {Q:Exit->Act->World->Prop} {N:Nat} {L L':Env} {o:Oper} {rest:List Oper} {w:World} {S:World->Prop} {fuel:Nat} {listed:Array Bool}
theorem nZ {i j f:Nat} {oi oj:Oper} {vs:List Value} {R:Ending->World->Prop} {vj:Value} {wj:World} {Lj:Env} (hr:Region.ready .any all.toArray listed=[i,j]) (hi:all[i]?=some oi) (hj:all[j]?=some oj)
  (gi:Ez all L oi=some true) (gj:Ez all L oj=some true) (hc:Wt L oi.op=some (f,vs)) (b:(Nat.ble 3 f && Nat.blt f 150)=true) (h:Calls PP f vs.toArray w R)
  (rj:∀a,Fr N L a->(execOp a.eval oj).run PP w=.ok (.value vj) wj) (sj:S wj) (dj:Cu N oj vj L=some Lj)
  (ki:∀e w',R e w'->∃v L',e=.returned v/\Cu N oi v L=some L'/\S w'/\WD all Q N S fuel (listed.setIfInBounds i true) L' w')
  (kj:WD all Q N S fuel (listed.setIfInBounds j true) Lj wj):WD all Q N S (fuel+1) listed L w:=fun a hf=>by
 refine wpAnyH_all hr (by simp) fun m hm=>?_;have c:m=i∨m=j:=by simpa using hm
 rcases c with rfl|rfl
 ·unfold wpOp;have d:(all.toArray)[m]?=some oi:=(by simpa using hi);simp only [d,Hq hf gi,if_true];refine .inl ?_;unfold Oper.wp;rw [Mm hf hc (Ml b) w];refine h.mono fun e w' hR=>?_;obtain⟨v,L',rfl,hd,hS,hk⟩:=ki e w' hR;exact⟨hS,hk _ (Ge hf hd)⟩
 ·unfold wpOp;have g:(all.toArray)[m]?=some oj:=(by simpa using hj);simp only [g,Hq hf gj,if_true];refine .inl ?_;unfold Oper.wp;rw [rj a hf];exact⟨sj,kj _ (Ge hf dj)⟩
end
theorem Ks.head {b r:Bs} {ks:List Bs} (h:Ks b ks r):∃c t,Bd b=c::t/\c.toNat≠125/\c.toNat≠10/\c.toNat≠13/\c.toNat≠35/\c.toNat≠44:=by
 have key:∀{x k r':Bs},KP x k r'->∃c t,x=c::t/\c.toNat≠125/\c.toNat≠10/\c.toNat≠13/\c.toNat≠35/\c.toNat≠44:=by
  intro x k r' hk;cases hk with
  | bare h1 h2 h3=>
   cases k with
   | nil=>exact absurd rfl h1
   | cons c k=>
    have:=h2 c (by simp);simp only [Er,decide_eq_true_eq] at this;exact⟨c,_,rfl,by omega,by omega,by omega,by omega,by omega⟩
  | lit h=>exact⟨39,_,rfl,by decide,by decide,by decide,by decide,by decide⟩
  | bas h=>exact⟨34,_,rfl,by decide,by decide,by decide,by decide,by decide⟩
 cases h with
 | one h1 h2=>exact key h1
 | dot h1 h2 h3=>exact key h1
section
variable {bd C E:Nat} {dc:Array Value} {fz:Nat×Nat}
theorem jK {n:Nat} (hV:lG bd C E dc fz n) (pp:Nat) (ad0:Option Addr) (left:Value) (d:Nat) (ns:List Be) (v:Value) (b r:Bs) (vs:List (List Bs×Bz)) (w:World)
  (hv:Es bd C E dc v (123::b)) (hE:E<=100000000) (ao:VT d false b vs r) (hn:b.length<=n) (hD:w.heap[bd]?=some (.cells dc 5 fz))
  (hP:PS w pp (.slice ad0 E C) left (d:Int) ns) (hm:ns.length+1+3*b.length<=400000000):
  Calls PP 122 #[.pointer (F pp),v] w fun e w'=>∃v',e=.returned (.tuple #[.int .i32 ((ns.length+1:Nat):Int),v',.nilIface])/\Es bd C E dc v' r/\
   PS w' pp (.slice ad0 E C) left (d:Int) (Ea 7 ns (Dx vs))/\Fm pp [52,104] w w':=by
 have hC:=hv.C63;have ap:=hv;have l:=hv.cons;subst l;have ct:=ap.le;have dl:=ap.EC;have dm:=hP.lt;simp only [Ya] at ct;refine Bf (L:=[(0,.pointer (F pp)),(1,.slice (some ⟨bd,E-(b.length+1),none⟩) (b.length+1) (C-(E-(b.length+1))))]) Tryz.func122 Z Z Z ⟨Z,Z,V⟩ ?_;repeat (apply Ac)
 refine Gl Z Z Z (fun w1 aq=>?_);have bu:w1.heap[w.heap.size]?=some (.cells ⟨[.pointer (F pp)]⟩ 92 (0,0)):=aq.at_;have bv:=hP.up (aq.up Y);have bw:Fm pp [52,104] w w1:=aq.fm (by omega);have bx:=aq.size;generalize db:w.heap.size=bx2 at *;repeat first|refine Aa Z ?_|apply Ab|refine Cr (x:=.region _ _ true) (σ:=Nat) (fun bx7 w'=>PS w' pp (.slice ad0 E C) left (d:Int) (Ea 7 ns [])/\w'.heap[bx2]?=some (.cells ⟨[.pointer (F pp)]⟩ 92 (0,0))/\w'.heap[bx7]?=some (.cells ⟨[.int .i32 ((ns.length+1:Nat):Int)]⟩ 21 (0,0))/\Fm pp [52,104] w w'/\bx2<bx7) (fun bx7=>[(1,.slice (some ⟨bd,E-(b.length+1),none⟩) (b.length+1) (C-(E-(b.length+1)))),(2,.pointer (F bx2)),(7,.pointer (F bx7))]) ?_ ?_
 ·refine Hi (fun w'=>w'.heap[bx2]?=some (.cells ⟨[.pointer (F pp)]⟩ 92 (0,0))) ?_;have u:w1.drew.heap[bx2]?=some (.cells ⟨[.pointer (F pp)]⟩ 92 (0,0)):=bu;have ar:=bv.sm (Sm.refl w1).drew;have bg:Fm pp [52,104] w w1.drew:=bw.drew;have dd:w1.drew.heap.size=bx2+1:=bx;generalize w1.drew=wd at *;refine Xg 0 (v:=.pointer (F pp)) Z (by kernel_rfl) De.ok u Z Z (fun w' au=>Ar au rfl) Z ?_;refine Xg 1 (v:=.pointer (F pp)) Z (by kernel_rfl) De.ok u Z Z (fun w' au=>Ar au rfl) Z ?_;refine Bw 2 Z (by kernel_rfl) De.ok u Z ?_;refine WD.ts 3 1 0 Z (by kernel_rfl) De.ok u Z Z (Sf.mk _ _ _) Z Z (by omega) (fun _=>rfl) (fun ad1 bx=>?_);have av:∀(bx7:Nat) (w6 w7:World),PS w6 pp (.slice ad0 E C) left (d:Int) (ns++[⟨7,none,0,0⟩])->w6.heap[bx2]?=some (.cells ⟨[.pointer (F pp)]⟩ 92 (0,0))->w6.heap[bx7]?=some (.cells ⟨[.int .i32 0]⟩ 21 (0,0))->Fm pp [52,104] w w6->bx2<bx7->
    St w6 bx7 (.cells ⟨[.int .i32 ((ns.length+1:Nat):Int)]⟩ 21 (0,0)) w7->PS w7 pp (.slice ad0 E C) left (d:Int) (Ea 7 ns [])/\w7.heap[bx2]?=some (.cells ⟨[.pointer (F pp)]⟩ 92 (0,0))/\w7.heap[bx7]?=some (.cells ⟨[.int .i32 ((ns.length+1:Nat):Int)]⟩ 21 (0,0))/\Fm pp [52,104] w w7/\bx2<bx7:=by
   intro bx7 w6 w7 q1 q2 q3 q4 q5 q6;refine⟨q1.fm (B:=0) (T:=[21]) (q6.fm q3 O (by simp [Ce]) rfl) (by simp) (by simp) (by simp),q6.keep q2 (by omega),q6.at_,q4.stN q6 (by omega) (by omega),q5⟩
  have stp:∀{N:Nat} {L:Env} {o:Oper} (bx7:Nat) (w6:World) (a':Act),w6.heap[bx7]?=some (.cells ⟨[.int .i32 0]⟩ 21 (0,0))->Fr N L a'->stA L o.op=some (⟨bx7,0,none⟩,.int .i32 ((ns.length+1:Nat):Int))->(execOp a'.eval o).run PP w6=.ok .skip (w6.setCell ⟨bx7,0,none⟩ (.int .i32 ((ns.length+1:Nat):Int))):=fun bx7 w6 a' hb hf h=>Gr hf h rfl hb rfl;have rng:∀(wx:World),PS wx pp (.slice ad0 E C) left (d:Int) ns->Calls PP 44 #[.pointer (F pp),.slice ad1 1 (C-(E-(b.length+1))-0)] wx fun e w'=>∃a b:Int,e=.returned (.agg ⟨[.int .u32 a,.int .u32 b]⟩)/\Up wx.heap.size wx w':=fun wx hp=>by
   obtain⟨nv,xs,cu,_,_⟩:=hp;exact Jw pp E C ad0 _ _ left nv .nilIface _ wx cu (ap.rg 0 1 (by simp) ad1) hC hE
  have psh:∀(wx:World) (x y:Int),PS wx pp (.slice ad0 E C) left (d:Int) ns->Calls PP 43 #[.pointer (F pp),.agg ⟨[.int .i64 7,.int .u32 x,.int .u32 y,.slice none 0 0,.pointer none,.int .i32 0,.int .i32 0]⟩] wx fun e w'=>
    e=.returned (.int .i32 ((ns.length+1:Nat):Int))/\PS w' pp (.slice ad0 E C) left (d:Int) (ns++[⟨7,none,0,0⟩])/\Fm pp [52,104] wx w':=fun wx x y hp=>
   Ho pp _ left d ns 7 0 0 x y _ none wx hp trivial (fun s hs=>by cases hs) (by omega)
  have alo:∀{N:Nat} {L:Env} {o:Oper} (wx:World) (a':Act),Fr N L a'->alA o.op=some (21,[.int .i32 0])->(execOp a'.eval o).run PP wx=.ok (.value (.pointer (F wx.heap.size))) (wx.alloc (.cells ⟨[.int .i32 0]⟩ 21 (0,0))):=fun wx a' hf h=>cB hf h wx;refine nZ (i:=4) (j:=7) (by kernel_rfl) Z Z Z Z Z Z (rng wd ar) (fun a' hf=>alo wd a' hf rfl) ((Br wd _).keep u) Z ?_ ?_
  ·rintro e wr ⟨x,y,rfl,ag⟩;have ah:=ag.at (Ah u) u;have ba:=ar.up ag;have bz:=bg.trans (ag.fm (B':=pp) (T:=[52,104]) Y (by omega));have de:=ag.size;refine⟨_,_,rfl,rfl,ah,?_⟩;refine Kw 5 (v:=.agg ⟨[.int .i64 7,.int .u32 x,.int .u32 y,.slice none 0 0,.pointer none,.int .i32 0,.int .i32 0]⟩) Z (by kernel_rfl) De.ok ah Z (fun w' _ a' hf=>by rw [Ro hf rfl];simp [iQ]) Z ?_;refine nZ (i:=6) (j:=7) (by kernel_rfl) Z Z Z Z Z Z (psh wr x y ba) (fun a' hf=>alo wr a' hf rfl) ((Br wr _).keep ah) Z ?_ ?_
   ·rintro e wp ⟨rfl,cv,z⟩;have bm:=z.keep _ _ ah (by simp [Ce]);have df:=z.size;refine⟨_,_,rfl,rfl,bm,?_⟩;have ai:=Br wp (.cells ⟨[.int .i32 0]⟩ 21 (0,0));refine Ru 7 (by kernel_rfl) Z Z (fun a' hf=>alo wp a' hf rfl) (ai.keep bm) Z ?_;generalize wp.alloc (.cells ⟨[.int .i32 0]⟩ 21 (0,0))=w6 at ai ⊢;have ab:=ai.keep bm;have ac:=cv.up (ai.up Y);have ad:=(bz.trans z).trans (ai.fm (B:=pp) (T:=[52,104]) (by omega));refine Jr 8 (by kernel_rfl) Z Z (fun a' hf=>stp wp.heap.size _ a' ai.at_ hf rfl) ((Ev _ ai.at_).keep ab (by omega)) Z ?_;refine Eg (by kernel_rfl) ?_;exact Bh wp.heap.size (av wp.heap.size _ _ ac ab ai.at_ ad (by omega) (Ev (i:=0) (.int .i32 ((ns.length+1:Nat):Int)) ai.at_)) ⟨Z,Z,Z,V⟩
   ·have p:=Br wr (.cells ⟨[.int .i32 0]⟩ 21 (0,0));generalize wr.alloc (.cells ⟨[.int .i32 0]⟩ 21 (0,0))=wa at p ⊢;have bb:=p.keep ah;have bc:=ba.up (p.up Y);refine Gy 6 (by kernel_rfl) Z Z Z Z (psh wa x y bc) ?_;rintro e w6 ⟨rfl,ac,z⟩;have ab:=z.keep _ _ bb (by simp [Ce]);have q:=z.keep _ _ p.at_ (by simp [Ce]);refine⟨_,_,rfl,rfl,ab,?_⟩;have ad:=(bz.trans (p.fm (B:=pp) (T:=[52,104]) (by omega))).trans z;refine Jr 8 (by kernel_rfl) Z Z (fun a' hf=>stp wr.heap.size _ a' q hf rfl) ((Ev _ q).keep ab (by omega)) Z ?_;refine Eg (by kernel_rfl) ?_;exact Bh wr.heap.size (av wr.heap.size _ _ ac ab q ad (by omega) (Ev (i:=0) (.int .i32 ((ns.length+1:Nat):Int)) q)) ⟨Z,Z,Z,V⟩
  ·have p:=Br wd (.cells ⟨[.int .i32 0]⟩ 21 (0,0));generalize wd.alloc (.cells ⟨[.int .i32 0]⟩ 21 (0,0))=wa at p ⊢;have bb:=p.keep u;have bc:=ar.up (p.up Y);refine Gy 4 (by kernel_rfl) Z Z Z Z (rng wa bc) ?_;rintro e wr ⟨x,y,rfl,ag⟩;have ah:=ag.at (Ah bb) bb;have ca:=ag.at (Ah p.at_) p.at_;have ba:=bc.up ag;have dg:=p.size;refine⟨_,_,rfl,rfl,ah,?_⟩;refine Kw 5 (v:=.agg ⟨[.int .i64 7,.int .u32 x,.int .u32 y,.slice none 0 0,.pointer none,.int .i32 0,.int .i32 0]⟩) Z (by kernel_rfl) De.ok ah Z (fun w' _ a' hf=>by rw [Ro hf rfl];simp [iQ]) Z ?_;refine Gy 6 (by kernel_rfl) Z Z Z Z (psh wr x y ba) ?_;rintro e w6 ⟨rfl,ac,z⟩;have ab:=z.keep _ _ ah (by simp [Ce]);have q:=z.keep _ _ ca (by simp [Ce]);refine⟨_,_,rfl,rfl,ab,?_⟩;have ad:=((bg.trans (p.fm (B:=pp) (T:=[52,104]) (by omega))).trans (ag.fm (B':=pp) (T:=[52,104]) Y (by omega))).trans z;refine Jr 8 (by kernel_rfl) Z Z (fun a' hf=>stp wd.heap.size _ a' q hf rfl) ((Ev _ q).keep ab (by omega)) Z ?_;refine Eg (by kernel_rfl) ?_;exact Bh wd.heap.size (av wd.heap.size _ _ ac ab q ad (by omega) (Ev (i:=0) (.int .i32 ((ns.length+1:Nat):Int)) q)) ⟨Z,Z,Z,V⟩
 ·rintro bx7 w4 ⟨cb,bh,q,cc,dp⟩;have dq:bx7<w4.heap.size:=Ah q;(repeat first|refine Aa Z ?_|apply Ac);refine Fw b.length 1 Z Z (Sf.mk _ _ _) Z (by simp;omega) (by omega) (fun _=>rfl) (fun ad' cd=>?_);(repeat first|refine Aa Z ?_|apply Ab|apply Ac);refine Dk Z Z Z (fun w5 am=>?_);have ce:w5.heap[w4.heap.size]?=some (.cells ⟨[.int .i32 0]⟩ 21 (0,0)):=am.at_;have cf:=cb.up (am.up Y);have bi:=am.keep q;have bj:=am.keep bh;have cg:Fm pp [52,104] w w5:=cc.trans (am.fm (by omega));have bn:w4.heap.size≠bx7:=(by omega);have bo:w4.heap.size≠bx2:=(by omega);have dh:bx2<=w4.heap.size:=(by omega);generalize di:w4.heap.size=bx8 at *;(repeat first|refine Aa Z ?_|apply Ab|apply Ac|apply Ag);have ch:=ap.tail cd;skip;refine Bg (σ:=Value×Bs×Bool×List (List Bs×Bz)×List (List Bs×Bz)) (I:=fun s w'=>VT d s.2.2.1 s.2.1 s.2.2.2.2 r/\s.2.2.2.1++s.2.2.2.2=vs/\Es bd C E dc s.1 s.2.1/\s.2.1.length<=n/\PS w' pp (.slice ad0 E C) left (d:Int) (Ea 7 ns (Dx s.2.2.2.1))/\
    (Ea 7 ns (Dx s.2.2.2.1)).length+3*s.2.1.length<=400000000/\w'.heap[bx2]?=some (.cells ⟨[.pointer (F pp)]⟩ 92 (0,0))/\w'.heap[bx7]?=some (.cells ⟨[.int .i32 ((ns.length+1:Nat):Int)]⟩ 21 (0,0))/\
    w'.heap[bx8]?=some (.cells ⟨[.int .i32 (Jx ns (Dx s.2.2.2.1):Int)]⟩ 21 (0,0))/\Fm pp [52,104] w w')
   (m:=fun s=>s.2.1.length) (Lf:=fun s=>[(1,s.1),(2,.pointer (F bx2)),(7,.pointer (F bx7)),(9,.func (.func 133) #[] #[.pointer (F bx8),.pointer (F bx2),.pointer (F bx7)]),(12,.bool s.2.2.1)]) (_,b,false,[],vs) ⟨ao,rfl,ch,hn,cf,by rw [Jk];simpa [Dx,Cq] using hm,bj,bi,ce,cg⟩ ⟨Z,Z,Z,Z,Z,V⟩ ?_
  clear ao ch hn cf bj bi ce cg hv ap cd hP bv cb bu bh q bw cc aq am;rintro⟨v6,b6,af,dn,rs⟩ w6 ⟨ao,be,ci,hn,ac,cj,h2,h7,h8,ad⟩;dsimp only at ao be ci hn ac cj h2 h7 h8 ⊢;have aw:w6.heap[bd]?=some (.cells dc 5 fz):=ad.keep _ _ hD (by simp [Ce]);have ae:=Cw b6;(repeat first|refine Aa Z ?_|apply Ac|apply Ag);refine Ae Z Z Z (ci.skip aw) ?_;rintro e w7 ⟨v8,rfl,t,rfl⟩;refine T2 Z Z ?_;cases ao with
  | close an=>
   rw [an] at t ae;have aa:=t.cell aw;have f:=t;have l:=t.cons;subst l;have aj:=f.le;have bk:=f.EC;simp only [Ya] at aj ae;have ck:dn=vs:=(by simpa using be);subst ck;(repeat first|refine Aa Z ?_|apply Ab|apply Ac|refine Ao Z (by first|omega|decide) ?_|refine Aj Z (by first|omega|decide) ?_|refine Ax (i:=0) Z Z Z (by omega) Z ?_|refine Aw Z Z aa Z ?_|apply Ad|apply Ag|apply An|apply Af);refine Cp (fun w'=>w'.heap[bx7]?=some (.cells ⟨[.int .i32 ((ns.length+1:Nat):Int)]⟩ 21 (0,0))) ?_;have dr:w7.drew.heap[bx7]?=some (.cells ⟨[.int .i32 ((ns.length+1:Nat):Int)]⟩ 21 (0,0)):=h7;(repeat first|refine Cg (by kernel_rfl) (by first|trivial|assumption) Z ?_|refine Cl (v:=.int .i32 ((ns.length+1:Nat):Int)) (by kernel_rfl) (by assumption) Z Z (fun w' au=>Ar au rfl) Z ?_);refine Dr r.length 1 (by kernel_rfl) (by assumption) Z Z (Sf.mk _ _ _) Z (by simp;omega) (by omega) (fun _=>rfl) (fun ad3 bp=>?_);(repeat (refine Cg (by kernel_rfl) (by first|trivial|assumption) Z ?_));refine Co ?_;(repeat first|apply An|apply Bl|apply Bv|apply Ai);refine Ak Z Z ⟨_,rfl,f.tail bp,ac.sm (Sm.refl _).drew,ad.drew⟩
  | @comma _ _ b' _ _ an ax=>
   rw [an] at t ae;have aa:=t.cell aw;have f:=t;have l:=t.cons;subst l;have aj:=f.le;have bk:=f.EC;simp only [Ya] at aj ae;(repeat first|refine Aa Z ?_|apply Ab|apply Ac|refine Bb Z (by first|with_reducible rfl|exact Bool.not_true) ?_|refine Ao Z (by first|omega|decide) ?_|refine Aj Z (by first|omega|decide) ?_|refine Ax (i:=0) Z Z Z (by omega) Z ?_|refine Aw Z Z aa Z ?_|apply Ad|apply Ag|apply An|apply Af);refine Fw b'.length 1 Z Z (Sf.mk _ _ _) Z (by simp;omega) (by omega) (fun _=>rfl) (fun ad3 bp=>?_);(repeat first|refine Aa Z ?_|apply Ab|apply Ci|refine Kn Z ?_|apply Ba);exact Ap (_,b',false,dn,rs) ⟨ax,be,f.tail bp,(by dsimp only;omega),ac,(by dsimp only;omega),h2,h7,h8,ad⟩ (by dsimp only;omega) ⟨Z,Z,Z,Z,Z,V⟩
  | @ent _ _ b1 b2 _ ks v0 vs' ay bq ax=>
   obtain⟨c,t1,an,cw⟩:=ay.head;have cl:=ay.len.1;have dj:=Cw b1;have dk:=t;rw [an] at t ae;have aa:=t.cell aw;have f:=t;have l:=t.cons;subst l;have aj:=f.le;have bk:=f.EC;simp only [Ya] at aj ae;obtain⟨ds,dt,du,dv,dw⟩:=cw;have dx:=bq.len ((Ea 7 ns (Dx dn)).length+1+ks.length);have dy:=bq.lt;have dz:=Fi ks (Df v0) (Ea 7 ns (Dx dn)).length;simp only [Ya] at cl;(repeat first|refine Aa Z ?_|apply Ab|apply Ac|refine Bb Z (by first|with_reducible rfl|exact Bool.not_true) ?_|refine Aj Z (by first|omega|decide) ?_|refine Ax (i:=0) Z Z Z (by omega) Z ?_|refine Aw Z Z aa Z ?_|refine Av (b:=bx2) (v:=.pointer (F pp)) Z Z h2 Z Z ?_|apply Ad|apply Ag|apply An|apply Af);rw [<-an] at f;refine Ae Z Z Z (Vu hV pp ad0 left d _ _ b6 b1 b2 ks v0 w7 f hE ay bq (by omega) aw ac cj) ?_;rintro e w8 ⟨v9,rfl,cx,cy,bf⟩;refine T2 Z Z ?_;have cm:=bf.keep _ _ h2 (by simp [Ce]);have cn:=bf.keep _ _ h7 (by simp [Ce]);have co:=bf.keep _ _ h8 (by simp [Ce]);obtain⟨cp,cz⟩:=iI 7 ns (Dx dn) (He ks (Df v0)) (Qj dn);have ea:=Jk 7 ns (Dx dn);have br:Jx ns (Dx dn)<=(Ea 7 ns (Dx dn)++He ks (Df v0) (Ea 7 ns (Dx dn)).length).length:=by
    rw [Ye];unfold Jx;split
    ·omega
    ·have:=Ox (Dx dn) (ns.length+1) (by rintro h;simp_all) (Qj dn);omega
   (repeat first|refine Aa Z ?_|apply Ab|apply Ac|refine Bb Z (by first|with_reducible rfl|exact Bool.not_true) ?_|apply Ad|apply An|apply Af);refine Ae Z Z Z (dR 133 (.inr rfl) pp bx8 bx2 bx7 _ (ns.length+1) ((Ea 7 ns (Dx dn)).length+1) _ left d _ w8 cy (by rw [Ye];omega) co cm cn ⟨by omega,by rw [Ye];omega⟩ br) ?_;rintro e w9 ⟨rfl,cq,bl,al,ak⟩;refine T2 Z Z ?_;rw [cp] at bl;have bs:Fm pp [52,104] w cq:=(ad.trans bf).trans (al.mono Y (by simp));have da:=al.keep _ _ co (by simp [Ce]);have cr:PS w9 pp (.slice ad0 E C) left (d:Int) (Ea 7 ns (Dx dn++[He ks (Df v0)])):=by
    obtain⟨nv,xs,q1,q2,q3⟩:=bl;have bt:Fm 0 [21] cq w9:=ak.fm da O (by simp [Ce]) rfl;refine⟨nv,xs,bt.keep _ _ q1 (by simp [Ce]),Bi q2 (fun k o hk h=>?_),q3.fm bt (by simp)⟩;rcases q2.2 with ⟨rfl,_⟩|⟨g,cap,cur,rfl,_,hg,_⟩
    ·simp [Value.ownBlock] at hk
    ·simp only [Value.ownBlock,Yb] at hk;subst hk;rw [hg] at h;cases h;exact bt.keep _ _ hg (by simp [Ce])
   have az:Dx (dn++[(ks,v0)])=Dx dn++[He ks (Df v0)]:=(by rw [Zj];rfl);have cs:(Ea 7 ns (Dx dn++[He ks (Df v0)])).length=(Ea 7 ns (Dx dn)).length+(He ks (Df v0) (Ea 7 ns (Dx dn)).length).length:=by
    rw [<-cp];unfold Uf;split<;>simp
   (repeat first|refine Aa Z ?_|apply Ab|apply Ac|apply Ci|refine Kn Z ?_|apply Ba);refine Ap (v9,b2,true,dn++[(ks,v0)],vs') ⟨ax,by simpa using be,cx,(by dsimp only;omega),(by dsimp only;rw [az];exact cr),?_,ak.keep (al.keep _ _ cm (by simp [Ce])) (Ne.symm bo),ak.keep (al.keep _ _ cn (by simp [Ce])) (Ne.symm bn),?_,bs.stN ak (by omega) (by omega)⟩ (by dsimp only;omega) ⟨Z,Z,Z,Z,Z,V⟩
   ·dsimp only;rw [az,cs];omega
   ·dsimp only;rw [az,cz];exact ak.at_
end
theorem kF (ns:List Be) (vs:List Bz):Ea 6 ns (Eb vs)=ns++Df (.arr vs) ns.length:=by
 have:(Eb vs).isEmpty=vs.isEmpty:=by cases vs<;>rfl
 simp [Ea,Df,this]
theorem kE (ns:List Be) (vs:List (List Bs×Bz)):Ea 7 ns (Dx vs)=ns++Df (.tbl vs) ns.length:=by
 have:(Dx vs).isEmpty=vs.isEmpty:=by
  cases vs with
  | nil=>rfl
  | cons x l=>obtain⟨ks,v⟩:=x;rfl
 simp [Ea,Df,this]
theorem PS.nested {w w':World} {pp:Nat} {data left:Value} {nest nest':Int} {ns:List Be} {nv:Value} {xs:List Value} (h1:w.heap[pp]?=some (.cells ⟨[.bool false,data,left,nv,.nilIface,.int .i64 nest]⟩ 52 (0,0))) (h2:w.ownsRow (pp+1) 104 7 nv ns.length xs) (h3:NL w pp ns xs)
  (hS:St w pp (.cells ⟨[.bool false,data,left,nv,.nilIface,.int .i64 nest']⟩ 52 (0,0)) w'):PS w' pp data left nest' ns/\Fm pp [52,104] w w':=by
 have hf:Fm pp [52,104] w w':=hS.fm h1 Y (by simp [Ce]) rfl;refine⟨⟨nv,xs,hS.at_,Bi h2 (fun k o hk h=>hS.keep h ?_),h3.fm hf (by simp)⟩,hf⟩;have:=(h2.lt k hk).1;omega
section
variable {bd C E:Nat} {dc:Array Value} {fz:Nat×Nat}
theorem eY (hE:E<=100000000) (n:Nat) (ih:∀m,m<n->lG bd C E dc fz m):lG bd C E dc fz n:=by
 intro pp ad0 left d ns v b r val w hv j y hD hP hm;have hC:=hv.C63;cases val with
 | sc kind text=>exact fC hE pp ad0 left d ns v b r kind text w hv j hD hP (by omega)
 | arr vs=>
  cases j with
  | @arr _ b _ vs h1 h2=>
   have a:=hv.cell hD;have c:=hv;have f:=hv.cons;subst f;have k:=c.le;have z:=c.EC;simp only [Ya] at k hm y;have ac:(91:UInt8).toNat=91:=rfl;have aa:=hP.lt;obtain⟨nv,xs,q1,q2,q3⟩:=hP;refine Bf (L:=[(0,.pointer (F pp)),(1,.slice (some ⟨bd,E-(b.length+1),none⟩) (b.length+1) (C-(E-(b.length+1))))]) Tryz.func104 Z Z Z ⟨Z,Z,V⟩ ?_;(repeat first|refine Aa Z ?_|apply Ab|apply Ac|refine Bn Z (by first|with_reducible rfl|exact Bool.not_false) ?_|refine Aj Z (by first|omega|decide) ?_|refine Ax (i:=0) Z Z Z (by omega) Z ?_|refine Aw Z Z a Z ?_|refine Av (b:=pp) (v:=.int .i64 d) Z Z q1 Z Z ?_|refine Au Z ?_|apply Ad|apply Ag|apply An|apply Af|refine Ay Z Z (by omega) Z ?_|refine Bc Z Z (by first|omega|decide) ?_);refine Bk Z Z Z q1 Z Z (fun w1 l=>?_);obtain⟨o,g⟩:=PS.nested (nest':=((d+1:Nat):Int)) q1 q2 q3 l;have p:w1.heap[bd]?=some (.cells dc 5 fz):=g.keep _ _ hD (by simp [Ce]);(repeat first|refine Aa Z ?_|apply Ab|apply Ac|refine Ao Z (by first|omega|decide) ?_|apply Ad|apply Am);refine Ae Z Z Z (lF (ih b.length (by omega)) pp ad0 left (d+1) ns _ b r vs w1 c hE h2 Y p o (by omega)) ?_;rintro e w2 ⟨v',rfl,q,s,t⟩;refine T2 Z Z ?_;obtain⟨nv2,xs2,p1,p2,p3⟩:=s;(repeat first|refine Aa Z ?_|apply Ab|apply Ac|refine Av (b:=pp) (v:=.int .i64 ((d+1:Nat):Int)) Z Z p1 Z Z ?_|refine Fs Z Z (by omega) Z ?_);refine Bk Z Z Z p1 Z Z (fun w3 u=>?_);obtain⟨h,x⟩:=PS.nested (nest':=((d+1:Nat):Int)-1) p1 p2 p3 u;(repeat first|refine Aa Z ?_|apply Ab|apply Ac|apply Bv|apply Ai);refine Ak Z Z ⟨_,rfl,q,?_,(g.trans t).trans x⟩;rw [<-kF];have e:((d+1:Nat):Int)-1=(d:Int):=(by omega);rw [e] at h;exact h
 | tbl vs=>
  cases j with
  | @tbl _ b _ vs h1 h2=>
   have a:=hv.cell hD;have c:=hv;have f:=hv.cons;subst f;have k:=c.le;have z:=c.EC;simp only [Ya] at k hm y;have ab:(123:UInt8).toNat=123:=rfl;have aa:=hP.lt;obtain⟨nv,xs,q1,q2,q3⟩:=hP;refine Bf (L:=[(0,.pointer (F pp)),(1,.slice (some ⟨bd,E-(b.length+1),none⟩) (b.length+1) (C-(E-(b.length+1))))]) Tryz.func104 Z Z Z ⟨Z,Z,V⟩ ?_;(repeat first|refine Aa Z ?_|apply Ab|apply Ac|refine Ao Z (by first|omega|decide) ?_|refine Aj Z (by first|omega|decide) ?_|refine Ax (i:=0) Z Z Z (by omega) Z ?_|refine Aw Z Z a Z ?_|refine Av (b:=pp) (v:=.int .i64 d) Z Z q1 Z Z ?_|refine Au Z ?_|apply Ad|apply Ag|apply An|apply Af|refine Ay Z Z (by omega) Z ?_|refine Az Z Z (by first|omega|decide) ?_);refine Bk Z Z Z q1 Z Z (fun w1 l=>?_);obtain⟨o,g⟩:=PS.nested (nest':=((d+1:Nat):Int)) q1 q2 q3 l;have p:w1.heap[bd]?=some (.cells dc 5 fz):=g.keep _ _ hD (by simp [Ce]);(repeat first|refine Aa Z ?_|apply Ab|apply Ac|refine Aj Z (by first|omega|decide) ?_|apply Ad|apply Am);refine Ae Z Z Z (jK (ih b.length (by omega)) pp ad0 left (d+1) ns _ b r vs w1 c hE h2 Y p o (by omega)) ?_;rintro e w2 ⟨v',rfl,q,s,t⟩;refine T2 Z Z ?_;obtain⟨nv2,xs2,p1,p2,p3⟩:=s;(repeat first|refine Aa Z ?_|apply Ab|apply Ac|refine Av (b:=pp) (v:=.int .i64 ((d+1:Nat):Int)) Z Z p1 Z Z ?_|refine Fs Z Z (by omega) Z ?_);refine Bk Z Z Z p1 Z Z (fun w3 u=>?_);obtain⟨h,x⟩:=PS.nested (nest':=((d+1:Nat):Int)-1) p1 p2 p3 u;(repeat first|refine Aa Z ?_|apply Ab|apply Ac|apply Bv|apply Ai);refine Ak Z Z ⟨_,rfl,q,?_,(g.trans t).trans x⟩;rw [<-kE];have e:((d+1:Nat):Int)-1=(d:Int):=(by omega);rw [e] at h;exact h
theorem jI (hE:E<=100000000):∀n,lG bd C E dc fz n:=fun n=>
 Nat.strongRecOn n fun n ih=>eY hE n ih
end
end
end Go.Proofs.YtaccphdkapmdhaaGreat
