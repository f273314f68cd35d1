/- What was read is compared, and found the same. No condition. -/
import Derived.Test.YtaccphdkapmdhaaGreatR50
namespace Go.Proofs.YtaccphdkapmdhaaGreat
set_option maxRecDepth 100000
set_option maxHeartbeats 64000000
set_option linter.all false
section
attribute [local irreducible] binOp IntKind.wrap Sem.run
theorem RS.at {w:World} {P:Nat->Prop} {ad:Option Addr} {n cap:Nat} {ks:List Bs} (h:RS w P (.slice ad n cap) ks) {j:Nat} {k:Bs} (hk:ks[j]?=some k):∃b dc fz,ad=some ⟨b,0,none⟩/\P b/\w.heap[b]?=some (.cells dc 9 fz)/\dc[j]?=some (Bm k):=by
 obtain⟨ad',cap',e,h2⟩:=h;cases e;obtain⟨b,dc,fz,⟨h3,_⟩,h4,h5,h6⟩:=h2 (by rintro rfl;simp at hk);exact⟨b,dc,fz,h4,h3,h5,h6 j k hk⟩
theorem Ly (P P':Nat->Prop) (u v:Value) (ks:List Bs) (w:World) (hu:RS w P u ks) (hv:RS w P' v ks) (hl:ks.length<=1000000000):
  Calls PP 71 #[u,v] w fun e w'=>e=.returned (.bool true)/\Sm w w':=by
 obtain⟨ad,cap,rfl,_⟩:=id hu;obtain⟨ad',cap',rfl,_⟩:=id hv;refine Bf (L:=[(0,.slice ad ks.length cap),(1,.slice ad' ks.length cap')]) Tryz.func71 Z Z Z ⟨Z,Z,V⟩ ?_;repeat first|refine Aa Z ?_|apply Ab|apply Ac|refine Aj Z (by first|omega|decide) ?_|apply Ad|apply Ag|apply An|apply Af
 refine Bg (σ:=Nat) (I:=fun j w'=>Sm w w'/\j<=ks.length) (m:=fun j=>ks.length-j)
  (Lf:=fun j=>[(0,.slice ad ks.length cap),(1,.slice ad' ks.length cap'),(12,.int .i64 (ks.length:Int)),(13,.int .i64 (j:Int))]) 0 ⟨Sm.refl _,Nat.zero_le _⟩ ⟨Z,Z,Z,Z,V⟩ ?_
 rintro j w1 ⟨hs,hj⟩;by_cases a:j<ks.length
 ·obtain⟨k,hk⟩:∃k,ks[j]?=some k:=⟨_,Yd a⟩;obtain⟨b,dc1,fz,rfl,_,hb,hc⟩:=hu.at hk;obtain⟨b',dc2,fz',rfl,_,d,f⟩:=hv.at hk;have g:=hs.at hb;have c:=hs.at d;have hd:w1.drew.heap=w1.heap:=rfl;have c1:∀w':World,w'.heap=w1.heap->w'.cell? ⟨b,0+j*1,none⟩=some (Bm k):=fun w' hw=>Ar (by rw [hw];exact g) (by simpa using hc);have c2:∀w':World,w'.heap=w1.heap->w'.cell? ⟨b',0+j*1,none⟩=some (Bm k):=fun w' hw=>Ar (by rw [hw];exact c) (by simpa using f);(repeat first|refine Aa Z ?_|apply Ab|apply Ac|refine Ao Z (by first|omega|decide) ?_|apply Ad|apply Ag|apply An|apply Af);refine Cp (fun w'=>w'.heap=w1.heap) ?_;(repeat first|refine Cg (by kernel_rfl) (by first|trivial|assumption) Z ?_|refine Il (i:=j) (by kernel_rfl) hd Z Z Z a Z ?_|refine Cl (by kernel_rfl) hd Z Z c1 Z ?_|refine Cl (by kernel_rfl) hd Z Z c2 Z ?_);refine Co ?_;(repeat first|refine Aa Z ?_|refine Aj Z (fun h=>h rfl) ?_|apply Am|apply Aq|apply An|apply Bj|apply Af|refine Ay Z Z (by omega) Z ?_);exact Ap (j+1) ⟨hs.drew,by omega⟩ (by omega) ⟨Z,Z,Z,Z,V⟩
 ·(repeat first|refine Aa Z ?_|apply Ab|apply Ac|refine Aj Z (by first|omega|decide) ?_|apply Ad|apply An|apply Cn|apply Ci|apply Ba|apply Ai);exact Ak Z Z ⟨rfl,hs⟩
def eV (v:Bz):Prop:=∀(P P':Nat->Prop) (a b c d a' b' c' d':Value) (ks:List Bs) (w:World),Ik w P v a b c->RS w P d ks->Nd w P' v a' b' c'->RS w P' d' ks->(∀g,P g->g<w.heap.size)->(∀g,P' g->g<w.heap.size)->Pw v->ks.length<=1000000000->
 Calls PP 72 #[.agg ⟨[a,b,c,d]⟩,.agg ⟨[a',b',c',d']⟩] w fun e w'=>e=.returned (.bool true)/\Up w.heap.size w w'
theorem RS.up {w w':World} {P:Nat->Prop} {v:Value} {ks:List Bs} (h:RS w P v ks) (hu:Up w.heap.size w w'):RS w' P v ks:=RS.move9 (Dh.up hu (fun b h _=>h)) h
theorem nisSc (k:Nat) (t:Bs):eV (.sc k t):=by
 intro P P' a b c d a' b' c' d' ks w hI hR hN l hP q hm n;simp only [Pw] at hm;simp only [Ik] at hI;simp only [Nd] at hN;obtain⟨rfl,rfl,ad,cap,rfl⟩:=hI;obtain⟨rfl,rfl,ad',cap',rfl⟩:=hN;refine Bf (L:=[(0,.agg ⟨[.int .i64 (k:Int),Bm t,.slice ad 0 cap,d]⟩),(1,.agg ⟨[.int .i64 (k:Int),Bm t,.slice ad' 0 cap',d']⟩)]) Tryz.func72 Z Z Z ⟨Z,Z,V⟩ ?_;repeat (apply Ac)
 refine Gl Z Z Z (fun w1 hA=>?_);refine Gl Z Z Z (fun w2 f=>?_);have h1:=f.keep hA.at_;have h2:=f.at_;have g:Up w.heap.size w w2:=(hA.up Y).trans (f.up (by rw [hA.size];omega));have o:=hR.up g;have i:=l.up g;clear hA f;have r:(k:Int)<8:=by omega
 repeat first|refine Aa Z ?_|apply Ab|apply Ac|refine Av Z Z h1 Z Z ?_|refine Av Z Z h2 Z Z ?_|refine Az Z Z (fun h=>h rfl) ?_|refine Au Z ?_|apply Ad|refine Bc Z Z (by first|omega|decide) ?_
 refine Ae Z Z Z (Ly P P' d d' ks w2 o i n) ?_;rintro e w3 ⟨rfl,j⟩;refine T2 Z Z ?_;have p:=j.at h1;repeat first|refine Aa Z ?_|apply Ab|apply Ac|refine Bb Z (by first|with_reducible rfl|exact Bool.not_true) ?_|refine Av Z Z p Z Z ?_|refine Au Z ?_|apply Ad|apply Ag|apply An|apply Af
 refine Bg (σ:=Unit) (I:=fun _ w'=>w'=w3) (m:=fun _=>0) (Lf:=fun _=>[(42,.int .i64 0),(43,.int .i64 0)]) () Z ⟨Z,Z,V⟩ ?_;rintro _ w4 rfl;repeat first|refine Aa Z ?_|apply Ab|apply Ac|refine Aj Z (by first|omega|decide) ?_|apply Ad|apply An|apply Cn|apply Ci|apply Ba|apply Ai
 exact Ak Z Z ⟨rfl,g.trans j.up⟩
theorem nisArr (vs:List Bz) (av:∀v∈vs,eV v):eV (.arr vs):=by
 intro P P' a b c d a' b' c' d' ks w hI hR hN aw hP n hm ax;simp only [Pw] at hm;obtain⟨bk,ay⟩:=hm;simp only [Ik] at hI;simp only [Nd] at hN;obtain⟨rfl,rfl,ad,cap,rfl,ah⟩:=hI;obtain⟨rfl,rfl,ad',cap',rfl,ac⟩:=hN;refine Bf (L:=[(0,.agg ⟨[.int .i64 8,Bm [],.slice ad vs.length cap,d]⟩),(1,.agg ⟨[.int .i64 8,Bm [],.slice ad' vs.length cap',d']⟩)]) Tryz.func72 Z Z Z ⟨Z,Z,V⟩ ?_;repeat (apply Ac)
 refine Gl Z Z Z (fun w1 hA=>?_);refine Gl Z Z Z (fun w2 p=>?_);have h1:=p.keep hA.at_;have h2:=p.at_;have bj:w1.heap.size=w.heap.size+1:=hA.size;have r:Up w.heap.size w w2:=(hA.up Y).trans (p.up (by omega));have ai:=hR.up r;have aa:=aw.up r;clear hA p;repeat first|refine Aa Z ?_|apply Ab|apply Ac|refine Av Z Z h1 Z Z ?_|refine Av Z Z h2 Z Z ?_|refine Az Z Z (fun h=>h rfl) ?_|refine Au Z ?_|apply Ad|refine Az Z Z (by first|omega|decide) ?_
 refine Ae Z Z Z (Ly P P' d d' ks w2 ai aa ax) ?_;rintro e w3 ⟨rfl,s⟩;refine T2 Z Z ?_;have ae:=s.at h1;have aj:=s.at h2;have ak:=r.trans s.up;clear h1 h2 ai aa r s;repeat first|refine Aa Z ?_|apply Ab|apply Ac|refine Bb Z (by first|with_reducible rfl|exact Bool.not_true) ?_|refine Av Z Z ae Z Z ?_|refine Au Z ?_|apply Ad|apply Ag|apply An|apply Af
 refine Bg (σ:=Nat) (I:=fun m w'=>Up w3.heap.size w3 w'/\m<=vs.length) (m:=fun m=>vs.length-m)
  (Lf:=fun m=>[(2,pt w.heap.size),(3,pt w1.heap.size),(42,.int .i64 (vs.length:Int)),(43,.int .i64 (m:Int))]) 0 ⟨Up.refl _ _,Nat.zero_le _⟩ ⟨Z,Z,Z,Z,V⟩ ?_
 rintro m w4 ⟨hU,hj⟩;have f:Up w.heap.size w w4:=ak.trans (hU.mono ak.size);by_cases af:m<vs.length
 ·obtain⟨v,hk⟩:∃v,vs[m]?=some v:=⟨_,Yd af⟩;have al:=List.mem_of_getElem? hk;have am:vs≠[]:=(by rintro rfl;simp at af);obtain⟨g,cur,az,rfl,hg,ba⟩:=ah am;obtain⟨g',cur',an,rfl,bb,bc⟩:=ac am;obtain⟨x,y,z,u,bd,be,bf⟩:=ba.get hk;obtain⟨x',y',z',u',bg,bh,ao⟩:=bc.get hk;have ap:=f.at (hP g az) hg;have ab:=f.at (n g' an) bb;have aq:=hU.at (Ah ae) ae;have ar:=hU.at (Ah aj) aj;have l1:=Ah ap;have l2:=Ah ab;have l3:=Ah aq;have l4:=Ah ar;have hd:∀k,k<w4.heap.size->w4.drew.heap[k]?=w4.heap[k]?:=fun _ _=>rfl;have k1:∀w':World,(∀k,k<w4.heap.size->w'.heap[k]?=w4.heap[k]?)->w'.cell? ⟨w.heap.size,0+2,none⟩=some (.slice (F g) vs.length cap):=fun w' hw=>Ar (by rw [hw _ l3];exact aq) rfl;have k2:∀w':World,(∀k,k<w4.heap.size->w'.heap[k]?=w4.heap[k]?)->w'.cell? ⟨w1.heap.size,0+2,none⟩=some (.slice (F g') vs.length cap'):=fun w' hw=>Ar (by rw [hw _ l4];exact ar) rfl;have k3:∀w':World,(∀k,k<w4.heap.size->w'.heap[k]?=w4.heap[k]?)->∀(j:Nat) (q:Value),[x,y,z,u][j]?=some q->w'.cell? ⟨g,0+m*4+j,none⟩=some q:=fun w' hw j q hq=>Ar (by rw [hw _ l1];exact ap) (by rw [Yi,List.getElem?_toArray];exact bd j q hq);have k4:∀w':World,(∀k,k<w4.heap.size->w'.heap[k]?=w4.heap[k]?)->∀(j:Nat) (q:Value),[x',y',z',u'][j]?=some q->w'.cell? ⟨g',0+m*4+j,none⟩=some q:=fun w' hw j q hq=>Ar (by rw [hw _ l2];exact ab) (by rw [Yi,List.getElem?_toArray];exact bg j q hq);have au:=f.size;have t:Up w.heap.size w w4.drew:=f.trans (Sm.refl w4).drew.up;have ag:=av v al P P' x y z u x' y' z' u' [] w4.drew (Ik.move (fun b o hb ho _=>⟨t.at (hP b hb) ho,hb⟩) _ _ _ _ be) (RS.move9 (fun b o hb ho _=>⟨t.at (hP b hb) ho,hb⟩) bf) (Nd.move (fun b o hb ho _=>⟨t.at (n b hb) ho,hb⟩) _ _ _ _ bh) (RS.move9 (fun b o hb ho _=>⟨t.at (n b hb) ho,hb⟩) ao) (fun g hg=>Nat.lt_of_lt_of_le (hP g hg) au) (fun g hg=>Nat.lt_of_lt_of_le (n g hg) au) (ay.mem v al) (by simp);(repeat first|refine Aa Z ?_|apply Ab|apply Ac|refine Ao Z (by first|omega|decide) ?_|apply Ad|apply Ag|apply An|apply Af);refine Cp (fun w'=>∀k,k<w4.heap.size->w'.heap[k]?=w4.heap[k]?) ?_;(repeat first|refine Cg (by kernel_rfl) (by first|trivial|assumption) Z ?_|refine Cl (by kernel_rfl) hd Z Z k1 Z ?_|refine Cl (by kernel_rfl) hd Z Z k2 Z ?_|refine Il (i:=m) (by kernel_rfl) hd Z Z Z af Z ?_|refine Xb (cs:=[x,y,z,u]) (by kernel_rfl) hd Z Z Z k3 Z ?_|refine Xb (cs:=[x',y',z',u']) (by kernel_rfl) hd Z Z Z k4 Z ?_);refine Pf (by kernel_rfl) Z Z Z ag ?_;rintro e w5 ⟨rfl,bi⟩;have l:Up w4.heap.size w4 w5:=(Sm.refl w4).drew.up.trans bi;refine⟨_,_,rfl,rfl,fun k hk=>l.old k hk,?_⟩;have bl:∀k,k<w4.heap.size->w5.heap[k]?=w4.heap[k]?:=fun k hk=>l.old k hk;(repeat (refine Cg (by kernel_rfl) (by first|trivial|assumption) Z ?_));refine Co ?_;(repeat first|refine Aa Z ?_|refine Bb Z (by first|with_reducible rfl|exact Bool.not_true) ?_|apply Am|apply Aq|apply An|apply Bj|apply Af|refine Ay Z Z (by omega) Z ?_);exact Ap (m+1) ⟨hU.trans (l.mono hU.size),by omega⟩ (by omega) ⟨Z,Z,Z,Z,V⟩
 ·(repeat first|refine Aa Z ?_|apply Ab|apply Ac|refine Aj Z (by first|omega|decide) ?_|apply Ad|apply An|apply Cn|apply Ci|apply Ba|apply Ai);exact Ak Z Z ⟨rfl,f⟩
theorem nisTbl (vs:List (List Bs×Bz)) (aw:∀ks v,(ks,v)∈vs->eV v):eV (.tbl vs):=by
 intro P P' a b c d a' b' c' d' ks w hI hR hN ax hP n hm ay;simp only [Pw] at hm;obtain⟨bk,ai⟩:=hm;simp only [Ik] at hI;simp only [Nd] at hN;obtain⟨rfl,rfl,ad,cap,rfl,aj⟩:=hI;obtain⟨rfl,rfl,ad',cap',rfl,ac⟩:=hN;refine Bf (L:=[(0,.agg ⟨[.int .i64 9,Bm [],.slice ad vs.length cap,d]⟩),(1,.agg ⟨[.int .i64 9,Bm [],.slice ad' vs.length cap',d']⟩)]) Tryz.func72 Z Z Z ⟨Z,Z,V⟩ ?_;repeat (apply Ac)
 refine Gl Z Z Z (fun w1 hA=>?_);refine Gl Z Z Z (fun w2 p=>?_);have h1:=p.keep hA.at_;have h2:=p.at_;have bj:w1.heap.size=w.heap.size+1:=hA.size;have r:Up w.heap.size w w2:=(hA.up Y).trans (p.up (by omega));have ak:=hR.up r;have aa:=ax.up r;clear hA p;repeat first|refine Aa Z ?_|apply Ab|apply Ac|refine Av Z Z h1 Z Z ?_|refine Av Z Z h2 Z Z ?_|refine Az Z Z (fun h=>h rfl) ?_|refine Au Z ?_|apply Ad|refine Az Z Z (by first|omega|decide) ?_
 refine Ae Z Z Z (Ly P P' d d' ks w2 ak aa ay) ?_;rintro e w3 ⟨rfl,s⟩;refine T2 Z Z ?_;have ae:=s.at h1;have al:=s.at h2;have am:=r.trans s.up;clear h1 h2 ak aa r s;repeat first|refine Aa Z ?_|apply Ab|apply Ac|refine Bb Z (by first|with_reducible rfl|exact Bool.not_true) ?_|refine Av Z Z ae Z Z ?_|refine Au Z ?_|apply Ad|apply Ag|apply An|apply Af
 refine Bg (σ:=Nat) (I:=fun m w'=>Up w3.heap.size w3 w'/\m<=vs.length) (m:=fun m=>vs.length-m)
  (Lf:=fun m=>[(2,pt w.heap.size),(3,pt w1.heap.size),(42,.int .i64 (vs.length:Int)),(43,.int .i64 (m:Int))]) 0 ⟨Up.refl _ _,Nat.zero_le _⟩ ⟨Z,Z,Z,Z,V⟩ ?_
 rintro m w4 ⟨hU,hj⟩;have f:Up w.heap.size w w4:=am.trans (hU.mono am.size);by_cases af:m<vs.length
 ·obtain⟨⟨kk,v⟩,hk⟩:∃v,vs[m]?=some v:=⟨_,Yd af⟩;have ag:=List.mem_of_getElem? hk;have an:vs≠[]:=(by rintro rfl;simp at af);obtain⟨g,cur,az,rfl,hg,ba⟩:=aj an;obtain⟨g',cur',ao,rfl,bb,bc⟩:=ac an;obtain⟨x,y,z,u,bd,be,bf⟩:=ba.get hk;obtain⟨x',y',z',u',bg,bh,ap⟩:=bc.get hk;have aq:=f.at (hP g az) hg;have ab:=f.at (n g' ao) bb;have ar:=hU.at (Ah ae) ae;have au:=hU.at (Ah al) al;have l1:=Ah aq;have l2:=Ah ab;have l3:=Ah ar;have l4:=Ah au;have hd:∀k,k<w4.heap.size->w4.drew.heap[k]?=w4.heap[k]?:=fun _ _=>rfl;have k1:∀w':World,(∀k,k<w4.heap.size->w'.heap[k]?=w4.heap[k]?)->w'.cell? ⟨w.heap.size,0+2,none⟩=some (.slice (F g) vs.length cap):=fun w' hw=>Ar (by rw [hw _ l3];exact ar) rfl;have k2:∀w':World,(∀k,k<w4.heap.size->w'.heap[k]?=w4.heap[k]?)->w'.cell? ⟨w1.heap.size,0+2,none⟩=some (.slice (F g') vs.length cap'):=fun w' hw=>Ar (by rw [hw _ l4];exact au) rfl;have k3:∀w':World,(∀k,k<w4.heap.size->w'.heap[k]?=w4.heap[k]?)->∀(j:Nat) (q:Value),[x,y,z,u][j]?=some q->w'.cell? ⟨g,0+m*4+j,none⟩=some q:=fun w' hw j q hq=>Ar (by rw [hw _ l1];exact aq) (by rw [Yi,List.getElem?_toArray];exact bd j q hq);have k4:∀w':World,(∀k,k<w4.heap.size->w'.heap[k]?=w4.heap[k]?)->∀(j:Nat) (q:Value),[x',y',z',u'][j]?=some q->w'.cell? ⟨g',0+m*4+j,none⟩=some q:=fun w' hw j q hq=>Ar (by rw [hw _ l2];exact ab) (by rw [Yi,List.getElem?_toArray];exact bg j q hq);have av:=f.size;have t:Up w.heap.size w w4.drew:=f.trans (Sm.refl w4).drew.up;have ah:=aw kk v ag P P' x y z u x' y' z' u' kk w4.drew (Ik.move (fun b o hb ho _=>⟨t.at (hP b hb) ho,hb⟩) _ _ _ _ be) (RS.move9 (fun b o hb ho _=>⟨t.at (hP b hb) ho,hb⟩) bf) (Nd.move (fun b o hb ho _=>⟨t.at (n b hb) ho,hb⟩) _ _ _ _ bh) (RS.move9 (fun b o hb ho _=>⟨t.at (n b hb) ho,hb⟩) ap) (fun g hg=>Nat.lt_of_lt_of_le (hP g hg) av) (fun g hg=>Nat.lt_of_lt_of_le (n g hg) av) (ai.mem kk v ag).2 (ai.mem kk v ag).1.2;(repeat first|refine Aa Z ?_|apply Ab|apply Ac|refine Ao Z (by first|omega|decide) ?_|apply Ad|apply Ag|apply An|apply Af);refine Cp (fun w'=>∀k,k<w4.heap.size->w'.heap[k]?=w4.heap[k]?) ?_;(repeat first|refine Cg (by kernel_rfl) (by first|trivial|assumption) Z ?_|refine Cl (by kernel_rfl) hd Z Z k1 Z ?_|refine Cl (by kernel_rfl) hd Z Z k2 Z ?_|refine Il (i:=m) (by kernel_rfl) hd Z Z Z af Z ?_|refine Xb (cs:=[x,y,z,u]) (by kernel_rfl) hd Z Z Z k3 Z ?_|refine Xb (cs:=[x',y',z',u']) (by kernel_rfl) hd Z Z Z k4 Z ?_);refine Pf (by kernel_rfl) Z Z Z ah ?_;rintro e w5 ⟨rfl,bi⟩;have l:Up w4.heap.size w4 w5:=(Sm.refl w4).drew.up.trans bi;refine⟨_,_,rfl,rfl,fun k hk=>l.old k hk,?_⟩;have bl:∀k,k<w4.heap.size->w5.heap[k]?=w4.heap[k]?:=fun k hk=>l.old k hk;(repeat (refine Cg (by kernel_rfl) (by first|trivial|assumption) Z ?_));refine Co ?_;(repeat first|refine Aa Z ?_|refine Bb Z (by first|with_reducible rfl|exact Bool.not_true) ?_|apply Am|apply Aq|apply An|apply Bj|apply Af|refine Ay Z Z (by omega) Z ?_);exact Ap (m+1) ⟨hU.trans (l.mono hU.size),by omega⟩ (by omega) ⟨Z,Z,Z,Z,V⟩
 ·(repeat first|refine Aa Z ?_|apply Ab|apply Ac|refine Aj Z (by first|omega|decide) ?_|apply Ad|apply An|apply Cn|apply Ci|apply Ba|apply Ai);exact Ak Z Z ⟨rfl,f⟩
mutual
theorem aG:∀(v:Bz),eV v
 | .sc k t=>nisSc k t
 | .arr vs=>nisArr vs (nis_allI vs)
 | .tbl es=>nisTbl es (nis_allE es)
theorem nis_allI:∀(vs:List Bz),∀v∈vs,eV v
 | [],v,hv=>by simp at hv
 | u::us,v,hv=>by
  rcases List.mem_cons.1 hv with e|hv
  ·rw [e];exact aG u
  ·exact nis_allI us v hv
theorem nis_allE:∀(es:List (List Bs×Bz)),∀ks v,(ks,v)∈es->eV v
 | [],ks,v,hv=>by simp at hv
 | (ks',u)::us,ks,v,hv=>by
  rcases List.mem_cons.1 hv with e|hv
  ·simp only [Prod.mk.injEq] at e;rw [e.2];exact aG u
  ·exact nis_allE us ks v hv
end
theorem aZ (P P':Nat->Prop) (u v:Value) (es:List Ex) (w:World) (hu:LkV w P u es) (hv:Rx w P' v es) (hP:∀g,P g->g<w.heap.size) (p:∀g,P' g->g<w.heap.size) (am:∀x∈es,MkX x) (hl:es.length<=1000000000):
  Calls PP 36 #[u,v] w fun e w'=>e=.returned (.bool true)/\Up w.heap.size w w':=by
 obtain⟨ad,cap,rfl,ac⟩:=hu;obtain⟨ad',cap',rfl,s⟩:=hv;refine Bf (L:=[(0,.slice ad es.length cap),(1,.slice ad' es.length cap')]) Tryz.func36 Z Z Z ⟨Z,Z,V⟩ ?_;repeat first|refine Aa Z ?_|apply Ab|apply Ac|refine Aj Z (by first|omega|decide) ?_|apply Ad|apply Ag|apply An|apply Af
 refine Bg (σ:=Nat) (I:=fun m w'=>Up w.heap.size w w'/\m<=es.length) (m:=fun m=>es.length-m)
  (Lf:=fun m=>[(0,.slice ad es.length cap),(1,.slice ad' es.length cap'),(12,.int .i64 (es.length:Int)),(13,.int .i64 (m:Int))]) 0 ⟨Up.refl _ _,Nat.zero_le _⟩ ⟨Z,Z,Z,Z,V⟩ ?_
 rintro m w4 ⟨hU,hj⟩;by_cases n:m<es.length
 ·obtain⟨x,hk⟩:∃x,es[m]?=some x:=⟨_,Yd n⟩;have an:=List.mem_of_getElem? hk;have ae:es≠[]:=(by rintro rfl;simp at n);obtain⟨az,ao,ap⟩:=am x an;obtain⟨g,cur,rfl,aq,hg,ar⟩:=ac ae;obtain⟨g',cur',rfl,af,au⟩:=s ae;obtain⟨kv,a,b,c,d,ag,av,t,aw⟩:=ar.get hk;obtain⟨kv',a',b',c',d',ah,ai,y,aj⟩:=au.get hk;have ak:=hU.at (hP g aq) hg;have r:=hU.at (Ah af) af;have l1:=Ah ak;have l2:=Ah r;have hd:∀k,k<w4.heap.size->w4.drew.heap[k]?=w4.heap[k]?:=fun _ _=>rfl;have q1:∀w':World,(∀k,k<w4.heap.size->w'.heap[k]?=w4.heap[k]?)->∀(j:Nat) (q:Value),[.int .i64 (Hh x:Int),kv,a,b,c,d][j]?=some q->w'.cell? ⟨g,0+m*6+j,none⟩=some q:=fun w' hw j q hq=>Ar (by rw [hw _ l1];exact ak) (by rw [Yi,List.getElem?_toArray];exact ag j q hq);have q2:∀w':World,(∀k,k<w4.heap.size->w'.heap[k]?=w4.heap[k]?)->∀(j:Nat) (q:Value),[.int .i64 (Hh x:Int),kv',a',b',c',d'][j]?=some q->w'.cell? ⟨g',0+m*6+j,none⟩=some q:=fun w' hw j q hq=>Ar (by rw [hw _ l2];exact r) (by rw [Yi,List.getElem?_toArray];exact ah j q hq);have k0:∀w':World,(∀k,k<w4.heap.size->w'.heap[k]?=w4.heap[k]?)->w'.cell? ⟨g,0+m*6+0,none⟩=some (.int .i64 (Hh x:Int)):=fun w' hw=>q1 w' hw 0 _ rfl;have k1:∀w':World,(∀k,k<w4.heap.size->w'.heap[k]?=w4.heap[k]?)->w'.cell? ⟨g,0+m*6+1,none⟩=some kv:=fun w' hw=>q1 w' hw 1 _ rfl;have k0':∀w':World,(∀k,k<w4.heap.size->w'.heap[k]?=w4.heap[k]?)->w'.cell? ⟨g',0+m*6+0,none⟩=some (.int .i64 (Hh x:Int)):=fun w' hw=>q2 w' hw 0 _ rfl;have k1':∀w':World,(∀k,k<w4.heap.size->w'.heap[k]?=w4.heap[k]?)->w'.cell? ⟨g',0+m*6+1,none⟩=some kv':=fun w' hw=>q2 w' hw 1 _ rfl;have k2:∀w':World,(∀k,k<w4.heap.size->w'.heap[k]?=w4.heap[k]?)->∀(j:Nat) (q:Value),[a,b,c,d][j]?=some q->w'.cell? ⟨g,0+m*6+2+j,none⟩=some q:=fun w' hw j q hq=>by
   have:=q1 w' hw (j+1+1) q (by simpa using hq);rwa [show 0+m*6+2+j=0+m*6+(j+1+1) by omega]
  have k2':∀w':World,(∀k,k<w4.heap.size->w'.heap[k]?=w4.heap[k]?)->∀(j:Nat) (q:Value),[a',b',c',d'][j]?=some q->w'.cell? ⟨g',0+m*6+2+j,none⟩=some q:=fun w' hw j q hq=>by
   have:=q2 w' hw (j+1+1) q (by simpa using hq);rwa [show 0+m*6+2+j=0+m*6+(j+1+1) by omega]
  have ba:=hU.size;have z:Up w.heap.size w w4.drew:=hU.trans (Sm.refl w4).drew.up;clear ag ah q1 q2;(repeat first|refine Aa Z ?_|apply Ab|apply Ac|refine Ao Z (by first|omega|decide) ?_|apply Ad|apply Ag|apply An|apply Af);refine Cp (fun w'=>∀k,k<w4.heap.size->w'.heap[k]?=w4.heap[k]?) ?_;(repeat first|refine Cg (by kernel_rfl) (by first|trivial|assumption) Z ?_|refine Il (i:=m) (by kernel_rfl) hd Z Z Z n Z ?_|refine Cl (by kernel_rfl) hd Z Z k0 Z ?_|refine Cl (by kernel_rfl) hd Z Z k0' Z ?_|refine Cl (by kernel_rfl) hd Z Z k1 Z ?_|refine Cl (by kernel_rfl) hd Z Z k1' Z ?_|refine Ua Z Z (fun h=>h rfl) ?_);refine Pf (by kernel_rfl) Z Z Z (Ly P P' kv kv' (Cz x) w4.drew (RS.move9 (fun b o hb ho _=>⟨z.at (hP b hb) ho,hb⟩) av) (RS.move9 (fun b o hb ho _=>⟨z.at (p b hb) ho,hb⟩) ai) ao) ?_;rintro e w5 ⟨rfl,aa⟩;have f:∀k,k<w4.heap.size->w5.heap[k]?=w4.heap[k]?:=fun k hk=>(by rw [aa.heap];rfl);have l:Up w.heap.size w w5:=z.trans aa.up;refine⟨_,_,rfl,rfl,f,?_⟩;cases x with
  | kv ks vv=>
   obtain⟨v1,⟨ax,_⟩,y⟩:=y;obtain rfl:vv=v1:=(ax rfl).symm;have t:=t rfl;have ab:=aG vv P P' a b c d a' b' c' d' [] w5 (Ik.move (fun b o hb ho _=>⟨l.at (hP b hb) ho,hb⟩) _ _ _ _ t) (RS.move9 (fun b o hb ho _=>⟨l.at (hP b hb) ho,hb⟩) aw) (Nd.move (fun b o hb ho _=>⟨l.at (p b hb) ho,hb⟩) _ _ _ _ y) (RS.move9 (fun b o hb ho _=>⟨l.at (p b hb) ho,hb⟩) aj) (fun g hg=>Nat.lt_of_lt_of_le (hP g hg) l.size) (fun g hg=>Nat.lt_of_lt_of_le (p g hg) l.size) ap (by simp);(repeat first|refine Cg (by kernel_rfl) (by first|trivial|assumption) Z ?_|refine Il (i:=m) (by kernel_rfl) f Z Z Z n Z ?_|refine Cl (by kernel_rfl) f Z Z k0' Z ?_|refine Xb (cs:=[a,b,c,d]) (by kernel_rfl) f Z Z Z k2 Z ?_|refine Xb (cs:=[a',b',c',d']) (by kernel_rfl) f Z Z Z k2' Z ?_|refine Xc Z Z Z ?_);refine Pf (by kernel_rfl) Z Z Z ab ?_;rintro e w6 ⟨rfl,al⟩;have ay:∀k,k<w4.heap.size->w6.heap[k]?=w4.heap[k]?:=fun k hk=>(by rw [<-f k hk];exact al.old k (by rw [aa.heap];exact hk));refine⟨_,_,rfl,rfl,ay,?_⟩;(repeat (refine Cg (by kernel_rfl) (by first|trivial|assumption) Z ?_));refine Co ?_;(repeat first|refine Aa Z ?_|refine Bb Z (by first|with_reducible rfl|exact Bool.not_true) ?_|apply Am|apply Aq|apply An|apply Bj|apply Af|refine Ay Z Z (by omega) Z ?_);exact Ap (m+1) ⟨l.trans (al.mono l.size),by omega⟩ (by omega) ⟨Z,Z,Z,Z,V⟩
  | tab ks=>
   (repeat first|refine Cg (by kernel_rfl) (by first|trivial|assumption) Z ?_|refine Il (i:=m) (by kernel_rfl) f Z Z Z n Z ?_|refine Cl (by kernel_rfl) f Z Z k0' Z ?_|refine Ua Z Z (by simp [Hh]) ?_);refine Co ?_;(repeat first|refine Aa Z ?_|refine Bb Z (by first|with_reducible rfl|exact Bool.not_true) ?_|apply Am|apply Aq|apply An|apply Bj|apply Af|refine Ay Z Z (by omega) Z ?_);exact Ap (m+1) ⟨l,by omega⟩ (by omega) ⟨Z,Z,Z,Z,V⟩
  | atab ks=>
   (repeat first|refine Cg (by kernel_rfl) (by first|trivial|assumption) Z ?_|refine Il (i:=m) (by kernel_rfl) f Z Z Z n Z ?_|refine Cl (by kernel_rfl) f Z Z k0' Z ?_|refine Ua Z Z (by simp [Hh]) ?_);refine Co ?_;(repeat first|refine Aa Z ?_|refine Bb Z (by first|with_reducible rfl|exact Bool.not_true) ?_|apply Am|apply Aq|apply An|apply Bj|apply Af|refine Ay Z Z (by omega) Z ?_);exact Ap (m+1) ⟨l,by omega⟩ (by omega) ⟨Z,Z,Z,Z,V⟩
 ·(repeat first|refine Aa Z ?_|apply Ab|apply Ac|refine Aj Z (by first|omega|decide) ?_|apply Ad|apply An|apply Cn|apply Ci|apply Ba|apply Ai);exact Ak Z Z ⟨rfl,hU⟩
def MkW:Bz->Prop
 | .sc _ _=>True
 | .arr vs=>Pw (.arr vs)
 | .tbl es=>Pw (.tbl es)
theorem Pw.w {v:Bz} (h:Pw v):MkW v:=by
 cases v with
 | sc k t=>trivial
 | arr vs=>exact h
 | tbl es=>exact h
def Tz (v:Bz):Prop:=∀(P:Nat->Prop) (a b c d:Value) (w:World),Nd w P v a b c->Bp d=true->(∀g,P g->g<w.heap.size)->MkW v->
 Calls PP 67 #[.agg ⟨[a,b,c,d]⟩] w fun e w'=>∃r,e=.returned (.bool r)/\Up w.heap.size w w'
theorem wideSc (k:Nat) (t:Bs):Tz (.sc k t):=by
 intro P a b c d w hN hd hP _;simp only [Nd] at hN;obtain⟨rfl,rfl,ad,cap,rfl⟩:=hN;refine Bf (L:=[(0,.agg ⟨[.int .i64 (k:Int),Bm t,.slice ad 0 cap,d]⟩)]) Tryz.func67 Z Z Z ⟨Z,V⟩ ?_;repeat (apply Ac)
 refine Gl Z Z Z (fun w1 hA=>?_);have h1:=hA.at_;have e:Up w.heap.size w w1:=hA.up Y;clear hA;by_cases hk:(k:Int)=1
 ·by_cases ht:(18:Int)<((ByteArray.mk t.toArray).size:Int)
  ·(repeat first|refine Aa Z ?_|apply Ab|apply Ac|refine Ao Z (by first|omega|decide) ?_|refine Av Z Z h1 Z Z ?_|refine Bc Z Z hk ?_|refine Au Z ?_|apply Ad|apply Bl|apply Ai);exact Ak Z Z ⟨_,rfl,e⟩
  ·(repeat first|refine Aa Z ?_|apply Ab|apply Ac|refine Aj Z (by first|omega|decide) ?_|refine Av Z Z h1 Z Z ?_|refine Bc Z Z hk ?_|refine Au Z ?_|apply Ad|apply Ag|apply An|apply Af);refine Bg (σ:=Unit) (I:=fun _ w'=>w'=w1) (m:=fun _=>0) (Lf:=fun _=>[(16,.int .i64 0),(17,.int .i64 0)]) () Z ⟨Z,Z,V⟩ ?_;rintro _ w4 rfl;(repeat first|refine Aa Z ?_|apply Ab|apply Ac|refine Aj Z (by first|omega|decide) ?_|apply Ad|apply An|apply Cn|apply Ci|apply Ba|apply Ai);exact Ak Z Z ⟨_,rfl,e⟩
 ·(repeat first|refine Aa Z ?_|apply Ab|apply Ac|refine Bb Z (by first|with_reducible rfl|exact Bool.not_true) ?_|refine Av Z Z h1 Z Z ?_|refine Az Z Z hk ?_|refine Au Z ?_|apply Ad|apply Ag|apply An|apply Af);refine Bg (σ:=Unit) (I:=fun _ w'=>w'=w1) (m:=fun _=>0) (Lf:=fun _=>[(16,.int .i64 0),(17,.int .i64 0)]) () Z ⟨Z,Z,V⟩ ?_;rintro _ w4 rfl;(repeat first|refine Aa Z ?_|apply Ab|apply Ac|refine Aj Z (by first|omega|decide) ?_|apply Ad|apply An|apply Cn|apply Ci|apply Ba|apply Ai);exact Ak Z Z ⟨_,rfl,e⟩
theorem wideArr (vs:List Bz) (ab:∀v∈vs,Tz v):Tz (.arr vs):=by
 intro P a b c d w hN ak hP hm;simp only [MkW,Pw] at hm;obtain⟨al,ac⟩:=hm;simp only [Nd] at hN;obtain⟨rfl,rfl,ad,cap,rfl,p⟩:=hN;refine Bf (L:=[(0,.agg ⟨[.int .i64 8,Bm [],.slice ad vs.length cap,d]⟩)]) Tryz.func67 Z Z Z ⟨Z,V⟩ ?_;repeat (apply Ac)
 refine Gl Z Z Z (fun w1 hA=>?_);have h1:=hA.at_;have q:Up w.heap.size w w1:=hA.up Y;clear hA;repeat first|refine Aa Z ?_|apply Ab|apply Ac|refine Bb Z (by first|with_reducible rfl|exact Bool.not_true) ?_|refine Av Z Z h1 Z Z ?_|refine Au Z ?_|apply Ad|apply Ag|apply An|apply Af|refine Az Z Z (by first|omega|decide) ?_
 refine Bg (σ:=Nat) (I:=fun m w'=>Up w.heap.size w w'/\m<=vs.length) (m:=fun m=>vs.length-m)
  (Lf:=fun m=>[(15,.slice ad vs.length cap),(16,.int .i64 (vs.length:Int)),(17,.int .i64 (m:Int))]) 0 ⟨q,Nat.zero_le _⟩ ⟨Z,Z,Z,V⟩ ?_
 clear q h1;rintro m w2 ⟨hU,hj⟩;by_cases k:m<vs.length
 ·obtain⟨v,hk⟩:∃v,vs[m]?=some v:=⟨_,Yd k⟩;have s:=List.mem_of_getElem? hk;have ae:vs≠[]:=(by rintro rfl;simp at k);obtain⟨g,cur,af,rfl,hg,ag⟩:=p ae;obtain⟨a',b',c',d',f,t,hR⟩:=ag.get hk;obtain⟨o1,o2,o3,_⟩:=t.one;have o4:=hR.one;have ah:=hU.at (hP g af) hg;have u:=hU.size;have y:∀(j:Nat) (x:Value),[a',b',c',d'][j]?=some x->w2.cell? ⟨g,m*4+j,none⟩=some x:=fun j x hx=>Ar ah (by rw [List.getElem?_toArray];exact f j x hx);(repeat first|refine Aa Z ?_|apply Ab|apply Ac|refine Ao Z (by first|omega|decide) ?_|refine Ax (i:=m) Z Z Z k (by rw [Yi];rfl) ?_|refine Jv (cs:=[a',b',c',d']) Z Z Z y Z ?_|apply Ad|apply Ag|apply An|apply Af);refine Dk Z Z Z (fun w3 l=>?_);skip;refine Bx Z Z Z (by simp [o1,o2,o3,o4]) l.at_ (by simp) Z (fun w4 n=>?_);have ai:w4.heap[w2.heap.size]?=some (.cells ⟨[a',b',c',d']⟩ 37 (0,0)):=(by simpa using n.at_);have h:Up w.heap.size w w4:=(hU.trans (l.up u)).trans (n.up u);have z:Nd w4 P v a' b' c':=Nd.move (fun g o hg ho _=>⟨h.at (hP g hg) ho,hg⟩) _ _ _ _ t;clear l n y;(repeat first|apply Ab|apply Ac|refine Fz Z Z ai Z Z ?_);refine Ae Z Z Z (ab v s P a' b' c' d' w4 z o4 (fun g hg=>Nat.lt_of_lt_of_le (hP g hg) h.size) (ac.mem v s).w) ?_;rintro e w5 ⟨r,rfl,aj⟩;refine T2 Z Z ?_;have aa:=h.trans (aj.mono h.size);cases r with
  | true=>
   (repeat first|refine Aa Z ?_|apply Ab|apply Ac|refine Bn Z (by first|with_reducible rfl|exact Bool.not_false) ?_|apply Bl|apply Bv|apply Ai);exact Ak Z Z ⟨_,rfl,aa⟩
  | false=>
   (repeat first|refine Aa Z ?_|apply Ab|refine Bb Z (by first|with_reducible rfl|exact Bool.not_true) ?_|apply Am|apply Aq|apply An|apply Bj|apply Af|refine Ay Z Z (by omega) Z ?_);exact Ap (m+1) ⟨aa,by omega⟩ (by omega) ⟨Z,Z,Z,V⟩
 ·(repeat first|refine Aa Z ?_|apply Ab|apply Ac|refine Aj Z (by first|omega|decide) ?_|apply Ad|apply An|apply Cn|apply Ci|apply Ba|apply Ai);exact Ak Z Z ⟨_,rfl,hU⟩
theorem wideTbl (vs:List (List Bs×Bz)) (ab:∀ks v,(ks,v)∈vs->Tz v):Tz (.tbl vs):=by
 intro P a b c d w hN ak hP hm;simp only [MkW,Pw] at hm;obtain⟨al,ac⟩:=hm;simp only [Nd] at hN;obtain⟨rfl,rfl,ad,cap,rfl,p⟩:=hN;refine Bf (L:=[(0,.agg ⟨[.int .i64 9,Bm [],.slice ad vs.length cap,d]⟩)]) Tryz.func67 Z Z Z ⟨Z,V⟩ ?_;repeat (apply Ac)
 refine Gl Z Z Z (fun w1 hA=>?_);have h1:=hA.at_;have q:Up w.heap.size w w1:=hA.up Y;clear hA;repeat first|refine Aa Z ?_|apply Ab|apply Ac|refine Bb Z (by first|with_reducible rfl|exact Bool.not_true) ?_|refine Av Z Z h1 Z Z ?_|refine Au Z ?_|apply Ad|apply Ag|apply An|apply Af|refine Az Z Z (by first|omega|decide) ?_
 refine Bg (σ:=Nat) (I:=fun m w'=>Up w.heap.size w w'/\m<=vs.length) (m:=fun m=>vs.length-m)
  (Lf:=fun m=>[(15,.slice ad vs.length cap),(16,.int .i64 (vs.length:Int)),(17,.int .i64 (m:Int))]) 0 ⟨q,Nat.zero_le _⟩ ⟨Z,Z,Z,V⟩ ?_
 clear q h1;rintro m w2 ⟨hU,hj⟩;by_cases k:m<vs.length
 ·obtain⟨⟨kk,v⟩,hk⟩:∃v,vs[m]?=some v:=⟨_,Yd k⟩;have s:=List.mem_of_getElem? hk;have ae:vs≠[]:=(by rintro rfl;simp at k);obtain⟨g,cur,af,rfl,hg,ag⟩:=p ae;obtain⟨a',b',c',d',f,t,hR⟩:=ag.get hk;obtain⟨o1,o2,o3,_⟩:=t.one;have o4:=hR.one;have ah:=hU.at (hP g af) hg;have u:=hU.size;have y:∀(j:Nat) (x:Value),[a',b',c',d'][j]?=some x->w2.cell? ⟨g,m*4+j,none⟩=some x:=fun j x hx=>Ar ah (by rw [List.getElem?_toArray];exact f j x hx);(repeat first|refine Aa Z ?_|apply Ab|apply Ac|refine Ao Z (by first|omega|decide) ?_|refine Ax (i:=m) Z Z Z k (by rw [Yi];rfl) ?_|refine Jv (cs:=[a',b',c',d']) Z Z Z y Z ?_|apply Ad|apply Ag|apply An|apply Af);refine Dk Z Z Z (fun w3 l=>?_);skip;refine Bx Z Z Z (by simp [o1,o2,o3,o4]) l.at_ (by simp) Z (fun w4 n=>?_);have ai:w4.heap[w2.heap.size]?=some (.cells ⟨[a',b',c',d']⟩ 37 (0,0)):=(by simpa using n.at_);have h:Up w.heap.size w w4:=(hU.trans (l.up u)).trans (n.up u);have z:Nd w4 P v a' b' c':=Nd.move (fun g o hg ho _=>⟨h.at (hP g hg) ho,hg⟩) _ _ _ _ t;clear l n y;(repeat first|apply Ab|apply Ac|refine Fz Z Z ai Z Z ?_);refine Ae Z Z Z (ab kk v s P a' b' c' d' w4 z o4 (fun g hg=>Nat.lt_of_lt_of_le (hP g hg) h.size) (ac.mem kk v s).2.w) ?_;rintro e w5 ⟨r,rfl,aj⟩;refine T2 Z Z ?_;have aa:=h.trans (aj.mono h.size);cases r with
  | true=>
   (repeat first|refine Aa Z ?_|apply Ab|apply Ac|refine Bn Z (by first|with_reducible rfl|exact Bool.not_false) ?_|apply Bl|apply Bv|apply Ai);exact Ak Z Z ⟨_,rfl,aa⟩
  | false=>
   (repeat first|refine Aa Z ?_|apply Ab|refine Bb Z (by first|with_reducible rfl|exact Bool.not_true) ?_|apply Am|apply Aq|apply An|apply Bj|apply Af|refine Ay Z Z (by omega) Z ?_);exact Ap (m+1) ⟨aa,by omega⟩ (by omega) ⟨Z,Z,Z,V⟩
 ·(repeat first|refine Aa Z ?_|apply Ab|apply Ac|refine Aj Z (by first|omega|decide) ?_|apply Ad|apply An|apply Cn|apply Ci|apply Ba|apply Ai);exact Ak Z Z ⟨_,rfl,hU⟩
mutual
theorem Vd:∀(v:Bz),Tz v
 | .sc k t=>wideSc k t
 | .arr vs=>wideArr vs (wide_allI vs)
 | .tbl es=>wideTbl es (wide_allE es)
theorem wide_allI:∀(vs:List Bz),∀v∈vs,Tz v
 | [],v,hv=>by simp at hv
 | u::us,v,hv=>by
  rcases List.mem_cons.1 hv with e|hv
  ·rw [e];exact Vd u
  ·exact wide_allI us v hv
theorem wide_allE:∀(es:List (List Bs×Bz)),∀ks v,(ks,v)∈es->Tz v
 | [],ks,v,hv=>by simp at hv
 | (ks',u)::us,ks,v,hv=>by
  rcases List.mem_cons.1 hv with e|hv
  ·simp only [Prod.mk.injEq] at e;rw [e.2];exact Vd u
  ·exact wide_allE us ks v hv
end
theorem cM (P:Nat->Prop) (v:Value) (es:List Ex) (w:World) (hv:Rx w P v es) (hP:∀g,P g->g<w.heap.size) (ag:∀x∈es,MkX x) (hl:es.length<=1000000000):
  Calls PP 34 #[v] w fun e w'=>∃r,e=.returned (.bool r)/\Up w.heap.size w w':=by
 obtain⟨ad,cap,rfl,s⟩:=hv;refine Bf (L:=[(0,.slice ad es.length cap)]) Tryz.func34 Z Z Z ⟨Z,V⟩ ?_;repeat first|refine Aa Z ?_|apply Ab|apply Ac|apply Ad|apply Ag
 refine Bg (σ:=Nat) (I:=fun m w'=>Up w.heap.size w w'/\m<=es.length) (m:=fun m=>es.length-m)
  (Lf:=fun m=>[(5,.slice ad es.length cap),(6,.int .i64 (es.length:Int)),(7,.int .i64 (m:Int))]) 0 ⟨Up.refl _ _,Nat.zero_le _⟩ ⟨Z,Z,Z,V⟩ ?_
 rintro m w2 ⟨hU,hj⟩;by_cases l:m<es.length
 ·obtain⟨x,hk⟩:∃x,es[m]?=some x:=⟨_,Yd l⟩;have ah:=List.mem_of_getElem? hk;have ai:es≠[]:=(by rintro rfl;simp at l);obtain⟨ar,au,aj⟩:=ag x ah;obtain⟨g,cur,rfl,hg,ak⟩:=s ai;obtain⟨kv,a,b,c,d,f,al,u,am⟩:=ak.get hk;obtain⟨o1,o2,o3,_⟩:=u.one;have o4:=am.one;have o5:=al.one;have an:=hU.at (Ah hg) hg;have z:=hU.size;have aa:∀(j:Nat) (y:Value),[.int .i64 (Hh x:Int),kv,a,b,c,d][j]?=some y->w2.cell? ⟨g,m*6+j,none⟩=some y:=fun j y hy=>Ar an (by rw [List.getElem?_toArray];exact f j y hy);(repeat first|refine Aa Z ?_|apply Ab|apply Ac|refine Ao Z (by first|omega|decide) ?_|refine Ax (i:=m) Z Z Z l (by rw [Yi];rfl) ?_|refine Jv (cs:=[.int .i64 (Hh x:Int),kv,a,b,c,d]) Z Z Z aa Z ?_|apply Ad|apply Ag|apply An|apply Af);refine Dk Z Z Z (fun w3 p=>?_);skip;refine Bx Z Z Z (by simp [o1,o2,o3,o4,o5,show ∀n:Int,Bp (.int .i64 n)=true from fun _=>rfl]) p.at_ (by simp) Z (fun w4 q=>?_);have ao:w4.heap[w2.heap.size]?=some (.cells ⟨[.int .i64 (Hh x:Int),kv,a,b,c,d]⟩ 40 (0,0)):=(by simpa using q.at_);have h:Up w.heap.size w w4:=(hU.trans (p.up z)).trans (q.up z);clear p q aa;have ab:∀(j:Nat) (y:Value),[a,b,c,d][j]?=some y->w4.cell? ⟨w2.heap.size,0+2+j,none⟩=some y:=fun j y hy=>Ar ao (by
   rw [List.getElem?_toArray,show 0+2+j=j+1+1 by omega];simpa using hy)
  obtain⟨v,ac,ap⟩:=u;have hw:MkW v:=by
   by_cases h0:Hh x=0
   ·rw [ac.1 h0];exact aj.w
   ·obtain⟨k,t,rfl⟩:=ac.2 h0;trivial
  have ae:Nd w4 P v a b c:=Nd.move (fun g o hg ho _=>⟨h.at (hP g hg) ho,hg⟩) _ _ _ _ ap;(repeat first|refine Aa Z ?_|apply Ab|apply Ac|refine Jv (cs:=[a,b,c,d]) Z Z Z ab Z ?_);refine Ae Z Z Z (Vd v P a b c d w4 ae o4 (fun g hg=>Nat.lt_of_lt_of_le (hP g hg) h.size) hw) ?_;rintro e w5 ⟨r,rfl,aq⟩;refine T2 Z Z ?_;have af:=h.trans (aq.mono h.size);cases r with
  | true=>
   (repeat first|refine Aa Z ?_|apply Ab|apply Ac|refine Bn Z (by first|with_reducible rfl|exact Bool.not_false) ?_|apply Bl|apply Bv|apply Ai);exact Ak Z Z ⟨_,rfl,af⟩
  | false=>
   (repeat first|refine Aa Z ?_|apply Ab|refine Bb Z (by first|with_reducible rfl|exact Bool.not_true) ?_|apply Am|apply Aq|apply An|apply Bj|apply Af|refine Ay Z Z (by omega) Z ?_);exact Ap (m+1) ⟨af,by omega⟩ (by omega) ⟨Z,Z,Z,V⟩
 ·(repeat first|refine Aa Z ?_|apply Ab|apply Ac|refine Aj Z (by first|omega|decide) ?_|apply Ad|apply An|apply Cn|apply Ci|apply Ba|apply Ai);exact Ak Z Z ⟨_,rfl,hU⟩
end
end Go.Proofs.YtaccphdkapmdhaaGreat
