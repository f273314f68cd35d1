/- The reference's reader takes nothing that the grammar does not. No condition. -/
import Derived.Test.YtaccphdkapmdhaaGreatR41
namespace Go.Proofs.YtaccphdkapmdhaaGreat
set_option maxRecDepth 100000
set_option maxHeartbeats 64000000
set_option linter.all false
section
attribute [local irreducible] binOp IntKind.wrap Sem.run
def ML (q:UInt8) (b o r:Bs):Prop:=(q=34/\Eu b o r)∨(q=39/\Fv b o r)
theorem ML.close {q:UInt8} (h:q=34∨q=39) {b:Bs} (n:Nat) (h1:Cb q b=n) (h2:3<=n) (h3:n<=5):ML q b (List.replicate (n-3) q) (b.drop n):=by
 rcases h with rfl|rfl
 ·exact .inl ⟨rfl,.close n h1 h2 h3⟩
 ·exact .inr ⟨rfl,.close n h1 h2 h3⟩
theorem ML.sign {q:UInt8} {b o r:Bs} (n:Nat) (h1:b.head?≠some q) (h2:q=34->b.head?≠some 92) (h3:Dm b=n) (h4:0<n) (h:ML q (b.drop n) o r):ML q b (b.take n++o) r:=by
 rcases h with ⟨rfl,h⟩|⟨rfl,h⟩
 ·exact .inl ⟨rfl,.sign n h1 (h2 rfl) h3 h4 h⟩
 ·exact .inr ⟨rfl,.sign n h1 h3 h4 h⟩
theorem ML.q1 {q:UInt8} {b o r:Bs} (h3:∀t,b≠q::q::t) (h:ML q b o r):ML q (q::b) (q::o) r:=by
 rcases h with ⟨rfl,h⟩|⟨rfl,h⟩
 ·exact .inl ⟨rfl,h.q1 h3⟩
 ·exact .inr ⟨rfl,h.q1 h3⟩
theorem ML.lf {q:UInt8} {b o r:Bs} (h:ML q b o r):ML q (10::b) (10::o) r:=by
 rcases h with ⟨rfl,h⟩|⟨rfl,h⟩
 ·exact .inl ⟨rfl,.lf h⟩
 ·exact .inr ⟨rfl,.lf h⟩
theorem ML.crlf {q:UInt8} {b o r:Bs} (h:ML q b o r):ML q (13::10::b) (13::10::o) r:=by
 rcases h with ⟨rfl,h⟩|⟨rfl,h⟩
 ·exact .inl ⟨rfl,.crlf h⟩
 ·exact .inr ⟨rfl,.crlf h⟩
theorem ML.cont {b b' b'' o r:Bs} (h1:Bd b=10::b'∨Bd b=13::10::b') (h2:Qr b' b'') (h:ML 34 b'' o r):ML 34 (92::b) o r:=by
 rcases h with ⟨_,h⟩|⟨h,_⟩
 ·exact .inl ⟨rfl,.cont h1 h2 h⟩
 ·cases h
theorem ML.esc {b u b' o r:Bs} (h0:∀t,Bd b≠10::t) (a:∀t,Bd b≠13::10::t) (h1:Vc b u b') (h:ML 34 b' o r):ML 34 (92::b) (u++o) r:=by
 rcases h with ⟨_,h⟩|⟨h,_⟩
 ·exact .inl ⟨rfl,.esc h0 a h1 h⟩
 ·cases h
theorem trim_of {b b':Bs} (h:b=10::b'∨b=13::10::b'):Hz b=b':=by
 rcases h with rfl|rfl<;>rfl
theorem jJ {b:Bs} (h1:∀t,b≠10::t) (h2:∀t,b≠13::10::t):Hz b=b:=by
 unfold Hz;split
 ·exact absurd Z (h1 _)
 ·exact absurd Z (h2 _)
 ·rfl
theorem fE {c:UInt8} {t:Bs} (h:Gj c=true):Dm (c::t)=1:=by rw [Dm,if_pos h]
theorem Vj (n:Nat) (q:UInt8):List.replicate (n+1) q=List.replicate n q++[q]:=List.replicate_succ'
theorem Qf {b:Bs} {a:Nat} {q:UInt8} (h:Ht b a [q,q,q]):∀i,i<3->pk b (a+i)=q:=by
 intro i hi;have hc:=h.cons;have h2:∀j,j<3->(b.drop a)[j]?=some q:=fun j hj=>by
  rw [hc];have:j=0∨j=1∨j=2:=(by omega);rcases this with rfl|rfl|rfl<;>rfl
 have h3:=h2 i hi;rw [List.getElem?_drop] at h3;simp [pk,List.getD,h3]
theorem Vp (pp:Nat) (q:UInt8) (b:Bs) (a:Nat) (w:World) (hq:q=34∨q=39) (hS:PB w pp b a 0) (ha:a+3<=b.length) (hb:b.length<=100000000):
  Calls PP 92 #[pt pp,u8 q] w fun e w'=>∃a' st' out,e=.returned (Bm out)/\PB w' pp b a' st'/\Fm pp [120,1001] w w'/\a<=a'/\a'<=b.length+10/\
   (st'=0->a'<=b.length/\a<a'/\((b.drop a').head?≠some q->ML q (Hz (b.drop (a+3))) out (b.drop a'))):=by
 have ao:=hS.lt;have cf:q≠0:=by rcases hq with rfl|rfl<;>decide
 have ds:Gj q=true:=by rcases hq with rfl|rfl<;>decide
 refine Bf (L:=[(0,pt pp),(1,u8 q)]) Tryz.func92 Z Z Z ⟨Z,Z,V⟩ ?_;repeat first|refine Aa Z ?_|apply Ab|apply Ac
 refine Ec Z Z bs0 Z (fun w1 bq=>?_);have cu:Ob w.heap.size w1 (.slice (F w.heap.size) 0 0) []:=Ob.lit bq Z Z Y (by omega);have cv:=hS.up (bq.up Y);have cw:Fm pp [120,1001] w w1:=bq.fm (by omega);obtain⟨v1,r1,r2⟩:=id cv;repeat first|refine Aa Z ?_|apply Ab|apply Ac|refine Av Z Z r1 Z Z ?_|refine Ay Z Z (by omega) Z ?_
 refine Bk Z Z Z r1 Z Z (fun w2 cx=>?_);obtain⟨cg,ch⟩:=PB.st (n:=a+3) r1 r2 cx;have cy:=Cd cu ch (by simp);have bx:=cw.trans (Fu ch);generalize hK:w.heap.size=K at *;clear cx r1 r2 cv bq cw ch cu hS;repeat first|refine Aa Z ?_|apply Ab|apply Ac
 refine Ec Z Z (bs3 _ _ _) Z (fun w3 bc=>?_);have cz:RX w3 (.slice (F w2.heap.size) 3 3) [q,q,q]:=(Ob.lit (l:=[q,q,q]) (n:=3) (B:=0) bc Z Z O (by omega)).rb.rx;have da:=cg.up (bc.up Y);have bz:=bx.trans (bc.fm (B:=pp) (T:=[120,1001]) (Nat.le_of_lt cg.lt));have db:Ob K w3 _ []:=Bi cy (fun k o hk h=>bc.keep h);repeat first|refine Aa Z ?_|apply Ab|apply Ac|refine Tg [q,q,q] Z Z cz Z ?_
 refine Ae Z Z Z (Ld pp b (a+3) 0 w3 da (by omega) hb) ?_;rintro e w4 ⟨ok,a0,rfl,aw,ax,br⟩;refine T2 Z Z ?_;have ca:=bz.trans (Fu ax);have bd:Ob K w4 _ []:=Cd db ax (by simp);have bs:Hz (b.drop (a+3))=b.drop a0/\a+3<=a0/\a0<=b.length:=by
  rcases br with ⟨_,l1,l2,l3⟩|⟨_,rfl,l3,l4⟩
  ·exact⟨trim_of l3,by omega,l2⟩
  ·exact⟨jJ l3 l4,Nat.le_refl _,ha⟩
 obtain⟨bs,eh,dc⟩:=bs;rw [bs];clear bc cz da bz db cg bx cy ax bs br;repeat first|apply Ab|apply Ad|apply Ag
 refine Bg (σ:=Nat×Nat×Bs×Value) (I:=fun s w'=>PB w' pp b s.1 s.2.1/\Fm pp [120,1001] w w'/\a<s.1/\s.1<=b.length+10/\(s.2.1=0->s.1<=b.length/\Ob K w' s.2.2.2 s.2.2.1/\s.2.2.1.length<=4*s.1/\∀o r,ML q (b.drop s.1) o r->ML q (b.drop a0) (s.2.2.1++o) r))
  (m:=fun s=>if s.2.1=0 then b.length+20-s.1 else 0) (Lf:=fun s=>[(0,pt pp),(1,u8 q),(6,Bm [q,q,q]),(5,s.2.2.2)])
  (a0,0,[],_) ⟨aw,ca,by dsimp only;omega,by dsimp only;omega,fun _=>⟨dc,bd,by simp,fun o r h=>h⟩⟩ ⟨Z,Z,Z,Z,V⟩ ?_
 clear aw ca bd;rintro⟨a1,s1,l,v⟩ w3 ⟨hP,hF,h1,h2,h3⟩;dsimp only at hP h1 h2 h3 ⊢;obtain⟨vb,q1,q2⟩:=id hP;have dd:K<=w3.heap.size:=hK▸hF.size;by_cases de:s1=0
 ·subst de;obtain⟨ek,hO,el,hG⟩:=h3 rfl;(repeat first|refine Aa Z ?_|apply Ab|apply Ac|refine Ao Z (by first|omega|decide) ?_|refine Av Z Z q1 Z Z ?_|apply Ad|apply Ag|apply An|apply Af);refine Ae Z Z Z (Cj pp b a1 0 0 w3 hP (by omega) (by omega) (by omega)) ?_;rintro e w4 ⟨he,be⟩;rw [Nat.add_zero] at he;subst he;refine T2 Z Z ?_;have aw:=hP.sm be;have ax:=hF.trans (be.fm (B:=pp) (T:=[120,1001]));have bd:Ob K w4 v l:=Cd (B':=pp) (T:=[]) hO be.fm (by simp);have df:K<=w4.heap.size:=(by rw [be.heap];exact dd);clear hP hO hF dd q1 q2;obtain⟨vb,q1,q2⟩:=id aw;obtain⟨ad,cap,rfl,dt,ci⟩:=id q2;have hd:w4.drew.heap=w4.heap:=rfl;have k1:∀w':World,w'.heap=w4.heap->w'.cell? ⟨pp,1,none⟩=some (.int .i64 (a1:Int)):=fun w' hw=>Ar (by rw [hw];exact q1) rfl;have k0:∀w':World,w'.heap=w4.heap->w'.cell? ⟨pp,0,none⟩=some (.slice ad b.length cap):=fun w' hw=>Ar (by rw [hw];exact q1) rfl;(repeat first|refine Aa Z ?_|apply Ab|apply Ad|apply Ag);refine Cp (fun w'=>w'.heap=w4.heap) ?_;(repeat first|refine Cg (by kernel_rfl) (by first|trivial|assumption) Z ?_|refine Cl (by kernel_rfl) hd Z Z k0 Z ?_|refine Cl (by kernel_rfl) hd Z Z k1 Z ?_);refine Co ?_;have bt:Sm w4 w4.drew:=(Sm.refl _).drew;have bu:=aw.sm bt;have cj:=ax.trans (bt.fm (B:=pp) (T:=[120,1001]));have dg:Ob K w4.drew v l:=Cd (B':=pp) (T:=[]) bd bt.fm (by simp);have dh:K<=w4.drew.heap.size:=df;clear aw ax bd bt k0 k1 hd q1 q2 ci df be;generalize w4.drew=w5 at *;by_cases ei:b.length<=a1
  ·(repeat first|refine Aa Z ?_|refine Ao Z (by first|omega|decide) ?_|apply Am|apply An);refine Ae Z Z Z (Dg pp b a1 0 w5 bu) ?_;rintro e w6 ⟨rfl,ap,bf⟩;refine T2 Z Z ?_;(repeat first|apply Aq|apply Bj);exact Ap (b.length,1,l,v) ⟨ap,cj.trans (Fu bf),by dsimp only;omega,by dsimp only;omega,fun h=>by cases h⟩ (fJ (fun h=>by cases h) (by omega)) ⟨Z,Z,Z,Z,V⟩
  ·have ck:a1<b.length:=(by omega);have aj:=Uw ck;obtain⟨c,hc⟩:∃c,c=pk b a1:=⟨_,rfl⟩;rw [<-hc] at aj ⊢;(repeat first|refine Aa Z ?_|apply Ac|refine Aj Z (by first|omega|decide) ?_|apply An);refine Ae Z Z Z (Gs pp b [q,q,q] a1 0 w5 bu (by omega) (by simp) (by simp) (by omega)) ?_;rintro e w6 ⟨rfl,bg⟩;refine T2 Z Z ?_;have ap:=bu.sm bg;have bf:=cj.trans (bg.fm (B:=pp) (T:=[120,1001]));have cl:Ob K w6 v l:=Cd (B':=pp) (T:=[]) dg bg.fm (by simp);have di:K<=w6.heap.size:=(by rw [bg.heap];exact dh);clear bu cj dg dh bg;by_cases cm:Ht b a1 [q,q,q]
   ·have dj:=cm.le (by simp);simp only [Ya,List.length_nil] at dj;have du:=Qf cm;repeat first|refine Aa Z ?_|apply Ab|apply Ac|refine Ao Z (by first|omega|decide) ?_|refine Iq (x:=.block _ (.loop _)) (σ:=Nat) (fun n w'=>Sm w6 w'/\3<=n/\n<=5/\(∀i,i<n->pk b (a1+i)=q)/\(n<5->pk b (a1+n)≠q)) (fun n=>[(0,pt pp),(1,u8 q),(5,v),(8,.int .i64 (n:Int))]) ?_ ?_|apply Ad|apply Ag
    ·skip;refine Bg (σ:=Nat) (I:=fun n w'=>Sm w6 w'/\3<=n/\n<=5/\(∀i,i<n->pk b (a1+i)=q)) (m:=fun n=>5-n) (Lf:=fun n=>[(0,pt pp),(1,u8 q),(5,v),(8,.int .i64 (n:Int))])
      3 ⟨Sm.refl _,Nat.le_refl _,by omega,du⟩ ⟨Z,Z,Z,Z,V⟩ ?_
     rintro n w7 ⟨y,n1,n2,n3⟩;by_cases n5:n<5
     ·(repeat first|refine Aa Z ?_|apply Ac|refine Au Z ?_|apply Ad|refine Bc Z Z (by first|omega|decide) ?_);refine Ae Z Z Z (Cj pp b a1 0 n w7 (ap.sm y) (by omega) (by omega) (by omega)) ?_;rintro e w8 ⟨rfl,aq⟩;refine T2 Z Z ?_;by_cases bv:pk b (a1+n)=q
      ·rw [bv];(repeat first|refine Aa Z ?_|apply Ab|refine Ao Z (by first|omega|decide) ?_|refine Au Z ?_|apply Am|apply Ag|apply Aq|apply An|apply Bj|apply Af|refine Ay Z Z (by omega) Z ?_);refine Ap (n+1) ⟨y.trans aq,by omega,by omega,fun i hi=>?_⟩ (by omega) ⟨Z,Z,Z,Z,V⟩;by_cases dk:i<n
       ·exact n3 i dk
       ·have:i=n:=(by omega);rw [this];exact bv
      ·have ej:¬(pk b (a1+n)).toNat=q.toNat:=fun h=>bv (UInt8.toNat_inj.1 h);(repeat first|apply Ab|refine Aj Z (by first|omega|decide) ?_|refine Au Z ?_|apply Cn|apply Ci|apply Ba);exact Bh n ⟨y.trans aq,n1,n2,n3,fun _=>bv⟩ ⟨Z,Z,Z,Z,V⟩
     ·(repeat first|refine Aa Z ?_|apply Ab|apply Ac|refine Bb Z (by first|with_reducible rfl|exact Bool.not_true) ?_|refine Au Z ?_|apply Ad|apply Cn|apply Ci|apply Ba|refine Az Z Z (by first|omega|decide) ?_);exact Bh n ⟨y,n1,n2,n3,fun h=>absurd h n5⟩ ⟨Z,Z,Z,Z,V⟩
    ·rintro n w7 ⟨y,n1,n2,n3,n4⟩;have ak:=ap.sm y;have ar:=bf.trans (y.fm (B:=pp) (T:=[120,1001]));have ay:Ob K w7 v l:=Cd (B':=pp) (T:=[]) cl y.fm (by simp);have bw:K<=w7.heap.size:=(by rw [y.heap];exact di);repeat first|refine Aa Z ?_|apply Ab|apply Ac|refine Iq (x:=.block _ (.loop _)) (σ:=Value) (fun v' w'=>Ob K w' v' (l++List.replicate (n-3) q)/\Up K w7 w') (fun v'=>[(0,pt pp),(1,u8 q),(5,v'),(8,.int .i64 (n:Int))]) ?_ ?_|apply Ad|apply Ag|refine Fs Z Z (by omega) Z ?_
     ·skip;refine Bg (σ:=Nat×Value) (I:=fun s w'=>s.1<=n-3/\Ob K w' s.2 (l++List.replicate s.1 q)/\Up K w7 w') (m:=fun s=>n-3-s.1) (Lf:=fun s=>[(0,pt pp),(1,u8 q),(5,s.2),(8,.int .i64 (n:Int)),(97,.int .i64 ((n:Int)-3)),(98,.int .i64 (s.1:Int))])
       (0,v) ⟨Nat.zero_le _,by simpa using ay,Up.refl _ _⟩ ⟨Z,Z,Z,Z,Z,Z,V⟩ ?_
      rintro⟨j,v'⟩ w8 ⟨j1,al,az⟩;dsimp only at j1 al ⊢;have cn:K<=w8.heap.size:=Nat.le_trans bw az.size;by_cases hj:j<n-3
      ·(repeat first|refine Aa Z ?_|apply Ab|apply Ac|refine Ao Z (by first|omega|decide) ?_|apply Ad|apply Am|apply Ag|apply An|apply Af);refine Ec Z Z (bs1 _) Z (fun w9 z=>?_);have ac:Ob K w9 v' (l++List.replicate j q):=Bi al (fun k o hk h=>z.keep h);refine Kb (B:=K) (l':=[q]) Z Z ac rfl z.at_ Z (by rw [Ye,List.length_replicate];omega) (by rw [z.size];omega) (fun v'' p f ae=>⟨_,rfl,?_⟩);(repeat first|refine Aa Z ?_|apply Am|apply Aq|apply An|apply Bj|refine Ay Z Z (by omega) Z ?_);refine Ap (j+1,v'') ⟨by dsimp only;omega,?_,(az.trans (z.up cn)).trans ae⟩ (by dsimp only;omega) ⟨Z,Z,Z,Z,Z,Z,V⟩;dsimp only;rw [Vj,<-List.append_assoc];exact f
      ·have:j=n-3:=(by omega);subst this;(repeat first|refine Aa Z ?_|apply Ab|apply Ac|refine Aj Z (by first|omega|decide) ?_|apply Ad|apply Cn|apply Ci|apply Ba);exact Bh v' ⟨al,az⟩ ⟨Z,Z,Z,Z,V⟩
     ·rintro v' w8 ⟨al,az⟩;have am:=ak.upB az ao;have au:=ar.upN (hK▸az) (by omega);obtain⟨vb8,u1,u2⟩:=id am;(repeat first|refine Aa Z ?_|apply Ac|refine Av Z Z u1 Z Z ?_|refine Ay Z Z (by omega) Z ?_);refine Bk Z Z Z u1 Z Z (fun w9 dv=>?_);obtain⟨ah,ai⟩:=PB.st (n:=a1+n) u1 u2 dv;have ac:Ob K w9 v' _:=Cd al ai (by simp);(repeat first|refine Aa Z ?_|apply Ab|apply Ac|refine Tg (l++List.replicate (n-3) q) Z Z ac.rb.rx Z ?_|apply Bl|apply Bv|apply Ai);have dw:a1+n<=b.length:=by
       have:=Qx (b:=b) (n:=a1+(n-1)) (by rw [n3 (n-1) (by omega)];exact cf);omega
      refine Ak Z Z ⟨a1+n,0,_,rfl,ah,au.trans (Fu ai),by omega,by omega,fun _=>⟨dw,by omega,fun hh=>?_⟩⟩;refine hG _ _ ?_;have dx:Cb q (b.drop a1)=n:=Ym cf (fun i hi=>by rw [Lu];exact n3 i hi) (by
       rw [Lu];by_cases n5:n<5
       ·exact n4 n5
       ·intro dl;refine hh ?_;have:=(Fd (b:=b) (a:=a1+n) (by rw [dl];exact cf)).2;rw [this,dl];rfl)
      have:=ML.close hq n dx n1 n2;rwa [List.drop_drop] at this
   ·by_cases bh:c=92/\q=34
    ·obtain⟨rfl,rfl⟩:=bh;obtain⟨vb,p1,p2⟩:=id ap;(repeat first|refine Aa Z ?_|apply Ab|apply Ac|refine Ao Z (by first|omega|decide) ?_|refine Aj Z (by first|omega|decide) ?_|refine Av Z Z p1 Z Z ?_|refine Au Z ?_|refine Ay Z Z (by omega) Z ?_|refine Bc Z Z (by first|omega|decide) ?_);refine Bk Z Z Z p1 Z Z (fun w7 dy=>?_);obtain⟨ak,ar⟩:=PB.st (n:=a1+1) p1 p2 dy;have ay:Ob K w7 v l:=Cd cl ar (by simp);obtain⟨vb7,p3,p4⟩:=id ak;(repeat first|refine Aa Z ?_|apply Ab|apply Ac|refine Av Z Z p3 Z Z ?_);refine Ae Z Z Z (Fk pp b (a1+1) 0 w7 ak (by omega) hb) ?_;rintro e w8 ⟨a2,rfl,am,au,co,g1,g2,g3⟩;refine T2 Z Z ?_;have em:=g2 (by omega);(repeat first|refine Aa Z ?_|apply Ab|apply Ac|apply Ad);refine Ae Z Z Z (Ld pp b a2 0 w8 am g3 hb) ?_;rintro e w9 ⟨ok,a3,rfl,ah,ai,br⟩;refine T2 Z Z ?_;have bi:=((bf.trans (Fu ar)).trans (Fu au)).trans (Fu ai);have ac:Ob K w9 v l:=Cd (Cd ay au (by simp)) ai (by simp);rcases br with ⟨rfl,l1,l2,l3⟩|⟨rfl,rfl,l3,l4⟩
     ·repeat first|apply Ab|refine Bn Z (by first|with_reducible rfl|exact Bool.not_false) ?_|refine Iq (x:=.block _ (.loop _)) (σ:=Nat) (fun a4 w'=>PB w' pp b a4 0/\Fm pp [120,1001] w w'/\Ob K w' v l/\a3<=a4/\a4<=b.length/\Qr (b.drop a3) (b.drop a4)) (fun a4=>[(0,pt pp),(1,u8 34),(6,Bm [34,34,34]),(5,v)]) ?_ ?_|apply Ad|apply Ag
      ·skip;refine Bg (σ:=Nat) (I:=fun a4 w'=>PB w' pp b a4 0/\Fm pp [120,1001] w w'/\Ob K w' v l/\a3<=a4/\a4<=b.length/\∀r,Qr (b.drop a4) r->Qr (b.drop a3) r) (m:=fun a4=>b.length-a4) (Lf:=fun a4=>[(0,pt pp),(1,u8 34),(6,Bm [34,34,34]),(5,v)])
        a3 ⟨ah,bi,ac,Nat.le_refl _,l2,fun r h=>h⟩ ⟨Z,Z,Z,Z,V⟩ ?_
       clear ah bi ac;rintro a4 p ⟨af,g,f,m1,m2,m3⟩;(repeat first|refine Aa Z ?_|apply Ac|apply Ag);refine Ae Z Z Z (Fk pp b a4 0 p af (by omega) hb) ?_;rintro e ba ⟨a5,rfl,aa,d,cb,i1,i2,i3⟩;refine T2 Z Z ?_;have dz:=i2 m2;(repeat first|refine Aa Z ?_|apply Ab|apply Ac);refine Ae Z Z Z (Ld pp b a5 0 ba aa i3 hb) ?_;rintro e dm ⟨ok2,a6,rfl,cc,cd,dn⟩;refine T2 Z Z ?_;have bj:=(g.trans (Fu d)).trans (Fu cd);have av:Ob K dm v l:=Cd (Cd f d (by simp)) cd (by simp);rcases dn with ⟨rfl,y1,y2,y3⟩|⟨rfl,rfl,y3,y4⟩
       ·(repeat first|refine Aa Z ?_|apply Ab|refine Bb Z (by first|with_reducible rfl|exact Bool.not_true) ?_|apply Bj|apply Af);refine Ap a6 ⟨cc,bj,av,by omega,y2,fun r hr=>m3 r ?_⟩ (by omega) ⟨Z,Z,Z,Z,V⟩;rw [cb] at y3;exact y3.elim (fun y3=>Qr.lf y3 hr) (fun y3=>Qr.crlf y3 hr)
       ·(repeat first|refine Aa Z ?_|apply Ab|refine Bn Z (by first|with_reducible rfl|exact Bool.not_false) ?_|apply Cn|apply Ci|refine Kn Z ?_|apply Ba);refine Bh a6 ⟨cc,bj,av,by omega,dz,m3 _ ?_⟩ ⟨Z,Z,Z,Z,V⟩;rw [cb] at y3 y4 ⊢;exact Qr.stop y3 y4
      ·rintro a4 p ⟨af,g,f,m1,m2,m3⟩;(repeat first|apply Cn|apply Ci|refine Kn Z ?_|apply Ba);refine Ap (a4,0,l,v) ⟨af,g,by dsimp only;omega,by dsimp only;omega,fun _=>⟨m2,f,by dsimp only;omega,fun o r ab=>?_⟩⟩ (fJ (fun _=>by omega) (by omega)) ⟨Z,Z,Z,Z,V⟩;dsimp only at ab ⊢;refine hG o r ?_;rw [aj];exact ML.cont (by rw [<-co];exact l3) m3 ab
     ·obtain⟨vb9,y1,y2⟩:=id ah;(repeat first|refine Aa Z ?_|apply Ab|apply Ac|refine Bb Z (by first|with_reducible rfl|exact Bool.not_true) ?_|apply An|apply Af);refine Bk Z Z Z y1 Z Z (fun p bk=>?_);obtain⟨af,g⟩:=PB.st (n:=a1+1) y1 y2 bk;have f:Ob K p v l:=Cd ac g (by simp);(repeat first|refine Aa Z ?_|apply Ab|apply Am);refine Ae Z Z Z (Tv pp b (a1+1) 0 p af (by omega) hb) ?_;rintro e ba ⟨a5,s5,u,rfl,aa,d,i1,i2,i3,i4,_⟩;refine T2 Z Z ?_;have dp:Ob K ba v l:=Cd f d (by simp);have bl:=(bi.trans (Fu g)).trans d;refine nV u Z Z dp (by omega) (by rw [<-hK];exact bl.size) (fun v' dm av ce=>⟨_,rfl,?_⟩);(repeat first|refine Aa Z ?_|apply Aq|apply Bj);refine Ap (a5,s5,l++u,v') ⟨aa.upB ce ao,bl.upN (by rw [hK];exact ce) (by omega),by dsimp only;omega,by dsimp only;omega,fun h=>?_⟩ (fJ (fun _=>by omega) (by omega)) ⟨Z,Z,Z,Z,V⟩;dsimp only at h ⊢;obtain⟨_,i5,i6⟩:=i4 h;refine⟨i6,av,by rw [Ye];omega,fun o r ab=>?_⟩;have:=hG (u++o) r (by rw [aj];exact ML.esc (by rw [<-co];exact l3) (by rw [<-co];exact l4) i5 ab);rwa [<-List.append_assoc] at this
    ·have cp:q=34->c≠92:=fun h h'=>bh ⟨h',h⟩;have cq:c.toNat≠92∨(c.toNat=92/\q.toNat=39):=by
      rcases hq with rfl|rfl
      ·exact .inl fun h=>bh ⟨UInt8.toNat_inj.1 h,rfl⟩
      ·by_cases h:c.toNat=92
       ·exact .inr ⟨h,rfl⟩
       ·exact .inl h
     rcases cq with cq|⟨cq,en⟩;all_goals
      (repeat first|refine Aa Z ?_|apply Ab|apply Ac|refine Bb Z (by first|with_reducible rfl|exact Bool.not_true) ?_|refine Aj Z (by first|omega|decide) ?_|refine Au Z ?_|refine Bc Z Z (by first|omega|decide) ?_|refine Az Z Z (by first|omega|decide) ?_);refine Ae Z Z Z (Gs pp b [10] a1 0 w6 ap (by omega) (by simp) (by simp) (by omega)) ?_;rintro e w7 ⟨rfl,y⟩;refine T2 Z Z ?_;have ak:=ap.sm y;have ar:=bf.trans (y.fm (B:=pp) (T:=[120,1001]));have ay:Ob K w7 v l:=Cd (B':=pp) (T:=[]) cl y.fm (by simp);have bw:K<=w7.heap.size:=(by rw [y.heap];exact di);by_cases dq:Ht b a1 [10]
      ·have cr:=dq.cons;have bm:=dq.le (by simp);simp only [List.length_singleton] at bm;(repeat first|refine Aa Z ?_|apply Ab|apply Ac|refine Ao Z (by first|omega|decide) ?_);refine Ec Z Z (bs1 _) Z (fun w9 z=>?_);have ac:Ob K w9 v l:=Bi ay (fun k o hk h=>z.keep h);refine Kb (B:=K) (l':=[10]) Z Z ac rfl z.at_ Z (by omega) (by rw [z.size];omega) (fun v'' p f ae=>⟨_,rfl,?_⟩);have ag:Up K w7 p:=(z.up bw).trans ae;obtain⟨vb9,y1,y2⟩:=id (ak.upB ag ao);(repeat first|refine Aa Z ?_|apply Ab|refine Av Z Z y1 Z Z ?_|apply Am|refine Ay Z Z (by omega) Z ?_);refine Bk Z Z Z y1 Z Z (fun ba an=>?_);obtain⟨aa,d⟩:=PB.st (n:=a1+1) y1 y2 an;(repeat first|apply Aq|apply Bj);refine Ap (a1+1,0,l++[10],v'') ⟨aa,(ar.upN (hK▸ag) (by omega)).trans (Fu d),by dsimp only;omega,by dsimp only;omega,fun _=>⟨by dsimp only;omega,Cd f d (by simp),by dsimp only;rw [Ye,List.length_singleton];omega,fun o r ab=>?_⟩⟩ (fJ (fun _=>by omega) (by omega)) ⟨Z,Z,Z,Z,V⟩;dsimp only at ab ⊢;have:=hG (10::o) r (by rw [cr];exact ML.lf ab);rw [List.append_assoc];exact this
      ·(repeat first|refine Aa Z ?_|apply Ab|apply Ac|refine Aj Z (by first|omega|decide) ?_);refine Ae Z Z Z (Gs pp b [13,10] a1 0 w7 ak (by omega) (by simp) (by simp) (by omega)) ?_;rintro e w8 ⟨rfl,aq⟩;refine T2 Z Z ?_;have am:=ak.sm aq;have au:=ar.trans (aq.fm (B:=pp) (T:=[120,1001]));have al:Ob K w8 v l:=Cd (B':=pp) (T:=[]) ay aq.fm (by simp);have cn:K<=w8.heap.size:=(by rw [aq.heap];exact bw);by_cases dr:Ht b a1 [13,10]
       ·have cr:=dr.cons;have bm:=dr.le (by simp);simp only [Ya,List.length_nil] at bm;(repeat first|refine Aa Z ?_|apply Ab|apply Ac|refine Ao Z (by first|omega|decide) ?_);refine Ec Z Z (bs2 _ _) Z (fun w9 z=>?_);have ac:Ob K w9 v l:=Bi al (fun k o hk h=>z.keep h);refine Kb (B:=K) (l':=[13,10]) Z Z ac rfl z.at_ Z (by omega) (by rw [z.size];omega) (fun v'' p f ae=>⟨_,rfl,?_⟩);have ag:Up K w8 p:=(z.up cn).trans ae;obtain⟨vb9,y1,y2⟩:=id (am.upB ag ao);(repeat first|refine Aa Z ?_|apply Ab|refine Av Z Z y1 Z Z ?_|apply Am|refine Ay Z Z (by omega) Z ?_);refine Bk Z Z Z y1 Z Z (fun ba an=>?_);obtain⟨aa,d⟩:=PB.st (n:=a1+2) y1 y2 an;(repeat first|apply Aq|apply Bj);refine Ap (a1+2,0,l++[13,10],v'') ⟨aa,(au.upN (hK▸ag) (by omega)).trans (Fu d),by dsimp only;omega,by dsimp only;omega,fun _=>⟨by dsimp only;omega,Cd f d (by simp),by dsimp only;rw [Ye];simp only [Ya,List.length_nil];omega,fun o r ab=>?_⟩⟩ (fJ (fun _=>by omega) (by omega)) ⟨Z,Z,Z,Z,V⟩;dsimp only at ab ⊢;have:=hG (13::10::o) r (by rw [cr];exact ML.crlf ab);rw [List.append_assoc];exact this
       ·(repeat first|refine Aa Z ?_|apply Ab|apply Ac|refine Aj Z (by first|omega|decide) ?_);refine Ae Z Z Z (Sh pp b a1 0 w8 am ck hb) ?_;rintro e w9 ⟨n,ok,rfl,cs,ea,eo⟩;refine T2 Z Z ?_;have ah:=am.up cs;have ai:=au.trans (cs.fm (T:=[120,1001]) Y (Nat.le_of_lt am.lt));have ac:Ob K w9 v l:=Bi al (fun k o hk h=>cs.at (Ah h) h);have eb:K<=w9.heap.size:=(by rw [<-hK];exact ai.size);cases ok with
        | false=>
         (repeat first|refine Aa Z ?_|apply Ab|apply Ac|refine Bn Z (by first|with_reducible rfl|exact Bool.not_false) ?_|apply Ad);refine Ae Z Z Z (Dg pp b a1 0 w9 ah) ?_;rintro e p ⟨rfl,af,g⟩;refine T2 Z Z ?_;(repeat first|refine Aa Z ?_|apply Ab|apply Ac|apply Bl|apply Bv|apply Ai);exact Ak Z Z ⟨b.length,1,[],rfl,af,ai.trans (Fu g),by omega,by omega,fun h=>by cases h⟩
        | true=>
         obtain⟨e1,e2,e3⟩:=ea rfl;obtain⟨vb,p1,p2⟩:=id ah;obtain⟨ad,cap,rfl,dt,ci⟩:=id p2;obtain⟨bb,o,dcs,et,fz,rfl,ec,ed,ep⟩:=ci (by rintro rfl;simp at ck);have hd:∀k,k<K->w9.drew.heap[k]?=w9.heap[k]?:=fun _ _=>rfl;have k1:∀w':World,(∀k,k<K->w'.heap[k]?=w9.heap[k]?)->w'.cell? ⟨pp,1,none⟩=some (.int .i64 (a1:Int)):=fun w' hw=>Ar (by rw [hw _ ao];exact p1) rfl;have k0:∀w':World,(∀k,k<K->w'.heap[k]?=w9.heap[k]?)->w'.cell? ⟨pp,0,none⟩=some (.slice (some ⟨bb,o,none⟩) b.length cap):=fun w' hw=>Ar (by rw [hw _ ao];exact p1) rfl;have bn:((b.drop a1).take n).length=n:=(by rw [List.length_take,Yh];omega);(repeat first|refine Aa Z ?_|apply Ab|apply Ac|refine Bb Z (by first|with_reducible rfl|exact Bool.not_true) ?_|apply Ad|apply An|apply Af);refine Cp (fun w'=>∀k,k<K->w'.heap[k]?=w9.heap[k]?) ?_;(repeat first|refine Cg (by kernel_rfl) (by first|trivial|assumption) Z ?_|refine Cl (by kernel_rfl) hd Z Z k0 Z ?_|refine Cl (by kernel_rfl) hd Z Z k1 Z ?_|refine Kv (by kernel_rfl) (by first|trivial|assumption) Z Z (by omega) Z ?_);refine Dr n a1 (by kernel_rfl) hd Z Z (Sf.mk bb o cap) Z (by simp only [Option.getD];omega) (by omega) (fun ad'=>rfl) (fun ad' ee=>?_);have ef:=ee.addr (by omega);subst ef;refine gM (B:=K) (((b.drop a1).take n).map u8) (by kernel_rfl) Z Z (rfl:Fx 23=some (5,1)) (Bi ac (fun _ _ _ h=>h)) (by rw [List.length_map,bn];omega) (Tw ec ((ed.drop a1).take n)) (fun u hu=>by obtain⟨x,_,rfl⟩:=List.mem_map.1 hu;rfl) (by omega) eb (fun v' p f g _=>?_);have bk:∀k,k<K->p.heap[k]?=w9.heap[k]?:=fun k hk=>g.old k hk;refine⟨bk,_,rfl,?_⟩;(repeat (refine Cg (by kernel_rfl) (by first|trivial|assumption) Z ?_));refine Co ?_;have ae:Up K w9 p:=(Sm.refl w9).drew.up.trans g.up;have ct:Ob K p v' (l++(b.drop a1).take n):=by
          unfold Ob;rw [Ye,List.map_append,bn];exact f
         obtain⟨vb10,u1,u2⟩:=id (ah.upB ae ao);(repeat first|refine Aa Z ?_|refine Av Z Z u1 Z Z ?_|apply Am|apply An|refine Ay Z Z (by omega) Z ?_);refine Bk Z Z Z u1 Z Z (fun ba an=>?_);obtain⟨aa,d⟩:=PB.st (n:=a1+n) u1 u2 an;(repeat first|apply Aq|apply Bj);refine Ap (a1+n,0,l++(b.drop a1).take n,v') ⟨aa,(ai.upN (hK▸ae) (by omega)).trans (Fu d),by dsimp only;omega,by dsimp only;omega,fun _=>⟨by dsimp only;omega,Cd ct d (by simp),?_,fun o r ab=>?_⟩⟩ (fJ (fun _=>by omega) (by omega)) ⟨Z,Z,Z,Z,V⟩
         ·dsimp only;rw [Ye,bn];omega
         ·dsimp only at ab ⊢;by_cases bo:c=q
          ·rw [aj,bo,fE ds] at e1;subst e1;have eg:(b.drop a1).take 1=[q]:=(by rw [aj,bo];rfl);rw [eg,List.append_assoc];refine hG (q::o) r ?_;rw [aj,bo];refine ML.q1 (fun t ht=>cm ?_) ab;unfold Ht;rw [aj,bo,ht];rfl
          ·have bp:∀x,c≠x->(b.drop a1).head?≠some x:=fun x hx=>(by rw [aj];simpa using hx);have:=hG ((b.drop a1).take n++o) r (ML.sign n (bp q bo) (fun h=>bp 92 (cp h)) e1 e2 (by rw [List.drop_drop];exact ab));rwa [<-List.append_assoc] at this
 ·(repeat first|refine Aa Z ?_|apply Ab|apply Ac|refine Aj Z (by first|omega|decide) ?_|refine Av Z Z q1 Z Z ?_|apply Ad|apply An|apply Cn|apply Ci|apply Ba|apply Ai);exact Ak Z Z ⟨a1,s1,[],rfl,hP,hF,by omega,h2,fun h=>absurd h de⟩
end
end Go.Proofs.YtaccphdkapmdhaaGreat
