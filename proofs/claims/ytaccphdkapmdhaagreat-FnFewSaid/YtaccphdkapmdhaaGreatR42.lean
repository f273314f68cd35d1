/- The reference's reader takes nothing that the grammar does not. No condition. -/
import Derived.Test.YtaccphdkapmdhaaGreatR40
import Derived.Test.YtaccphdkapmdhaaGreatR41
namespace Go.Proofs.YtaccphdkapmdhaaGreat
set_option maxRecDepth 100000
set_option maxHeartbeats 64000000
set_option linter.all false
section
attribute [local irreducible] binOp IntKind.wrap Sem.run
theorem Ks.skip {b r:Bs} {ks:List Bs} (h:Ks (Bd b) ks r):Ks b ks r:=by
 cases h with
 | one h1 h2=>rw [Ed] at h1;exact .one h1 h2
 | dot h1 h2 h3=>rw [Ed] at h1;exact .dot h1 h2 h3
theorem Sr (pp:Nat) (b:Bs) (a:Nat) (w:World) (hS:PB w pp b a 0) (ha:a<=b.length) (hb:b.length<=100000000):
  Calls PP 61 #[pt pp] w fun e w'=>∃a' st' v ks,e=.returned v/\PB w' pp b a' st'/\Fm pp [120,1001] w w'/\RS w' (fun g=>w.heap.size<=g) v ks/\a<=a'/\a'<=b.length+10/\(st'=0->a'<=b.length/\Ks (b.drop a) ks (b.drop a'))/\(st'≠0->b.length<=a'):=by
 have al:=hS.lt;refine Bf (L:=[(0,pt pp)]) Tryz.func61 Z Z Z ⟨Z,V⟩ ?_;repeat first|refine Aa Z ?_|apply Ab|apply Ac
 refine Ec Z Z bsS0 Z (fun w1 am=>?_);have bh:w1.ownsRow w.heap.size 9 1 (.slice (F w.heap.size) 0 0) 0 []:=⟨rfl,.inr ⟨w.heap.size,0,#[],rfl,Nat.le_refl _,am.at_,Nat.le_refl _,by simp only [maxLen];omega,rfl,rfl⟩⟩;have bi:=hS.up (am.up Y);have bj:Fm pp [120,1001] w w1:=am.fm (by omega);generalize hK:w.heap.size=K at *;clear am hS;repeat first|refine Aa Z ?_|apply Ab|apply Ad|apply Ag
 refine Bg (σ:=Nat×Nat×List Bs×Value) (I:=fun s w'=>PB w' pp b s.1 s.2.1/\Fm pp [120,1001] w w'/\a<=s.1/\s.1<=b.length+10/\w'.ownsRow K 9 1 s.2.2.2 s.2.2.1.length (s.2.2.1.map Bm)/\(s.2.1=0->s.1<=b.length/\s.2.2.1.length<=s.1/\∀ks r,Ks (b.drop s.1) ks r->Ks (b.drop a) (s.2.2.1++ks) r)/\(s.2.1≠0->b.length<=s.1))
  (m:=fun s=>if s.2.1=0 then b.length+20-s.1 else 0) (Lf:=fun s=>[(0,pt pp),(3,s.2.2.2)])
  (a,0,[],_) ⟨bi,bj,Nat.le_refl _,by dsimp only;omega,bh,(fun _=>⟨ha,by simp,fun ks r h=>h⟩),fun h=>absurd rfl h⟩ ⟨Z,Z,V⟩ ?_
 clear bi bj bh;rintro⟨a1,s1,ks,v⟩ w3 ⟨hP,hF,h1,h2,hO,h3,h4⟩;dsimp only at hP h1 h2 hO h3 h4 ⊢;have bt:K<=w3.heap.size:=hK▸hF.size;obtain⟨vb,q1,q2⟩:=id hP;by_cases bk:s1=0
 ·subst bk;obtain⟨bu,cl,hG⟩:=h3 rfl;(repeat first|refine Aa Z ?_|apply Ab|apply Ac|refine Ao Z (by first|omega|decide) ?_|refine Av Z Z q1 Z Z ?_|apply Ad|apply Ag|apply An|apply Af);refine Ae Z Z Z (Fk pp b a1 0 w3 hP (by omega) hb) ?_;rintro e w4 ⟨a2,rfl,ay,az,bl,g1,g2,g3⟩;refine T2 Z Z ?_;have bv:=g2 bu;have bm:=Cd hO az (by simp);(repeat first|refine Aa Z ?_|apply Ab|apply Ac|apply Ad);refine Ae Z Z Z (Cj pp b a2 0 0 w4 ay (by omega) (by omega) (by omega)) ?_;rintro e w5 ⟨he,an⟩;rw [Nat.add_zero] at he;subst he;refine T2 Z Z ?_;have ab:=ay.sm an;have ao:=(hF.trans (Fu az)).trans (an.fm (B:=pp) (T:=[120,1001]));have ba:=Cd (B':=pp) (T:=[]) bm an.fm (by simp);clear bm hO ay hP hF az an q1 q2 bt;obtain⟨c,hc⟩:∃c,c=pk b a2:=⟨_,rfl⟩;rw [<-hc];have cont:∀{a3 a4:Nat} {k:Bs},KP (b.drop a2) k (b.drop a3)->b.drop a4=Bd (b.drop a3)->pk b a4≠46->Ks (b.drop a) (ks++[k]) (b.drop a4):=fun {a3 a4 k} hk h4 z=>by
   refine hG [k] _ ?_;rw [h4];refine Ks.one (by rw [<-bl];exact hk) ?_;rw [<-h4];exact fun h=>z (Qy h)
  have cont2:∀{a3 a4:Nat} {k:Bs},KP (b.drop a2) k (b.drop a3)->b.drop a4=Bd (b.drop a3)->pk b a4=46->∀ks' r,Ks (b.drop (a4+1)) ks' r->Ks (b.drop a) ((ks++[k])++ks') r:=fun {a3 a4 k} hk h4 z ks' r h=>by
   rw [List.append_assoc];refine hG (k::ks') _ ?_;refine Ks.dot (by rw [<-bl];exact hk) ?_ h;rw [<-h4];have:=(Fd (b:=b) (a:=a4) (by rw [z];decide)).2;rw [z] at this;exact this
  repeat first|refine Aa Z ?_|apply Ab|apply Ac|refine Iq (x:=.block _ _) (σ:=Nat×Nat×Bs×Value) (fun s w'=>PB w' pp b s.1 s.2.1/\Fm pp [120,1001] w w'/\a2<=s.1/\s.1<=b.length+10/\w'.ownsRow K 9 1 s.2.2.2 (ks++[s.2.2.1]).length ((ks++[s.2.2.1]).map Bm)/\(s.2.1=0->a2<s.1/\s.1<=b.length/\KP (b.drop a2) s.2.2.1 (b.drop s.1))/\(s.2.1≠0->b.length<=s.1)) (fun s=>[(0,pt pp),(3,s.2.2.2)]) ?_ ?_|apply Ag
  ·by_cases ac:c.toNat=34∨c.toNat=39
   ·have hq:c=34∨c=39:=ac.elim (fun h=>.inl (UInt8.toNat_inj.1 h)) (fun h=>.inr (UInt8.toNat_inj.1 h));have bw:c≠0:=(by rcases hq with rfl|rfl<;>decide);have y:=Fd (b:=b) (a:=a2) (by rw [<-hc];exact bw);rw [<-hc] at y;rcases ac with ac|ac;all_goals
     (repeat first|refine Aa Z ?_|apply Ab|apply Ac|refine Bn Z (by first|with_reducible rfl|exact Bool.not_false) ?_|refine Ao Z (by first|omega|decide) ?_|refine Au Z ?_|apply Ad|refine Bc Z Z (by first|omega|decide) ?_|refine Az Z Z (by first|omega|decide) ?_);refine Ec Z Z (bs3 _ _ _) Z (fun w6 ap=>?_);have bx:RX w6 (.slice (F w5.heap.size) 3 3) [c,c,c]:=(Ob.lit (l:=[c,c,c]) (n:=3) (B:=0) ap Z Z O (by omega)).rb.rx;have ae:=ab.up (ap.up Y);have bc:=ao.trans (ap.fm (B:=pp) (T:=[120,1001]) (Nat.le_of_lt ab.lt));have aq:=Bi ba (fun k o hk h=>ap.keep h);(repeat (refine Tg [c,c,c] Z Z bx Z ?_));refine Ae Z Z Z (Gs pp b [c,c,c] a2 0 w6 ae (by omega) (by simp) (by simp) (by omega)) ?_;rintro e w7 ⟨rfl,bd⟩;refine T2 Z Z ?_;have f:=ae.sm bd;have p:=bc.trans (bd.fm (B:=pp) (T:=[120,1001]));have af:=Cd (B':=pp) (T:=[]) aq bd.fm (by simp);by_cases cm:Ht b a2 [c,c,c]
     ·(repeat first|refine Aa Z ?_|apply Ab|apply Ac|refine Ao Z (by first|omega|decide) ?_);refine Ae Z Z Z (Dg pp b a2 0 w7 f) ?_;rintro e w8 ⟨rfl,i,d⟩;refine T2 Z Z ?_;(repeat first|refine Aa Z ?_|apply Ab|apply Ac|apply Bl|apply Bv|apply Ai);exact Ak Z Z ⟨b.length,1,.slice none 0 0,[],rfl,i,p.trans (Fu d),RS.nil _ _,by omega,by omega,(fun h=>by cases h),fun _=>Nat.le_refl _⟩
     ·(repeat first|refine Aa Z ?_|apply Ab|refine Aj Z (by first|omega|decide) ?_|apply Am|apply An|apply Af);refine Ae Z Z Z (Xz pp c b a2 w7 hq f y.1 hb) ?_;rintro e w8 ⟨a3,s3,out,rfl,i,d,k1,k2,k3,k9⟩;refine T2 Z Z ?_;have au:=p.trans d;have t:=Cd af d (by simp);have bn:K<=w8.heap.size:=hK▸au.size;refine Ec Z Z (lE out) Z (fun w9 be=>?_);have bz:=Bi t (fun k o hk h=>be.keep h);have av:Up K w8 w9:=be.up bn;refine Md (B:=K) (m:=1) [Bm out] Z Z (rfl:Fx 34=some (9,1)) bz Z (fun j u hu=>by rw [Dw];exact Ar be.at_ (by simpa using hu)) (fun u hu=>by simp only [List.mem_singleton] at hu;rw [hu];rfl) (by omega) (Nat.le_trans bn av.size) (fun v' ar ag ah _=>⟨_,rfl,?_⟩);have q:Up K w8 ar:=av.trans ah.up;(repeat first|refine Aa Z ?_|apply Aq|apply Bj);refine Bh (a3,s3,out,v') ⟨i.upB q al,au.upN (hK▸q) (by omega),by dsimp only;omega,k2,?_,fun h=>?_,k9⟩ ⟨Z,Z,V⟩
      ·dsimp only;rw [Ye,List.map_append];exact ag
      ·dsimp only at h ⊢;obtain⟨m1,m2,m3⟩:=k3 h;refine⟨m2,m1,?_⟩;rw [y.2];rcases m3 with ⟨rfl,m3⟩|⟨rfl,m3⟩
       ·exact KP.bas m3
       ·exact KP.lit m3
   ·have ch:¬c.toNat=34:=fun h=>ac (.inl h);have ci:¬c.toNat=39:=fun h=>ac (.inr h);(repeat first|refine Aa Z ?_|apply Ab|apply Ac|refine Aj Z (by first|omega|decide) ?_|refine Au Z ?_|refine Az Z Z (by first|omega|decide) ?_);refine Ae Z Z Z (Wx c w5) ?_;rintro e w6 ⟨rfl,rfl⟩;refine T2 Z Z ?_;cases bo:Er c with
    | false=>
     (repeat first|refine Aa Z ?_|apply Ab|apply Ac|refine Bb Z (by first|with_reducible rfl|exact Bool.not_true) ?_);refine Ae Z Z Z (Dg pp b a2 0 w6 ab) ?_;rintro e w8 ⟨rfl,i,d⟩;refine T2 Z Z ?_;(repeat first|refine Aa Z ?_|apply Ab|apply Ac|apply Bl|apply Bv|apply Ai);exact Ak Z Z ⟨b.length,1,.slice none 0 0,[],rfl,i,ao.trans (Fu d),RS.nil _ _,by omega,by omega,(fun h=>by cases h),fun _=>Nat.le_refl _⟩
    | true=>
     have bp:∀{x:UInt8},Er x=true->x≠0:=fun {x} h h'=>(by rw [h'] at h;revert h;decide);have y:=Fd (b:=b) (a:=a2) (by rw [<-hc];exact bp bo);rw [<-hc] at y;obtain⟨vb,p1,p2⟩:=id ab;repeat first|refine Aa Z ?_|apply Ab|apply Ac|refine Bn Z (by first|with_reducible rfl|exact Bool.not_false) ?_|refine Av Z Z p1 Z Z ?_|refine Cr (x:=.block _ (.loop _)) (σ:=Nat) (fun a3 w'=>PB w' pp b a3 0/\Fm pp [120,1001] w w'/\a2<a3/\a3<=b.length/\w'.ownsRow K 9 1 v ks.length (ks.map Bm)/\(∀x∈(b.drop a2).take (a3-a2),Er x=true)/\Er (pk b a3)=false) (fun a3=>[(0,pt pp),(3,v),(5,.int .i64 (a2:Int))]) ?_ ?_|apply Ag
     ·skip;refine Bg (σ:=Nat) (I:=fun a3 w'=>PB w' pp b a3 0/\Fm pp [120,1001] w w'/\a2<=a3/\a3<=b.length/\w'.ownsRow K 9 1 v ks.length (ks.map Bm)/\(∀x∈(b.drop a2).take (a3-a2),Er x=true)) (m:=fun a3=>b.length-a3) (Lf:=fun a3=>[(0,pt pp),(3,v),(5,.int .i64 (a2:Int))])
       a2 ⟨ab,ao,Nat.le_refl _,bv,ba,by simp⟩ ⟨Z,Z,Z,V⟩ ?_
      clear p1 p2 ab ao ba;rintro a3 w7 ⟨f,p,k1,k2,af,k3⟩;(repeat first|refine Aa Z ?_|apply Ac|apply Ad);refine Ae Z Z Z (Cj pp b a3 0 0 w7 f (by omega) (by omega) (by omega)) ?_;rintro e w8 ⟨he,aa⟩;rw [Nat.add_zero] at he;subst he;refine T2 Z Z ?_;have i:=f.sm aa;have d:=p.trans (aa.fm (B:=pp) (T:=[120,1001]));have t:=Cd (B':=pp) (T:=[]) af aa.fm (by simp);skip;refine Ae Z Z Z (Wx (pk b a3) w8) ?_;rintro e w9 ⟨rfl,rfl⟩;refine T2 Z Z ?_;cases ai:Er (pk b a3) with
      | true=>
       have cj:=Fd (b:=b) (a:=a3) (bp ai);obtain⟨vb8,u1,u2⟩:=id i;(repeat first|refine Aa Z ?_|apply Ab|refine Bn Z (by first|with_reducible rfl|exact Bool.not_false) ?_|refine Av Z Z u1 Z Z ?_|apply Am|apply Ag|apply An|apply Af|refine Ay Z Z (by omega) Z ?_);refine Bk Z Z Z u1 Z Z (fun w9 bf=>?_);obtain⟨bg,aj⟩:=PB.st (n:=a3+1) u1 u2 bf;(repeat first|apply Aq|apply Bj);refine Ap (a3+1) ⟨bg,d.trans (Fu aj),by omega,by omega,Cd t aj (by simp),fun x hx=>?_⟩ (by omega) ⟨Z,Z,Z,V⟩;have e:a3+1-a2=(a3-a2)+1:=(by omega);rw [e,Qv (by omega)] at hx;rcases List.mem_append.1 hx with hx|hx
       ·exact k3 x hx
       ·simp only [List.mem_singleton] at hx;rw [hx,show a2+(a3-a2)=a3 by omega];exact ai
      | false=>
       have cn:a2≠a3:=by
        rintro rfl;rw [<-hc,bo] at ai;cases ai
       (repeat first|apply Ab|refine Bb Z (by first|with_reducible rfl|exact Bool.not_true) ?_|apply Cn|apply Ci|apply Ba);exact Bh a3 ⟨i,d,by omega,k2,t,k3,ai⟩ ⟨Z,Z,Z,V⟩
     ·rintro a3 w7 ⟨f,p,k1,k2,af,k3,k4⟩;have ca:K<=w7.heap.size:=hK▸p.size;obtain⟨vb7,u1,u2⟩:=id f;obtain⟨ad,cap,rfl,co,cb⟩:=id u2;obtain⟨bb,o,dcs,et,fz,rfl,cc,cd,cp⟩:=cb (by rintro rfl;simp at k2;omega);have hd:∀k,k<K->w7.drew.heap[k]?=w7.heap[k]?:=fun _ _=>rfl;have c1:∀w':World,(∀k,k<K->w'.heap[k]?=w7.heap[k]?)->w'.cell? ⟨pp,1,none⟩=some (.int .i64 (a3:Int)):=fun w' hw=>Ar (by rw [hw _ al];exact u1) rfl;have c0:∀w':World,(∀k,k<K->w'.heap[k]?=w7.heap[k]?)->w'.cell? ⟨pp,0,none⟩=some (.slice (some ⟨bb,o,none⟩) b.length cap):=fun w' hw=>Ar (by rw [hw _ al];exact u1) rfl;obtain⟨k,hk⟩:∃k,k=(b.drop a2).take (a3-a2):=⟨_,rfl⟩;have aw:k.length=a3-a2:=(by rw [hk,List.length_take,Yh];omega);skip;refine Cp (fun w'=>∀k,k<K->w'.heap[k]?=w7.heap[k]?) ?_;(repeat first|refine Cg (by kernel_rfl) (by first|trivial|assumption) Z ?_|refine Cl (by kernel_rfl) hd Z Z c0 Z ?_|refine Cl (by kernel_rfl) hd Z Z c1 Z ?_);refine Dr (a3-a2) a2 (by kernel_rfl) hd Z Z (Sf.mk bb o cap) Z (by simp only [Option.getD];omega) (by omega) (fun ad'=>rfl) (fun ad' ce=>?_);refine cE k (by kernel_rfl) hd Z Z (fun w' cf=>⟨ad',cap-a2,by rw [aw],fun _=>⟨bb,o+a2,dcs,et,fz,ce.addr (by omega),by rw [cf _ (by omega)];exact cc,by rw [hk];exact (cd.drop a2).take _⟩⟩) Z ?_;refine WX.bs (by kernel_rfl) Z Z (lE k) Z (fun w8 ak=>⟨fun j hj=>ak.oth j (by show j<w7.heap.size;omega),?_⟩);have t:w8.ownsRow K 9 1 v ks.length (ks.map Bm):=Bi af (fun k o hk h=>ak.keep h);refine gM (B:=K) (m:=1) [Bm k] (by kernel_rfl) Z Z (rfl:Fx 34=some (9,1)) t Z (fun j u hu=>by rw [Dw];exact Ar ak.at_ (by simpa using hu)) (fun u hu=>by simp only [List.mem_singleton] at hu;rw [hu];rfl) (by omega) (by rw [ak.size];show K<=w7.heap.size+1;omega) (fun v' ar ag ah _=>?_);have cg:Up K w7 w8:=(Sm.refl w7).drew.up.trans (ak.up (by show K<=w7.heap.size;exact ca));have q:Up K w7 ar:=cg.trans ah.up;have bq:∀k,k<K->ar.heap[k]?=w7.heap[k]?:=fun j hj=>q.old j hj;refine⟨bq,_,rfl,?_⟩;(repeat (refine Cg (by kernel_rfl) (by first|trivial|assumption) Z ?_));refine Co ?_;(repeat (apply Bj));refine Bh (a3,0,k,v') ⟨f.upB q al,p.upN (hK▸q) (by omega),by dsimp only;omega,by dsimp only;omega,?_,fun _=>⟨k1,k2,?_⟩,fun h=>absurd rfl h⟩ ⟨Z,Z,V⟩
      ·dsimp only;rw [Ye,List.map_append];exact ag
      ·dsimp only;have br:=List.take_append_drop (a3-a2) (b.drop a2);rw [<-hk,List.drop_drop,show a2+(a3-a2)=a3 by omega] at br;rw [<-br];refine KP.bare (by rintro rfl;simp only [List.length_nil] at aw;omega) (by rw [hk];exact k3) (fun x hx=>?_);rw [<-Qy hx];exact k4
  ·rintro⟨a3,s3,k,v'⟩ w6 ⟨ae,bc,k1,k2,aq,k3,k9⟩;dsimp only at ae k1 k2 aq k3 k9 ⊢;(repeat first|refine Aa Z ?_|apply Ac);refine Ae Z Z Z (Fk pp b a3 s3 w6 ae k2 hb) ?_;rintro e w7 ⟨a4,rfl,f,p,ax,m1,m2,m3⟩;refine T2 Z Z ?_;(repeat first|refine Aa Z ?_|apply Ab|apply Ac|apply Ad);refine Ae Z Z Z (Cj pp b a4 s3 0 w7 f (by omega) (by omega) (by omega)) ?_;rintro e w8 ⟨he,aa⟩;rw [Nat.add_zero] at he;subst he;refine T2 Z Z ?_;have i:=f.sm aa;have d:=(bc.trans (Fu p)).trans (aa.fm (B:=pp) (T:=[120,1001]));have t:=Cd (B':=pp) (T:=[]) (Cd aq p (by simp)) aa.fm (by simp);by_cases z:(pk b a4).toNat=46
   ·have e46:pk b a4=46:=UInt8.toNat_inj.1 z;have ck:=(Fd (b:=b) (a:=a4) (by rw [e46];decide)).1;obtain⟨vb8,u1,u2⟩:=id i;(repeat first|refine Aa Z ?_|apply Ab|refine Aj Z (by first|omega|decide) ?_|refine Av Z Z u1 Z Z ?_|apply Am|apply An|apply Af|refine Ay Z Z (by omega) Z ?_);refine Bk Z Z Z u1 Z Z (fun w9 bf=>?_);obtain⟨bg,aj⟩:=PB.st (n:=a4+1) u1 u2 bf;(repeat first|apply Aq|apply Bj);refine Ap (a4+1,s3,ks++[k],v') ⟨bg,d.trans (Fu aj),by dsimp only;omega,by dsimp only;omega,Cd t aj (by simp),fun h=>?_,fun h=>by dsimp only at h ⊢;have:=k9 h;omega⟩ (fJ (fun _=>by omega) (by omega)) ⟨Z,Z,V⟩;dsimp only at h ⊢;obtain⟨j1,j2,j3⟩:=k3 h;exact⟨by omega,by simp only [Ye,List.length_singleton];omega,cont2 j3 ax e46⟩
   ·(repeat first|refine Aa Z ?_|apply Ab|apply Ac|refine Ao Z (by first|omega|decide) ?_|apply Bl|apply Bv|apply Ai);exact Ak Z Z ⟨a4,s3,v',ks++[k],rfl,i,d,RS.own t,by omega,m3,(fun h=>⟨m2 (k3 h).2.1,cont (k3 h).2.2 ax (fun h=>z (by rw [h];rfl))⟩),fun h=>Nat.le_trans (k9 h) m1⟩
 ·(repeat first|refine Aa Z ?_|apply Ab|apply Ac|refine Aj Z (by first|omega|decide) ?_|refine Av Z Z q1 Z Z ?_|apply Ad|apply An|apply Cn|apply Ci|apply Ba|apply Ai);exact Ak Z Z ⟨a1,s1,.slice none 0 0,[],rfl,hP,hF,RS.nil _ _,h1,h2,(fun h=>absurd h bk),h4⟩
end
section
theorem VA.skip {d:Nat} {a:Bool} {b r:Bs} {vs:List Bz} (h:VA d a (Bd b) vs r):VA d a b vs r:=by
 cases h with
 | close h=>rw [Ed] at h;exact .close h
 | lf h h2=>rw [Ed] at h;exact .lf h h2
 | crlf h h2=>rw [Ed] at h;exact .crlf h h2
 | cm h h2 h3=>rw [Ed] at h;exact .cm h h2 h3
 | comma h h2=>rw [Ed] at h;exact .comma h h2
 | val h h2 h3 h4=>rw [Ed] at h;exact .val h h2 h3 h4
theorem VA.sp {d:Nat} {a:Bool} {b r r':Bs} {vs:List Bz} (h:Sp b r) (hv:VA d a r vs r'):VA d a b vs r':=by
 induction h with
 | stop h1 h2 h3 h4=>subst h1;exact hv.skip
 | lf h1 h2 ih=>exact .lf h1 (ih hv)
 | crlf h1 h2 ih=>exact .crlf h1 (ih hv)
 | cm h1 h2 h3 ih=>exact .cm h1 h2 (ih hv)
theorem Sp.head {b r:Bs} (h:Sp b r):Bd r=r/\r.head?≠some 35/\(∀t,r≠10::t)/\∀t,r≠13::10::t:=by
 induction h with
 | stop h1 h2 h3 h4=>subst h1;exact⟨Ed _,h2,h3,h4⟩
 | lf _ _ ih=>exact ih
 | crlf _ _ ih=>exact ih
 | cm _ _ _ ih=>exact ih
theorem Sp.at {t r:Bs} {c:UInt8} (h:Sp (c::t) r) (hc:c=93∨c=44):r=c::t:=by
 have hs:Bd (c::t)=c::t:=by
  rw [Bd,if_neg];rcases hc with rfl|rfl<;>decide
 cases h with
 | stop h1 h2 h3 h4=>rw [hs] at h1;exact h1.symm
 | lf h1 h2=>rw [hs] at h1;simp only [List.cons.injEq] at h1;rcases hc with rfl|rfl<;>exact absurd h1.1 (by decide)
 | crlf h1 h2=>rw [hs] at h1;simp only [List.cons.injEq] at h1;rcases hc with rfl|rfl<;>exact absurd h1.1 (by decide)
 | cm h1 h2 h3=>rw [hs] at h1;simp only [List.cons.injEq] at h1;rcases hc with rfl|rfl<;>exact absurd h1.1 (by decide)
theorem Ic.of_sp {b r t:Bs} {c:UInt8} (h:Sp b r) (hr:r=c::t) (hc:c=93∨c=44):Ic b:=by
 cases h with
 | stop h1 h2 h3 h4=>exact Ic.of_head (by rw [h1,hr]) (by rcases hc with rfl|rfl<;>decide)
 | lf h1 h2=>exact Ic.of_head h1 (by decide)
 | crlf h1 h2=>exact Ic.of_head h1 (by decide)
 | cm h1 h2 h3=>exact Ic.of_head h1 (by decide)
theorem dig_nat {c:UInt8} (h:Dj c=true):48<=c.toNat/\c.toNat<=57:=by simpa [Dj] using h
theorem Sd.head {b:Bs} {n:Nat} (h:Sd 10 b n):∃c t,b=c::t/\48<=c.toNat/\c.toNat<=57:=by
 have key:∀{b:Bs} {k:Nat},Fc 10 b=k->0<k->∃c t,b=c::t/\48<=c.toNat/\c.toNat<=57:=fun {b k} h1 h2=>by
  cases b with
  | nil=>simp [Fc] at h1;omega
  | cons c t=>
   rw [Fc] at h1;split at h1
   ·rename_i hc;refine⟨c,t,rfl,?_⟩;unfold Fb at hc;split at hc
    ·assumption
    ·split at hc
     ·omega
     ·split at hc<;>omega
   ·omega
 cases h with
 | one h1 h2 h3=>exact key h1 h2
 | more h1 h2 h3 h4=>exact key h1 h2
theorem Lp.first {c:UInt8} {t:Bs} {k n:Nat} (h:Lp (c::t) k n):(48<=c.toNat/\c.toNat<=57)∨c.toNat=43∨c.toNat=45∨c.toNat=105∨c.toNat=110:=by
 have p0:pk (c::t) 0=c:=rfl;have dg:∀{m:Nat},Da (c::t) 0 m->0<m->48<=c.toNat/\c.toNat<=57:=fun h hm=>dig_nat (h 0 hm);have sg:Di (c::t)=0∨c.toNat=43∨c.toNat=45:=by
  unfold Di;rw [p0];split
  ·rename_i h;rcases h with rfl|rfl
   ·exact .inr (.inl rfl)
   ·exact .inr (.inr rfl)
  ·exact .inl rfl
 cases h with
 | date h1=>exact .inl (dg h1.1 (by omega))
 | dateTime h1=>exact .inl (dg h1.1 (by omega))
 | offZ h1=>exact .inl (dg h1.1 (by omega))
 | offN h1=>exact .inl (dg h1.1 (by omega))
 | time h1 h2 h3=>exact .inl (dg h2.1 (by omega))
 | radix h1=>
  simp only [List.cons.injEq] at h1;rw [h1.1];exact .inl (by decide)
 | inf h=>
  rcases sg with s|s|s
  ·rw [s] at h;simp only [List.drop_zero,List.cons.injEq] at h;rw [h.1];decide
  ·exact .inr (.inl s)
  ·exact .inr (.inr (.inl s))
 | nan h=>
  rcases sg with s|s|s
  ·rw [s] at h;simp only [List.drop_zero,List.cons.injEq] at h;rw [h.1];decide
  ·exact .inr (.inl s)
  ·exact .inr (.inr (.inl s))
 | dec h1 h2 h3 h4=>
  rcases sg with s|s|s
  ·rw [s,List.drop_zero] at h4;obtain⟨c',t',h5,h6⟩:=h4.head;simp only [List.cons.injEq] at h5;rw [h5.1];exact .inl h6
  ·exact .inr (.inl s)
  ·exact .inr (.inr (.inl s))
theorem VV.first {d:Nat} {c:UInt8} {t r:Bs} {v:Bz} (h:VV d (c::t) v r):c.toNat≠93/\c.toNat≠10/\c.toNat≠13/\c.toNat≠35/\c.toNat≠44:=by
 generalize hx:c::t=x at h;cases h with
 | num h1 h2 h3=>
  subst hx;have:=h2.first;omega
 | _=>
  simp only [List.cons.injEq] at hx;rw [hx.1];decide
theorem VT.skip {d:Nat} {a:Bool} {b r:Bs} {vs:List (List Bs×Bz)} (h:VT d a (Bd b) vs r):VT d a b vs r:=by
 cases h with
 | close h=>rw [Ed] at h;exact .close h
 | comma h h2=>rw [Ed] at h;exact .comma h h2
 | ent h1 h2 h3=>exact .ent h1.skip h2 h3
theorem Cc.fm {P P':Nat->Prop} {w w':World} {B:Nat} {T:List Nat} (hf:Fm B T w w') (h9:9∉T) (a:37∉T) (hp:∀b,P b->P' b):Cc P P' w w':=fun b o hb ho ht=>
 ⟨hf.keep _ _ ho (by rcases ht with h|h<;>rw [h]<;>assumption),hp b hb⟩
def VRes (pp:Nat) (b:Bs) (a st d:Nat) (w:World) (e:Ending) (w':World):Prop:=
 ∃a' st' x y z kv v,e=.returned (.agg ⟨[x,y,z,kv]⟩)/\PB w' pp b a' st'/\Fm pp [120,1001] w w'/\Nd w' (fun g=>w.heap.size<=g) v x y z/\RS w' (fun g=>w.heap.size<=g) kv []/\a<=a'/\a'<=b.length+10/\
  (st'=0->st=0/\a<a'/\a'<=b.length/\(Ic (b.drop a')->VV d (b.drop a) v (b.drop a')))
def oA (k:Nat):Prop:=∀(pp:Nat) (b:Bs) (a st d:Nat) (w:World),PB w pp b a st->(st=0∨b.length<=a)->a<=b.length->b.length<=100000000->51<=d+k->d<=60->Calls PP 64 #[pt pp,.int .i64 (d:Int)] w (VRes pp b a st d w)
end
end Go.Proofs.YtaccphdkapmdhaaGreat
