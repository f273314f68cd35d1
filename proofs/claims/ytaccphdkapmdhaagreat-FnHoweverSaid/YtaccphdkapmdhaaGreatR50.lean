/- Read, Meanings and Check answer as the grammar and the tracker say. No condition. -/
import Derived.Test.YtaccphdkapmdhaaGreatR48
import Derived.Test.YtaccphdkapmdhaaGreatR49
namespace Go.Proofs.YtaccphdkapmdhaaGreat
set_option maxRecDepth 100000
set_option maxHeartbeats 64000000
set_option linter.all false
section
attribute [local irreducible] binOp IntKind.wrap Sem.run
theorem bd132 (ad:Option Addr) (n c:Nat) (x y z u:Value) (w:World):(Instr.build 132 ⟨[(0,.int .i64 0),(1,.slice ad n c),(2,.agg ⟨[x,y,z,u]⟩)]⟩).run PP w=.ok (.agg ⟨[.int .i64 0,.slice ad n c,x,y,z,u]⟩) w:=by kernel_rfl
theorem nO (k:Int) (ad:Option Addr) (n c:Nat) (w:World):(Instr.build 132 ⟨[(0,.int .i64 k),(1,.slice ad n c)]⟩).run PP w=.ok (.agg ⟨[.int .i64 k,.slice ad n c,.int .i64 0,Bm [],.slice none 0 0,.slice none 0 0]⟩) w:=by kernel_rfl
theorem bs85 (a b c d e f:Value) (w:World):(Instr.buildSlice 85 1 ⟨[(0,.agg ⟨[a,b,c,d,e,f]⟩)]⟩).run PP w=.ok (.slice (F w.heap.size) 1 1) (w.alloc (.cells ⟨[a,b,c,d,e,f]⟩ 132 (0,0))):=by kernel_rfl
def Lc (w:World) (P:Nat->Prop):List Ex->List Value->Prop
 | [],_=>True
 | x::es,l=>∃kv a b c d r,l=.int .i64 (Hh x:Int)::kv::a::b::c::d::r/\RS w P kv (Cz x)/\(Hh x=0->Ik w P (Nr x) a b c)/\(Bp a=true/\Bp b=true/\Bp c=true)/\RS w P d []/\Lc w P es r
theorem Lc.move {w w':World} {P P':Nat->Prop} (hk:Dh P P' w w'):∀(es:List Ex) (l:List Value),Lc w P es l->Lc w' P' es l
 | [],_,_=>trivial
 | x::es,l,h=>by
  obtain⟨kv,a,b,c,d,r,h1,h2,h3,h4,h5,h6⟩:=h;exact⟨kv,a,b,c,d,r,h1,RS.move9 hk h2,fun h=>Ik.move hk _ _ _ _ (h3 h),h4,RS.move9 hk h5,Lc.move hk es r h6⟩
theorem Lc.more {w:World} {P:Nat->Prop}:∀{es:List Ex} {l:List Value} (r:List Value),Lc w P es l->Lc w P es (l++r)
 | [],_,_,_=>trivial
 | x::es,l,r,h=>by
  obtain⟨kv,a,b,c,d,l',rfl,h2,h3,h4,h5,h6⟩:=h;exact⟨kv,a,b,c,d,l'++r,rfl,h2,h3,h4,h5,Lc.more r h6⟩
theorem Lc.snoc {w:World} {P:Nat->Prop}:∀{es:List Ex} {l:List Value} {x:Ex} {kv a b c d:Value},Lc w P es l->l.length=es.length*6->RS w P kv (Cz x)->(Hh x=0->Ik w P (Nr x) a b c)->(Bp a=true/\Bp b=true/\Bp c=true)->RS w P d []->Lc w P (es++[x]) (l++[.int .i64 (Hh x:Int),kv,a,b,c,d])
 | [],l,x,kv,a,b,c,d,_,hl,h1,h2,h3,h4=>by
  have:l=[]:=List.eq_nil_of_length_eq_zero (by simpa using hl);subst this;exact⟨kv,a,b,c,d,[],rfl,h1,h2,h3,h4,trivial⟩
 | y::es,l,x,kv,a,b,c,d,h,hl,h1,h2,h3,h4=>by
  obtain⟨kv',a',b',c',d',r,rfl,q2,q3,q4,q5,q6⟩:=h;exact⟨kv',a',b',c',d',r++[.int .i64 (Hh x:Int),kv,a,b,c,d],rfl,q2,q3,q4,q5,Lc.snoc q6 (by simp at hl;omega) h1 h2 h3 h4⟩
theorem Lc.get {w:World} {P:Nat->Prop}:∀{es:List Ex} {l:List Value} {m:Nat} {x:Ex},Lc w P es l->es[m]?=some x->
  ∃kv a b c d,(∀(j:Nat) (y:Value),[.int .i64 (Hh x:Int),kv,a,b,c,d][j]?=some y->l[m*6+j]?=some y)/\RS w P kv (Cz x)/\(Hh x=0->Ik w P (Nr x) a b c)/\RS w P d []
 | [],_,_,_,_,h=>by simp at h
 | u::vs,l,0,v,hn,h=>by
  obtain⟨kv,a,b,c,d,r,rfl,h2,h3,_,h4,h5⟩:=hn;simp only [List.getElem?_cons_zero,Yb] at h;subst h;refine⟨kv,a,b,c,d,fun j x hx=>?_,h2,h3,h4⟩;have hj:=(Yc.1 hx).1;simp only [Ya,List.length_nil] at hj;rw [show 0*6+j=j by omega,show Value.int .i64 (Hh u:Int)::kv::a::b::c::d::r=[.int .i64 (Hh u:Int),kv,a,b,c,d]++r from rfl,Yf (by simp;omega)];exact hx
 | u::vs,l,m+1,v,hn,h=>by
  obtain⟨kv,a,b,c,d,r,rfl,h2,h3,_,h4,h5⟩:=hn;rw [List.getElem?_cons_succ] at h;obtain⟨kv',a',b',c',d',q1,q2,q3,q4⟩:=Lc.get h5 h;refine⟨kv',a',b',c',d',fun j x hx=>?_,q2,q3,q4⟩;rw [show (m+1)*6+j=(m*6+j)+1+1+1+1+1+1 by omega];simp only [List.getElem?_cons_succ];exact q1 j x hx
def LkV (w:World) (P:Nat->Prop) (v:Value) (es:List Ex):Prop:=∃ad cap,v=.slice ad es.length cap/\(es≠[]->∃g cur,ad=some ⟨g,0,none⟩/\P g/\w.heap[g]?=some (.cells ⟨cur⟩ 132 (0,0))/\Lc w P es cur)
theorem LkV.move {w w':World} {P P':Nat->Prop} {v:Value} {es:List Ex} (hk:∀(b:Nat) (o:Obj),P b->w.heap[b]?=some o->w'.heap[b]?=some o/\P' b) (h:LkV w P v es):LkV w' P' v es:=by
 obtain⟨ad,cap,h1,h2⟩:=h;refine⟨ad,cap,h1,fun a=>?_⟩;obtain⟨g,cur,q1,q2,q3,q4⟩:=h2 a;obtain⟨r1,r2⟩:=hk _ _ q2 q3;exact⟨g,cur,q1,r2,r1,Lc.move (fun b o hb ho _=>hk b o hb ho) _ _ q4⟩
theorem lY (v:Value) (l:Bs) (es:List Ex) (w:World) (hv:RX w v l) (hd:Lr l es) (hm:l.length<=100000000):
  Calls PP 35 #[v] w fun e w'=>∃lv,e=.returned (.tuple #[lv,.bool true])/\LkV w' (fun b=>w.heap.size<=b) lv es/\Up w.heap.size w w':=by
 have cl:=hd.len;have cm:=Se es hd.ks;have bw:=hd.mkx hm;refine Bf (L:=[(0,v)]) Tryz.func35 Z Z Z ⟨Z,V⟩ ?_;repeat first|refine Aa Z ?_|apply Ab|apply Ac
 refine Dk Z Z Z (fun w1 ah=>?_);generalize bf:w.heap.size=pp at *;have bx:RX w1 v l:=hv.keep (fun b o h=>ah.keep h);repeat first|refine Aa Z ?_|apply Ab|apply Ac
 refine Ae Z Z Z (Qk v l w1 bx hm) ?_;rintro e w2 ⟨v2,rfl,ao,au⟩;refine T2 Z Z ?_;have av:=ah.at_;rw [bf] at av;have bg:=au.keep _ _ av (by simp [Ce]);have cj:w1.heap.size=pp+1:=by rw [ah.size,bf]
 have bh:Up pp w w2:=(ah.up (by omega)).trans (au.upB (by omega));clear au av ah;obtain⟨ad2,n2,c2,bi⟩:=ao.slice;rw [bi] at ao;subst bi;skip;refine Ae Z Z Z (Mu pp ad2 n2 c2 _ _ w2 bg) ?_;rintro e w3 ⟨rfl,bj,aw⟩;refine T2 Z Z ?_;have bk:=Ot ao hd aw bj;have bl:=bh.trans (aw.upB Y);clear ao bg bh aw bj;repeat first|refine Aa Z ?_|apply Ab|apply Ac|apply Ad|apply Ag
 refine Bg (σ:=List Ex×List Ex×Value) (I:=fun s w'=>(∃ns,Qq l.length pp s.2.1 ns w')/\s.1++s.2.1=es/\(∃xs,w'.ownsRow (pp+1) 132 6 s.2.2 s.1.length xs/\Lc w' (fun b=>pp<=b) s.1 xs)/\Up pp w w')
  (m:=fun s=>s.2.1.length) (Lf:=fun s=>[(4,.pointer (F pp)),(5,s.2.2)])
  ([],es,.slice none 0 0) ⟨⟨_,bk⟩,rfl,⟨[],World.ownsRow_nil _ _ _ _,trivial⟩,bl⟩ ⟨Z,Z,V⟩ ?_
 clear bk bl;rintro⟨dn,rest,lv⟩ w5 ⟨⟨ns,hX⟩,af,⟨xs,hO,hL⟩,hU⟩;dsimp only at hX af hO hL ⊢;repeat first|apply Ac|apply Ad
 refine Ae Z Z Z (Qu hm hX) ?_;rintro e w6 ⟨ap,h6⟩;have bz:=hX.ks;have ad:=Cd hO ap (by simp);have bm:=Lc.move (Dh.fm (P':=fun b=>pp<=b) ap (by simp) (by simp) (fun b h=>h)) _ _ hL;have ax:=hU.trans (ap.upB Y);clear hX hO hL hU ap;rcases h6 with ⟨rfl,rfl,data,left,ay⟩|⟨x,rest',rfl,rfl,bn,cn⟩
 ·refine T2 Z Z ?_;(repeat first|apply Ab|apply Ac|refine Bb Z (by first|with_reducible rfl|exact Bool.not_true) ?_|apply Ad|apply An|apply Cn|apply Ci|apply Ba);refine Ae Z Z Z (Pa pp data left 0 [] w6 ay) ?_;rintro e w7 ⟨rfl,rfl⟩;refine T2 Z Z ?_;rw [List.append_nil] at af;subst af;(repeat first|refine Aa Z ?_|apply Ab|apply Ac|refine Bb Z (by first|with_reducible rfl|exact Bool.not_true) ?_|apply An|apply Af|apply Ai);refine Ak Z Z ⟨lv,rfl,?_,ax⟩;rcases ad.2 with ⟨rfl,hn⟩|⟨g,cap,cur,rfl,hb,co,_⟩
  ·exact⟨none,0,by rw [hn],fun h=>absurd (List.eq_nil_of_length_eq_zero hn) h⟩
  ·refine⟨_,cap,rfl,fun ca=>?_⟩;obtain⟨g',cap',cur',e1,e2,e3⟩:=Kx ad (fun h=>ca (List.eq_nil_of_length_eq_zero h));cases e1;exact⟨g,xs++cur',rfl,by omega,e3,Lc.more _ bm⟩
 ·refine T2 Z Z ?_;obtain⟨data,left,ay⟩:=bn.ps;obtain⟨g,hg,ae⟩:=ay.ar (Kk x) (by omega);have bo:=bz x (by simp);have cb:x∈es:=(by rw [<-af];simp);obtain⟨cp,az,cc⟩:=bw x cb;have ai:=Uv x bo;have ba:=Uu x bo;have cq:dn.length<=es.length:=(by rw [<-af,Ye];omega);have bp:(dn++[x])++rest'=es:=(by rw [<-af];simp);(repeat first|apply Ab|apply Ac|refine Bn Z (by first|with_reducible rfl|exact Bool.not_false) ?_|apply Ag|apply An|apply Af);refine Ae Z Z Z (Jm pp g _ w6 ae (Kk x)) ?_;rintro e w7 ⟨rfl,rfl⟩;refine T2 Z Z ?_;have cd:pp<=w7.heap.size:=(by have:=ax.size;omega);have ck:∀g,lv.ownBlock=some g->g<w7.heap.size:=fun g hg=>(ad.lt g hg).2;have put:∀(w8 w9:World) (kv a b c d:Value),Up w7.heap.size w7 w8->RS w8 (fun b=>pp<=b) kv (Cz x)->(Hh x=0->Ik w8 (fun b=>pp<=b) (Nr x) a b c)->(Bp a=true/\Bp b=true/\Bp c=true)->RS w8 (fun b=>pp<=b) d []->∀(v':Value),Fm (pp+1) [132] w8 w9->
    w9.ownsRow (pp+1) 132 6 v' (dn.length+1) (xs++[.int .i64 (Hh x:Int),kv,a,b,c,d])->
    ((∃ns,Qq l.length pp rest' ns w9)/\(dn++[x])++rest'=es/\(∃xs,w9.ownsRow (pp+1) 132 6 v' (dn++[x]).length xs/\Lc w9 (fun b=>pp<=b) (dn++[x]) xs)/\Up pp w w9):=by
   intro w8 w9 kv a b c d k hR hI ho hD v' bb ce;have cf:=(bn.fm (B:=0) (T:=[]) (k.fm Y O) (by simp) (by simp) (by simp)).fm bb (by simp) (by simp) (by simp);have mv:Dh (fun b=>pp<=b) (fun b=>pp<=b) w8 w9:=Dh.fm bb (by simp) (by simp) (fun b h=>h);refine⟨⟨_,cf⟩,bp,⟨_,by rw [Ye];exact ce,?_⟩,(ax.trans (k.mono cd)).trans (bb.upB (by omega))⟩;exact Lc.snoc (Lc.move (Dh.trans (Dh.up k (fun b h _=>h)) mv) _ _ bm) (by rw [ad.1]) (RS.move9 mv hR) (fun h=>Ik.move mv _ _ _ _ (hI h)) ho (RS.move9 mv hD)
  obtain⟨cur,h2,h3⟩:=ae.cells;cases x with
  | kv ks v=>
   obtain⟨a,c,b,ha,p,bq,cg,ch,aj⟩:=ba;have c0:w7.cell? ⟨g,0,none⟩=some (.int .i64 5):=(by rw [Ar h2 (by simpa using (h3 0 a ha).kind),p];rfl);have ci:=(ai 0 a ha).2.2.2;have t:Hx (Kl (.kv ks v)) a=b.next:=(by simp [Hx,p,bq,cg]);clear h2 h3;(repeat first|refine Aa Z ?_|apply Ab|apply Ac|refine Ao Z (by first|omega|decide) ?_|refine Aw Z Z c0 Z ?_|apply Am|apply Ag);refine Ae Z Z Z (Nc pp g 0 _ a ks w7 ae ai ha (.inl ⟨p,by omega⟩) (by rw [t];exact aj) az) ?_;rintro e w8 ⟨kv,rfl,ag,k⟩;refine T2 Z Z ?_;(repeat (refine Aa Z ?_));refine Ae Z Z Z (Ns pp g 0 _ a w8 (ae.up k) ha ci) ?_;rintro e w9 ⟨rfl,bc⟩;rw [bq,Fe];refine T2 Z Z ?_;have aq:=k.trans bc.up;have br:RS w9 (fun b=>w7.heap.size<=b) kv ks:=RS.move9 (Dh.fm (P':=fun b=>w7.heap.size<=b) (B:=0) (T:=[]) bc.fm (by simp) (by simp) (fun b h=>h)) ag;clear ag k bc;skip;refine Ae Z Z Z (Vn v pp g c _ w9 (ae.up aq) ai ch cc) ?_;rintro e bd ⟨x,y,z,rfl,ak,al⟩;refine T2 Z Z ?_;have bs:=aq.size;have am:=aq.trans (al.mono bs);have n:RS bd (fun b=>pp<=b) kv ks:=RS.move9 (Dh.up al (fun b h _=>by omega)) br;have be:Ik bd (fun b=>pp<=b) v x y z:=Ik.move (fun b o hb ho _=>⟨ho,by omega⟩) _ _ _ _ ak;obtain⟨o1,o2,o3,_⟩:=ak.one;obtain⟨adk,capk,rfl,bt⟩:=id n;clear br ak aq al;refine Cx Z Z (bd132 _ _ _ _ _ _ _) Z ?_;refine Ec Z Z (bs85 _ _ _ _ _ _) Z (fun r i=>?_);have q:=am.size;have f:=am.trans (i.up q);have aa:r.ownsRow (pp+1) 132 6 lv dn.length xs:=Bi ad (fun g o hg h=>f.at (Ah h) h);refine Qo (m:=1) [.int .i64 0,.slice adk ks.length capk,x,y,z,.slice none 0 0] Z Z (rfl:Fx 85=some (132,6)) aa Z (fun j u hu=>?_) (fun u hu=>?_) (by omega) (by have:=f.size;have:=Ah i.at_;omega) (fun v' an ab ac bu bv=>?_)
   ·rw [Dw];exact Ar i.at_ (by simpa using hu)
   ·simp only [List.mem_cons,List.not_mem_nil,or_false] at hu;rcases hu with rfl|rfl|rfl|rfl|rfl|rfl<;>first|assumption|rfl
   refine⟨_,rfl,?_⟩;have mv:Dh (fun b=>pp<=b) (fun b=>pp<=b) bd r:=fun b o hb ho _=>⟨i.keep ho,hb⟩;(repeat first|refine Aa Z ?_|apply Aq|apply Bj);exact Ap (dn++[.kv ks v],rest',v') (put r an _ x y z (.slice none 0 0) f (RS.move9 mv n) (fun _=>Ik.move mv _ _ _ _ be) ⟨o1,o2,o3⟩ (RS.nil _ _) v' ac ab) (by simp) ⟨Z,Z,V⟩
  | tab ks=>
   obtain⟨a,ha,p,aj⟩:=ba;have c0:w7.cell? ⟨g,0,none⟩=some (.int .i64 3):=(by rw [Ar h2 (by simpa using (h3 0 a ha).kind),p];rfl);have t:Hx (Kl (.tab ks)) a=a.child:=(by simp [Hx,p]);clear h2 h3;(repeat first|refine Aa Z ?_|apply Ab|apply Ac|refine Ao Z (by first|omega|decide) ?_|refine Aj Z (by first|omega|decide) ?_|refine Aw Z Z c0 Z ?_|apply Am|apply Ag);refine Ae Z Z Z (Nc pp g 0 _ a ks w7 ae ai ha (.inr (.inl p)) (by rw [t];exact aj) az) ?_;rintro e w8 ⟨kv,rfl,ag,k⟩;refine T2 Z Z ?_;have n:RS w8 (fun b=>pp<=b) kv ks:=RS.move9 (fun b o hb ho _=>⟨ho,by omega⟩) ag;obtain⟨adk,capk,rfl,bt⟩:=id n;refine Cx Z Z (nO _ _ _ _) Z ?_;refine Ec Z Z (bs85 _ _ _ _ _ _) Z (fun r i=>?_);have q:=k.size;have f:=k.trans (i.up q);have aa:r.ownsRow (pp+1) 132 6 lv dn.length xs:=Bi ad (fun g o hg h=>f.at (Ah h) h);refine Qo (m:=1) [.int .i64 1,.slice adk ks.length capk,.int .i64 0,Bm [],.slice none 0 0,.slice none 0 0] Z Z (rfl:Fx 85=some (132,6)) aa Z (fun j u hu=>?_) (fun u hu=>?_) (by omega) (by have:=f.size;have:=Ah i.at_;omega) (fun v' an ab ac bu bv=>?_)
   ·rw [Dw];exact Ar i.at_ (by simpa using hu)
   ·simp only [List.mem_cons,List.not_mem_nil,or_false] at hu;rcases hu with rfl|rfl|rfl|rfl|rfl|rfl<;>rfl
   refine⟨_,rfl,?_⟩;(repeat first|refine Aa Z ?_|apply Aq|apply Bj);exact Ap (dn++[.tab ks],rest',v') (put r an _ (.int .i64 0) (Bm []) (.slice none 0 0) (.slice none 0 0) f (RS.move9 (fun b o hb ho _=>⟨i.keep ho,hb⟩) n) (fun h=>by cases h) ⟨rfl,rfl,rfl⟩ (RS.nil _ _) v' ac ab) (by simp) ⟨Z,Z,V⟩
  | atab ks=>
   obtain⟨a,ha,p,aj⟩:=ba;have c0:w7.cell? ⟨g,0,none⟩=some (.int .i64 4):=(by rw [Ar h2 (by simpa using (h3 0 a ha).kind),p];rfl);have t:Hx (Kl (.atab ks)) a=a.child:=(by simp [Hx,p]);clear h2 h3;(repeat first|refine Aa Z ?_|apply Ab|apply Ac|refine Ao Z (by first|omega|decide) ?_|refine Aj Z (by first|omega|decide) ?_|refine Aw Z Z c0 Z ?_|apply Am|apply Ag);refine Ae Z Z Z (Nc pp g 0 _ a ks w7 ae ai ha (.inr (.inr p)) (by rw [t];exact aj) az) ?_;rintro e w8 ⟨kv,rfl,ag,k⟩;refine T2 Z Z ?_;have n:RS w8 (fun b=>pp<=b) kv ks:=RS.move9 (fun b o hb ho _=>⟨ho,by omega⟩) ag;obtain⟨adk,capk,rfl,bt⟩:=id n;refine Cx Z Z (nO _ _ _ _) Z ?_;refine Ec Z Z (bs85 _ _ _ _ _ _) Z (fun r i=>?_);have q:=k.size;have f:=k.trans (i.up q);have aa:r.ownsRow (pp+1) 132 6 lv dn.length xs:=Bi ad (fun g o hg h=>f.at (Ah h) h);refine Qo (m:=1) [.int .i64 2,.slice adk ks.length capk,.int .i64 0,Bm [],.slice none 0 0,.slice none 0 0] Z Z (rfl:Fx 85=some (132,6)) aa Z (fun j u hu=>?_) (fun u hu=>?_) (by omega) (by have:=f.size;have:=Ah i.at_;omega) (fun v' an ab ac bu bv=>?_)
   ·rw [Dw];exact Ar i.at_ (by simpa using hu)
   ·simp only [List.mem_cons,List.not_mem_nil,or_false] at hu;rcases hu with rfl|rfl|rfl|rfl|rfl|rfl<;>rfl
   refine⟨_,rfl,?_⟩;(repeat first|refine Aa Z ?_|apply Aq|apply Bj);exact Ap (dn++[.atab ks],rest',v') (put r an _ (.int .i64 0) (Bm []) (.slice none 0 0) (.slice none 0 0) f (RS.move9 (fun b o hb ho _=>⟨i.keep ho,hb⟩) n) (fun h=>by cases h) ⟨rfl,rfl,rfl⟩ (RS.nil _ _) v' ac ab) (by simp) ⟨Z,Z,V⟩
end
end Go.Proofs.YtaccphdkapmdhaaGreat
