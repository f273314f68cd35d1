/- The reference's Mean answers as the tracker. No condition. -/
import Derived.Test.YtaccphdkapmdhaaGreatR36
namespace Go.Proofs.YtaccphdkapmdhaaGreat
set_option maxRecDepth 100000
set_option maxHeartbeats 64000000
set_option linter.all false
section
attribute [local irreducible] binOp IntKind.wrap Sem.run
theorem bsT1 (b:Nat) (w:World):(Instr.buildSlice 79 1 ⟨[(0,pt b)]⟩).run PP w=.ok (.slice (F w.heap.size) 1 1) (w.alloc (.cells ⟨[pt b]⟩ 73 (0,0))):=by kernel_rfl
theorem bdLst (a:Addr) (n c:Nat) (w:World):(Instr.build 81 ⟨[(0,.int .i64 1),(3,.slice (some a) n c)]⟩).run PP w=.ok (.agg ⟨[.int .i64 1,.int .i64 0,.map none,.slice (some a) n c]⟩) w:=by kernel_rfl
def MkX (x:Ex):Prop:=Cz x≠[]/\(Cz x).length<=1000000000/\Pw (Nr x)
theorem mO (P:Nat->Prop) (lv:Value) (es:List Ex) (w:World) (hL:Rx w P lv es) (hP:∀b,P b->b<w.heap.size) (ex:∀x∈es,MkX x) (gg:es.length<=1000000000):
  Calls PP 12 #[lv] w fun e w'=>∃st:Nat,e=.returned (.tuple #[.int .i64 (Fo (Et es)),.int .i64 (st:Int)])/\(st=0↔Et es=none)/\Up w.heap.size w w':=by
 obtain⟨ad,cap,rfl,dn⟩:=hL;refine Bf (L:=[(0,.slice ad es.length cap)]) Tryz.func12 Z Z Z ⟨Z,V⟩ ?_;repeat first|refine Aa Z ?_|apply Ab|apply Ac
 refine Ae Z Z Z (Ll 1 w) ?_;rintro e w1 ⟨r,m2,rfl,ey,ez,dp,dq,dr⟩;refine T2 Z Z ?_;repeat first|refine Aa Z ?_|apply Ab|apply Ac|apply Ad|apply Ag
 have ds:Kc [(⟨-1,3,false,[]⟩:Cs)]:=fun i e he=>by
  cases i with
  | zero=>
   simp only [List.getElem?_cons_zero,Yb] at he;subst he;exact⟨by decide,.inl rfl,by decide,by decide⟩
  | succ n=>simp at he
 obtain⟨f0,dt,du⟩:∃f0:Nat->Option TI,f0 0=some (.tab r m2 [])/\J w.heap.size 0 w1 0 [(⟨-1,3,false,[]⟩:Cs)] f0:=⟨_,if_pos rfl,J.one (base:=0) ds rfl dp dq ey ez⟩;refine Bg (σ:=Nat×Ju×(Nat->Option TI)×Nat) (I:=fun s w'=>Up w.heap.size w w'/\s.1<=es.length/\J w.heap.size s.1 w' 0 s.2.1.ents s.2.2.1/\(∃m0 l0,s.2.2.1 0=some (.tab r m0 l0))/\(∃t,s.2.2.1 s.2.1.cur=some t/\t.mp≠none/\t.tbl=s.2.2.2)/\Eo s.2.1 (es.drop s.1) s.1=Et es)
  (m:=fun s=>es.length-s.1) (Lf:=fun s=>[(4,pt r),(5,pt s.2.2.2),(15,.slice ad es.length cap),(16,.int .i64 (es.length:Int)),(17,.int .i64 (s.1:Int))])
  (0,⟨[⟨-1,3,false,[]⟩],0⟩,f0,r) ⟨dr,Nat.zero_le _,du,⟨m2,[],dt⟩,⟨.tab r m2 [],dt,by simp [TI.mp],rfl⟩,(Vy es 0).symm⟩ ⟨Z,Z,Z,Z,Z,V⟩ ?_
 clear dq dp dr du ds;rintro⟨m,⟨ents,cur⟩,f,now⟩ w2 ⟨hU,hm,hJ,⟨m0,l0,z⟩,⟨t,ht,dv,co⟩,bf⟩;dsimp only at hU hm hJ z ht co bf ⊢;have dw:=hU.size;by_cases cp:m<es.length
 ·obtain⟨x,hx⟩:∃x,es[m]?=some x:=⟨_,Yd cp⟩;have fa:=List.mem_of_getElem? hx;have cq:es.drop m=x::es.drop (m+1):=(List.drop_eq_getElem?_toList_append).trans (by rw [hx];rfl);obtain⟨ba,cd,ce⟩:=ex x fa;have fb:es≠[]:=(by rintro rfl;simp at cp);obtain⟨g,cc,rfl,hg,fc⟩:=dn fb;obtain⟨kv',a',b',c',d',ay,cf,dx,fd⟩:=fc.get hx;obtain⟨o1,o2,o3,_⟩:=dx.one;have o4:=cf.one;have o5:=fd.one;have dy:=hU.at (Ah hg) hg;have fe:ents≠[]:=by
   have:=hJ.lt z;rintro rfl;simp at this
  have ff:(Ju.mk ents cur).begun=⟨ents,cur⟩:=by
   unfold Ju.begun;cases ents with
   | nil=>exact absurd rfl fe
   | cons a l=>rfl
  have bg:Et es=if (Ql ⟨ents,cur⟩ x).2 then Eo (Ql ⟨ents,cur⟩ x).1 (es.drop (m+1)) (m+1) else some m:=by
   rw [<-bf,cq];simp only [Eo,Xt,ff]
  have aa:(Ql ⟨ents,cur⟩ x).2=false->Et es=some m:=fun h=>(by rw [bg,h];rfl);have ae:∀t',Ql ⟨ents,cur⟩ x=(t',true)->Eo t' (es.drop (m+1)) (m+1)=Et es:=fun t' h=>(by rw [bg,h];rfl);clear bg bf;obtain⟨kx,ao⟩:∃k,Hh x=k:=⟨_,rfl⟩;obtain⟨ks,ap⟩:∃k,Cz x=k:=⟨_,rfl⟩;rw [ao] at ay;rw [ap] at cf ba cd;have dz:=cf;obtain⟨kad,kcap,rfl,bh⟩:=cf;obtain⟨kb,dcs,fz,⟨fg,fh⟩,rfl,fi,fj⟩:=bh ba;have gq:0<ks.length:=List.length_pos_iff.2 ba;obtain⟨k,hk⟩:∃k,ks[ks.length-1]?=some k:=⟨_,Yd (by omega)⟩;clear bh;have ea:∀(j:Nat) (y:Value),[.int .i64 (kx:Int),.slice (F kb) ks.length kcap,a',b',c',d'][j]?=some y->w2.cell? ⟨g,m*6+j,none⟩=some y:=fun j y hy=>Ar dy (by rw [List.getElem?_toArray];exact ay j y hy);(repeat first|refine Aa Z ?_|apply Ab|apply Ac|refine Ao Z (by first|omega|decide) ?_|refine Ax (i:=m) Z Z Z cp (by rw [Yi];rfl) ?_|refine Jv (cs:=[.int .i64 (kx:Int),.slice (F kb) ks.length kcap,a',b',c',d']) Z Z Z ea Z ?_|apply Ad|apply Ag|apply An|apply Af);refine Dk Z Z Z (fun w3 cr=>?_);(repeat (refine Aa Z ?_));have ct:∀u∈[Value.int .i64 (kx:Int),.slice (F kb) ks.length kcap,a',b',c',d'],Bp u=true:=fun u hu=>by
   simp only [List.mem_cons,List.not_mem_nil,or_false] at hu;rcases hu with rfl|rfl|rfl|rfl|rfl|rfl
   ·rfl
   ·exact o4
   ·exact o1
   ·exact o2
   ·exact o3
   ·exact o5
  refine Bx Z Z Z ct cr.at_ (by simp) Z (fun w4 cu=>?_);have ak:w4.heap[w2.heap.size]?=some (.cells ⟨[.int .i64 (kx:Int),.slice (F kb) ks.length kcap,a',b',c',d']⟩ 40 (0,0)):=(by simpa using cu.at_);have bi:Up w2.heap.size w2 w4:=(cr.up Y).trans (cu.up Y);have aq:Up w.heap.size w w4:=hU.trans (bi.mono dw);have gh:=bi.size;have gi:=Ah ak;have cv:J w.heap.size m w4 0 ents f:=hJ.keep (fun x o _ ho=>bi.at (Ah ho) ho);have cw:RS w4 P (.slice (F kb) ks.length kcap) ks:=RS.move (fun g o hg ho _=>⟨aq.at (hP g hg) ho,hg⟩) dz;have al:Xj w4 P x a' b' c':=Xj.move (fun g o hg ho _=>⟨aq.at (hP g hg) ho,hg⟩) dx;have eb:w4.cell? ⟨kb,ks.length-1,none⟩=some (Bm k):=Ar (aq.at (hP kb fg) fi) (fj _ k hk);generalize gj:w2.heap.size=nb2 at *;clear cr cu ea dy hJ;(repeat first|refine Aa Z ?_|apply Ab|apply Ac|refine Av Z Z ak Z Z ?_|refine Ax (i:=ks.length-1) Z Z (by omega) (by omega) (by rw [Yi,Nat.mul_one];rfl) ?_|refine Aw Z Z eb Z ?_|apply Ad|apply Ag|refine Fs Z Z (by omega) Z ?_);have bj:m<=m+1:=Nat.le_succ m;cases x with
  | kv ks' v=>
   simp only [Cz] at ap;subst ap;simp only [Hh] at ao;subst ao;obtain⟨v1,⟨fk,_⟩,al⟩:=al;obtain rfl:v=v1:=(fk rfl).symm;simp only [Nr] at ce;have fl:∀(j:Nat) (y:Value),[a',b',c',d'][j]?=some y->w4.cell? ⟨nb2,0+2+j,none⟩=some y:=fun j y hy=>Ar ak (by
    rw [List.getElem?_toArray,show 0+2+j=j+1+1 by omega];simpa using hy)
   (repeat first|refine Aa Z ?_|refine Ao Z (by first|omega|decide) ?_|refine Av Z Z ak Z Z ?_|refine Jv (cs:=[a',b',c',d']) Z Z Z fl Z ?_|apply Am);refine Ae Z Z Z (gZ v (Vo v) ce w.heap.size m 0 cur now ents f t P _ ks' a' b' c' d' w4 cv ht dv co cw al o5 hP ba (by omega) cd) ?_;rintro e w5 ⟨st,es',f',rfl,d,bb,bc,hs⟩;refine T2 Z Z ?_;obtain⟨lr,am⟩:=bb 0 _ z;obtain⟨t',fm,ec,_,ed⟩:=bb.mp ht;rcases hs with ⟨cl,af⟩|⟨cl,af⟩
   ·(repeat first|refine Aa Z ?_|apply Ab|apply Ac|refine Aj Z (by first|omega|decide) ?_|apply Am|apply Aq|apply An|apply Bj|apply Af|refine Ay Z Z (by omega) Z ?_);exact Ap (m+1,⟨es',cur⟩,f',now) ⟨aq.trans bc,by dsimp only;omega,d.toK bj,⟨m0,lr,am⟩,⟨t',fm,ed dv,by rw [ec];exact co⟩,ae _ (by simp only [Ql,af])⟩ (by dsimp only;omega) ⟨Z,Z,Z,Z,Z,V⟩
   ·rw [aa (by simp only [Ql,af])];(repeat first|refine Aa Z ?_|apply Ab|apply Ac|refine Ao Z (by first|omega|decide) ?_|apply Aq|apply An|apply Bl|apply Bj|apply Bv|apply Ai);exact Ak Z Z ⟨st,rfl,by simp [cl],aq.trans bc⟩
  | tab ks'=>
   simp only [Cz] at ap;subst ap;simp only [Hh] at ao;subst ao;clear al;(repeat first|refine Aa Z ?_|apply Ac|refine Aj Z (by first|omega|decide) ?_|refine Av Z Z ak Z Z ?_);refine Ae Z Z Z (cN w.heap.size m 0 r ents f P _ ks' w4 cv _ z Z (by simp [TI.mp]) cw hP ba (by omega) cd) ?_;rintro e w5 ⟨es',o,f',af,d,bb,⟨bc,bk⟩,bm⟩;have c:Up w.heap.size w w5:=aq.trans bc;have ab:=bk _ _ ak (by simp [Ce]);obtain⟨lr,am⟩:=bb 0 _ z;rcases bm with ⟨rfl,rfl⟩|⟨p,k',t',rfl,bn,ag,bo,rfl⟩
   ·refine T2 Z Z ?_;rw [aa (by simp only [Ql,af])];(repeat first|refine Aa Z ?_|apply Ab|apply Ac|refine Bn Z (by first|with_reducible rfl|exact Bool.not_false) ?_|apply Ad|apply Bl|apply Bv|apply Ai);exact Ak Z Z ⟨1,rfl,by simp,c⟩
   ·refine T2 Z Z ?_;have cx:k'=k:=(by rw [hk] at bn;simpa using bn.symm);subst cx;obtain⟨way,mb,l,ar,au,hM⟩:=d.tb ag bo;have ee:=c.size;(repeat first|refine Aa Z ?_|apply Ab|apply Ac|refine Bb Z (by first|with_reducible rfl|exact Bool.not_true) ?_|refine Av Z Z au Z Z ?_|refine eR (m:=mb) (k:=k') l Z Z hM Z ?_|apply Ad|apply Ag|apply An|apply Af);rcases d.names p t' mb l ag ar k' with ⟨bp,aj⟩|⟨j,u,cy,cg,hu,aj⟩
    ·rw [aj];simp only [Option.isSome_none,hH];(repeat first|refine Aa Z ?_|apply Ab|apply Ac|refine Bn Z (by first|with_reducible rfl|exact Bool.not_false) ?_|refine Av Z Z ab Z Z ?_|refine Au Z ?_|refine Bc Z Z (by first|omega|decide) ?_);refine Ae Z Z Z (Ll 1 w5) ?_;rintro e w6 ⟨b3,m3,rfl,ef,eg,av,aw,q⟩;refine T2 Z Z ?_;have bq:=q.at (Ah au) au;have br:=hM.lt;(repeat first|refine Aa Z ?_|apply Ab|apply Ac|refine Av Z Z bq Z Z ?_);refine Xe (m:=mb) (k:=k') (b:=b3) l Z Z (hM.keep (fun o ho=>q.at br ho)) aj Z (fun w7 ob ch fn fo=>?_);have fp:=ch.keep av (by omega);have cm:=q.size;obtain⟨f7,cz,da,db⟩:∃f7:Nat->Option TI,Xi f' f7/\f7 es'.length=some (.tab b3 m3 [])/\J w.heap.size m w7 0 (es'++[⟨p,3,true,k'⟩]) f7:=
      ⟨_,Xi.add d.none_at ag,if_pos rfl,d.add ag ar k' bp 3 true (by omega) (by omega) (by omega) (.tab b3 m3 []) (w':=w7) ⟨⟨1,fp,fun _=>.inr ⟨rfl,rfl⟩⟩,aw.keep (fun o ho=>ch.keep ho (by omega))⟩
       (fun y hy=>by simp only [TI.all,List.mem_cons,List.not_mem_nil,or_false] at hy;rcases hy with rfl|rfl<;>omega)
       (fun y hy=>by simp only [TI.all,List.mem_cons,List.not_mem_nil,or_false] at hy;rcases hy with rfl|rfl<;>omega)
       (fun m' l' h'=>by simp only [TI.mp,Yb,Prod.mk.injEq] at h';exact h'.2.symm)
       (fun y o hy ho=>ch.keep (q.at (Ah ho) ho) hy) fn⟩
     have dc:w.heap.size<=mb:=d.low p t' ag mb (TI.mp_all ar);have fq:Up w.heap.size w w7:=(c.trans (q.mono (by omega))).trans (ch.up dc);obtain⟨lr7,bs⟩:=cz 0 _ am;(repeat first|refine Aa Z ?_|apply Ab|apply Ac|refine Aj Z (by first|omega|decide) ?_|apply Am|apply Aq|apply An|apply Bj|apply Af|refine Ay Z Z (by omega) Z ?_);exact Ap (m+1,⟨es'++[⟨p,3,true,k'⟩],es'.length⟩,f7,b3) ⟨fq,by dsimp only;omega,db.toK bj,⟨m0,lr7,bs⟩,⟨_,da,by simp [TI.mp],rfl⟩,ae _ (by simp only [Ql,af,bp])⟩ (by dsimp only;omega) ⟨Z,Z,Z,Z,Z,V⟩
    ·rw [aj];simp only [Option.isSome_some,hH];obtain⟨ej,bu,an⟩:=d.at_ j u hu;have ah:Ql ⟨ents,cur⟩ (.tab ks')=if ej.kind=3/\ej.expl=false then (⟨es'.set j { ej with expl:=true },j⟩,true) else (⟨es',cur⟩,false):=by
      simp only [Ql,af,cy,bu]
     cases u with
     | val bv=>
      obtain⟨fr,kd,wy,x,y,bw,dd⟩:=an;simp only [TI.blk];rw [aa (by rw [ah,if_neg (by omega)])];rcases dd with ⟨rfl,rfl⟩|⟨rfl,rfl⟩
      ·(repeat first|refine Aa Z ?_|apply Ab|apply Ac|refine Bb Z (by first|with_reducible rfl|exact Bool.not_true) ?_|refine Ao Z (by first|omega|decide) ?_|refine Av Z Z ab Z Z ?_|refine Av Z Z bw Z Z ?_|refine Au Z ?_|apply Am|apply Aq|apply An|apply Bl|apply Bj|apply Bv|apply Ai|refine Bc Z Z (by first|omega|decide) ?_|refine Az Z Z (by first|omega|decide) ?_);exact Ak Z Z ⟨1,rfl,by simp,c⟩
      ·(repeat first|refine Aa Z ?_|apply Ab|apply Ac|refine Bb Z (by first|with_reducible rfl|exact Bool.not_true) ?_|refine Ao Z (by first|omega|decide) ?_|refine Aj Z (by first|omega|decide) ?_|refine Av Z Z ab Z Z ?_|refine Av Z Z bw Z Z ?_|refine Au Z ?_|apply Am|apply Aq|apply An|apply Bl|apply Bj|apply Bv|apply Ai|refine Bc Z Z (by first|omega|decide) ?_|refine Az Z Z (by first|omega|decide) ?_);exact Ak Z Z ⟨1,rfl,by simp,c⟩
     | tab bt mt lt=>
      have gk:=an;obtain⟨⟨wy,bd,hw⟩,fs⟩:=an;simp only [TI.blk];rcases hw cg with ⟨gl,rfl⟩|⟨eh,be⟩
      ·rw [aa (by rw [ah,if_neg (by omega)])];(repeat first|refine Aa Z ?_|apply Ab|apply Ac|refine Bb Z (by first|with_reducible rfl|exact Bool.not_true) ?_|refine Ao Z (by first|omega|decide) ?_|refine Aj Z (by first|omega|decide) ?_|refine Av Z Z ab Z Z ?_|refine Av Z Z bd Z Z ?_|refine Au Z ?_|apply Am|apply Aq|apply An|apply Bl|apply Bj|apply Bv|apply Ai|refine Bc Z Z (by first|omega|decide) ?_|refine Az Z Z (by first|omega|decide) ?_);exact Ak Z Z ⟨1,rfl,by simp,c⟩
      ·cases ci:ej.expl with
       | true=>
        rw [ci] at be;simp only [if_true] at be;subst be;rw [aa (by rw [ah,ci,if_neg (by simp)])];(repeat first|refine Aa Z ?_|apply Ab|apply Ac|refine Bb Z (by first|with_reducible rfl|exact Bool.not_true) ?_|refine Ao Z (by first|omega|decide) ?_|refine Aj Z (by first|omega|decide) ?_|refine Av Z Z ab Z Z ?_|refine Av Z Z bd Z Z ?_|refine Au Z ?_|apply Am|apply Aq|apply An|apply Bl|apply Bj|apply Bv|apply Ai|refine Bc Z Z (by first|omega|decide) ?_|refine Az Z Z (by first|omega|decide) ?_);exact Ak Z Z ⟨1,rfl,by simp,c⟩
       | false=>
        rw [ci] at be;simp only [Bool.false_eq_true,if_false] at be;subst be;rw [if_pos ⟨eh,ci⟩] at ah;(repeat first|refine Aa Z ?_|apply Ab|apply Ac|refine Bb Z (by first|with_reducible rfl|exact Bool.not_true) ?_|refine Ao Z (by first|omega|decide) ?_|refine Av Z Z ab Z Z ?_|refine Av Z Z bd Z Z ?_|refine Au Z ?_|refine Bc Z Z (by first|omega|decide) ?_);refine Bk Z Z Z bd Z Z (fun w6 ei=>?_);have ft:J w.heap.size m w6 0 (es'.set j { ej with expl:=true }) f':=d.expl hu cg bu eh ei;have de:w.heap.size<=bt:=d.low j _ hu bt (by simp [TI.all]);(repeat first|refine Aa Z ?_|apply Ab|apply Ac|refine Aj Z (by first|omega|decide) ?_|apply Am|apply Aq|apply An|apply Bj|apply Af|refine Ay Z Z (by omega) Z ?_);exact Ap (m+1,⟨es'.set j { ej with expl:=true },j⟩,f',bt) ⟨c.trans (ei.up de),by dsimp only;omega,ft.toK bj,⟨m0,lr,am⟩,⟨_,hu,by simp [TI.mp],rfl⟩,ae _ ah⟩ (by dsimp only;omega) ⟨Z,Z,Z,Z,Z,V⟩
     | lst bl sl tl ml ll=>
      obtain⟨df,⟨vl,n,xs,ax,hO,hv,fu,fv,fw⟩,⟨wy,fx⟩,br⟩:=an;simp only [TI.blk];rw [aa (by rw [ah,if_neg (by omega)])];(repeat first|refine Aa Z ?_|apply Ab|apply Ac|refine Bb Z (by first|with_reducible rfl|exact Bool.not_true) ?_|refine Ao Z (by first|omega|decide) ?_|refine Av Z Z ab Z Z ?_|refine Av Z Z ax Z Z ?_|refine Au Z ?_|apply Am|apply Aq|apply An|apply Bl|apply Bj|apply Bv|apply Ai|refine Bc Z Z (by first|omega|decide) ?_|refine Az Z Z (by first|omega|decide) ?_);exact Ak Z Z ⟨1,rfl,by simp,c⟩
  | atab ks'=>
   simp only [Cz] at ap;subst ap;simp only [Hh] at ao;subst ao;clear al;(repeat first|refine Aa Z ?_|apply Ac|refine Aj Z (by first|omega|decide) ?_|refine Av Z Z ak Z Z ?_);refine Ae Z Z Z (cN w.heap.size m 0 r ents f P _ ks' w4 cv _ z Z (by simp [TI.mp]) cw hP ba (by omega) cd) ?_;rintro e w5 ⟨es',o,f',af,d,bb,⟨bc,bk⟩,bm⟩;have c:Up w.heap.size w w5:=aq.trans bc;have ab:=bk _ _ ak (by simp [Ce]);obtain⟨lr,am⟩:=bb 0 _ z;rcases bm with ⟨rfl,rfl⟩|⟨p,k',t',rfl,bn,ag,bo,rfl⟩
   ·refine T2 Z Z ?_;rw [aa (by simp only [Ql,af])];(repeat first|refine Aa Z ?_|apply Ab|apply Ac|refine Bn Z (by first|with_reducible rfl|exact Bool.not_false) ?_|apply Ad|apply Bl|apply Bv|apply Ai);exact Ak Z Z ⟨1,rfl,by simp,c⟩
   ·refine T2 Z Z ?_;have cx:k'=k:=(by rw [hk] at bn;simpa using bn.symm);subst cx;obtain⟨way,mb,l,ar,au,hM⟩:=d.tb ag bo;have ee:=c.size;(repeat first|refine Aa Z ?_|apply Ab|apply Ac|refine Bb Z (by first|with_reducible rfl|exact Bool.not_true) ?_|refine Av Z Z au Z Z ?_|refine eR (m:=mb) (k:=k') l Z Z hM Z ?_|apply Ad|apply Ag|apply An|apply Af);rcases d.names p t' mb l ag ar k' with ⟨bp,aj⟩|⟨j,u,cy,cg,hu,aj⟩
    ·rw [aj];simp only [Option.isSome_none,hH];(repeat first|refine Aa Z ?_|apply Ab|apply Ac|refine Bn Z (by first|with_reducible rfl|exact Bool.not_false) ?_|refine Bb Z (by first|with_reducible rfl|exact Bool.not_true) ?_|refine Av Z Z ab Z Z ?_|refine Au Z ?_|refine Bc Z Z (by first|omega|decide) ?_|refine Az Z Z (by first|omega|decide) ?_);refine Ae Z Z Z (Ll 1 w5) ?_;rintro e w6 ⟨b3,m3,rfl,ef,eg,av,aw,q⟩;refine T2 Z Z ?_;have bq:=q.at (Ah au) au;have br:=hM.lt;have cm:=q.size;have ek:=Ah av;have el:=aw.lt;(repeat first|refine Aa Z ?_|apply Ab|refine Av Z Z bq Z Z ?_|apply Am);refine Ec Z Z (bsT1 _) Z (fun w7 ai=>?_);refine Cx Z Z (bdLst _ _ _) Z ?_;refine Gl Z Z Z (fun w8 cj=>?_);have em:w7.heap.size=w6.heap.size+1:=ai.size;have az:∀(y:Nat) (o:Obj),w6.heap[y]?=some o->w8.heap[y]?=some o:=fun y o ho=>cj.keep (ai.keep ho);refine Xe (m:=mb) (k:=k') (b:=w7.heap.size) l Z Z (hM.keep (fun o ho=>az _ _ (q.at br ho))) aj Z (fun w9 ob ac dg fo=>?_);have dh:w9.heap[w6.heap.size]?=some (.cells ⟨[pt b3]⟩ 73 (0,0)):=ac.keep (cj.keep ai.at_) (by omega);have di:w9.heap[w7.heap.size]?=some (.cells ⟨[.int .i64 1,.int .i64 0,.map none,.slice (F w6.heap.size) 1 1]⟩ 81 (0,0)):=ac.keep cj.at_ (by omega);have dj:=ac.keep (az _ _ av) (by omega);obtain⟨f7,cz,da,db⟩:∃f7:Nat->Option TI,Xi f' f7/\f7 es'.length=some (.lst w7.heap.size w6.heap.size b3 m3 [])/\J w.heap.size (m+1) w9 0 (es'++[⟨p,4,true,k'⟩]) f7:=
      ⟨_,Xi.add d.none_at ag,if_pos rfl,(d.toK bj).add ag ar k' bp 4 true (by omega) (by omega) (by omega) (.lst w7.heap.size w6.heap.size b3 m3 []) (w':=w9)
       ⟨rfl,⟨_,1,[pt b3],di,⟨rfl,.inr ⟨w6.heap.size,1,_,rfl,by omega,dh,Nat.le_refl _,by simp only [maxLen];omega,rfl,rfl⟩⟩,rfl,by omega,by omega,rfl⟩,⟨1,dj⟩,aw.keep (fun o ho=>ac.keep (az _ _ ho) (by omega))⟩
       (fun y hy=>by simp only [TI.all,List.mem_cons,List.not_mem_nil,or_false] at hy;rcases hy with rfl|rfl|rfl|rfl<;>omega)
       (fun y hy=>by simp only [TI.all,List.mem_cons,List.not_mem_nil,or_false] at hy;rcases hy with rfl|rfl|rfl|rfl<;>omega)
       (fun m' l' h'=>by simp only [TI.mp,Yb,Prod.mk.injEq] at h';exact h'.2.symm)
       (fun y o hy ho=>ac.keep (az _ _ (q.at (Ah ho) ho)) hy) dg⟩
     have dc:w.heap.size<=mb:=d.low p t' ag mb (TI.mp_all ar);have dk:Up w.heap.size w w9:=((c.trans (q.mono (by omega))).trans ((ai.up (by omega)).trans (cj.up (by omega)))).trans (ac.up dc);obtain⟨lr7,bs⟩:=cz 0 _ am;(repeat first|refine Aa Z ?_|apply Ab|apply Ac|refine Aj Z (by first|omega|decide) ?_|apply Am|apply Aq|apply An|apply Bj|apply Af|refine Ay Z Z (by omega) Z ?_);exact Ap (m+1,⟨es'++[⟨p,4,true,k'⟩],es'.length⟩,f7,b3) ⟨dk,by dsimp only;omega,db,⟨m0,lr7,bs⟩,⟨_,da,by simp [TI.mp],rfl⟩,ae _ (by simp only [Ql,af,bp])⟩ (by dsimp only;omega) ⟨Z,Z,Z,Z,Z,V⟩
    ·rw [aj];simp only [Option.isSome_some,hH];obtain⟨ej,bu,an⟩:=d.at_ j u hu;have ah:Ql ⟨ents,cur⟩ (.atab ks')=if ej.kind=4 then (⟨Lq j es',j⟩,true) else (⟨es',cur⟩,false):=by
      simp only [Ql,af,cy,Iv,bu]
     cases u with
     | val bv=>
      obtain⟨fr,kd,wy,x,y,bw,dd⟩:=an;simp only [TI.blk];rw [aa (by rw [ah,if_neg (by omega)])];rcases dd with ⟨rfl,rfl⟩|⟨rfl,rfl⟩
      ·(repeat first|refine Aa Z ?_|apply Ab|apply Ac|refine Bb Z (by first|with_reducible rfl|exact Bool.not_true) ?_|refine Ao Z (by first|omega|decide) ?_|refine Aj Z (by first|omega|decide) ?_|refine Av Z Z ab Z Z ?_|refine Av Z Z bw Z Z ?_|refine Au Z ?_|apply Am|apply Aq|apply An|apply Bl|apply Bj|apply Bv|apply Ai|refine Bc Z Z (by first|omega|decide) ?_|refine Az Z Z (by first|omega|decide) ?_);exact Ak Z Z ⟨1,rfl,by simp,c⟩
      ·(repeat first|refine Aa Z ?_|apply Ab|apply Ac|refine Bb Z (by first|with_reducible rfl|exact Bool.not_true) ?_|refine Ao Z (by first|omega|decide) ?_|refine Aj Z (by first|omega|decide) ?_|refine Av Z Z ab Z Z ?_|refine Av Z Z bw Z Z ?_|refine Au Z ?_|apply Am|apply Aq|apply An|apply Bl|apply Bj|apply Bv|apply Ai|refine Bc Z Z (by first|omega|decide) ?_|refine Az Z Z (by first|omega|decide) ?_);exact Ak Z Z ⟨1,rfl,by simp,c⟩
     | tab bt mt lt=>
      obtain⟨⟨wy,bd,hw⟩,fs⟩:=an;simp only [TI.blk];have gr:=hw cg;rw [aa (by rw [ah,if_neg (by omega)])];(repeat first|refine Aa Z ?_|apply Ab|apply Ac|refine Bb Z (by first|with_reducible rfl|exact Bool.not_true) ?_|refine Ao Z (by first|omega|decide) ?_|refine Aj Z (by first|omega|decide) ?_|refine Av Z Z ab Z Z ?_|refine Av Z Z bd Z Z ?_|refine Au Z ?_|apply Am|apply Aq|apply An|apply Bl|apply Bj|apply Bv|apply Ai|refine Bc Z Z (by first|omega|decide) ?_|refine Az Z Z (by first|omega|decide) ?_);exact Ak Z Z ⟨1,rfl,by simp,c⟩
     | lst bl sl tl ml ll=>
      obtain⟨df,⟨vl,n,xs,ax,hO,hv,fu,fv,fw⟩,⟨wy,fx⟩,br⟩:=an;simp only [TI.blk];rw [if_pos df] at ah;(repeat first|refine Aa Z ?_|apply Ab|apply Ac|refine Bb Z (by first|with_reducible rfl|exact Bool.not_true) ?_|refine Ao Z (by first|omega|decide) ?_|refine Av Z Z ab Z Z ?_|refine Av Z Z ax Z Z ?_|refine Au Z ?_|refine Bc Z Z (by first|omega|decide) ?_|refine Az Z Z (by first|omega|decide) ?_);refine Ae Z Z Z (Ll 1 w5) ?_;rintro e w6 ⟨b3,m3,rfl,ef,eg,av,aw,q⟩;refine T2 Z Z ?_;have en:=q.at (Ah ax) ax;have cm:=q.size;have ek:=Ah av;have el:=aw.lt;have gm:=Ah ax;(repeat first|refine Aa Z ?_|apply Ab|refine Av Z Z en Z Z ?_|apply Am);refine Ec Z Z (bsT1 _) Z (fun w7 ai=>?_);have em:w7.heap.size=w6.heap.size+1:=ai.size;have bx:∀(y:Nat) (o:Obj),w5.heap[y]?=some o->w7.heap[y]?=some o:=fun y o ho=>ai.keep (q.at (Ah ho) ho);have eo:w7.ownsRow w.heap.size 73 1 vl n xs:=Bi hO (fun g o _ ho=>bx g o ho);have fy:xs.length=n:=(by have:=hO.1;omega);have bz:=ai.at_;have ca:=bx _ _ ax;have ep:vl.ownBlock≠some bl:=fun h=>by
       rcases eo.2 with ⟨rfl,_⟩|⟨g',cp',cu',rfl,_,cb,_⟩
       ·cases h
       ·simp only [Value.ownBlock,Yb] at h;subst h;rw [ca] at cb;cases cb
      refine Qo (m:=1) [pt b3] Z Z (rfl:Fx 79=some (73,1)) eo Z (fun j u hu=>?_) (fun u hu=>?_) (by omega) (by omega) (fun v' w8 ck eq er et=>?_)
      ·rw [Dw];exact Ar bz (by simpa using hu)
      ·simp only [List.mem_cons,List.not_mem_nil,or_false] at hu;subst hu;rfl
      have eu:∀(k:Nat),k<w7.heap.size->vl.ownBlock≠some k->w8.heap[k]?=w7.heap[k]?:=er;have ga:v'.ownBlock=vl.ownBlock∨v'.ownBlock=some w7.heap.size:=et;have gn:=eq.size;have hG:∀(y:Nat) (o:Obj),y≠sl->w7.heap[y]?=some o->w8.heap[y]?=some o:=fun y o hy ho=>by
       rw [eu y (Ah ho) (by rw [hv];simpa using fun h=>hy h.symm)];exact ho
      have cn:w8.heap[bl]?=some (.cells ⟨[.int .i64 1,.int .i64 0,.map none,vl]⟩ 81 (0,0)):=by
       rw [eu bl (Ah ca) ep];exact ca
      have dl:Bp v'=true:=by
       rcases ck.2 with ⟨rfl,_⟩|⟨g,cap,cur,rfl,_⟩<;>rfl
      obtain⟨s',dm⟩:∃s',v'.ownBlock=some s':=by
       rcases ck.2 with ⟨_,h0⟩|⟨g,cap,cur,rfl,_⟩
       ·omega
       ·exact⟨g,rfl⟩
      refine⟨_,rfl,?_⟩;(repeat (refine Aa Z ?_));refine Bk Z Z dl cn Z Z (fun w9 ac=>?_);have ev:=d.all_lt hu;have gs:sl<w5.heap.size:=ev sl (by simp [TI.all]);have go:s'=sl∨s'=w7.heap.size:=by
       rcases ga with h|h
       ·left;rw [dm,hv] at h;simpa using h
       ·right;rw [dm] at h;simpa using h
      have gb:w9.ownsRow w.heap.size 73 1 v' (n+1) (xs++[pt b3]):=Bi ck (fun g o hg ho=>ac.keep ho (by
       rintro rfl;rcases ck.2 with ⟨rfl,_⟩|⟨g',cp',cu',rfl,_,cb,_⟩
       ·cases hg
       ·simp only [Value.ownBlock,Yb] at hg;subst hg;rw [cn] at cb;cases cb))
      have de:w.heap.size<=bl:=d.low j _ hu bl (by simp [TI.all]);have gp:w.heap.size<=sl:=d.low j _ hu sl (by simp [TI.all]);have dj:w9.heap[b3]?=some (.cells (cR 1 m3) 81 (0,0)):=ac.keep (hG b3 _ (by omega) (ai.keep av)) (by omega);have dg:MP w9 m3 []:=aw.keep (fun o ho=>ac.keep (hG m3 _ (by omega) (ai.keep ho)) (by omega));have gc:=(d.toK bj).reopen (s':=s') (tb':=b3) (m':=m3) (w':=w9) hu (by omega) bu
       ⟨df,⟨v',n+1,xs++[pt b3],ac.at_,gb,dm,by omega,by omega,by simp [fy]⟩,⟨1,dj⟩,dg⟩
       (fun y hy=>by simp only [TI.all,List.mem_cons,List.not_mem_nil,or_false] at hy;rcases hy with rfl|rfl|rfl|rfl<;>omega)
       (fun y o hy gd ho=>ac.keep (hG y o gd (bx y o ho)) hy)
      have hO:=d.ord;have ge:bN j es' f' (.lst bl s' b3 m3 []) j=some (.lst bl s' b3 m3 []):=(by unfold bN;rw [if_pos rfl]);have ew:bN j es' f' (.lst bl s' b3 m3 []) 0=some ((TI.tab r m0 l0).setL lr):=by
       rw [bM hO (Fh.low hO (d.lt am) O) (by omega)];exact am
      have dk:Up w.heap.size w w9:=((c.trans (q.mono (by omega))).trans ((ai.up (by omega)).trans (eq.up))).trans (ac.up de);(repeat first|refine Aa Z ?_|apply Ab|apply Ac|refine Aj Z (by first|omega|decide) ?_|apply Am|apply Aq|apply An|apply Bj|apply Af|refine Ay Z Z (by omega) Z ?_);exact Ap (m+1,⟨Lq j es',j⟩,_,b3) ⟨dk,by dsimp only;omega,gc,⟨m0,lr,ew⟩,⟨_,ge,by simp [TI.mp],rfl⟩,ae _ ah⟩ (by dsimp only;omega) ⟨Z,Z,Z,Z,Z,V⟩
 ·have ce:es.drop m=[]:=List.drop_eq_nil_of_le (by omega);rw [ce] at bf;have gf:Et es=none:=(by rw [<-bf];rfl);rw [gf];(repeat first|refine Aa Z ?_|apply Ab|apply Ac|refine Aj Z (by first|omega|decide) ?_|apply Ad|apply An|apply Cn|apply Ci|apply Ba|apply Ai);exact Ak Z Z ⟨0,rfl,by simp,hU⟩
end
end Go.Proofs.YtaccphdkapmdhaaGreat
