/- Names are made longer in memory as in the plain list. No condition. -/
import Derived.Test.YtaccphdkapmdhaaGreatR3
import Derived.Test.YtaccphdkapmdhaaGreatR31
namespace Go.Proofs.YtaccphdkapmdhaaGreat
set_option maxRecDepth 100000
set_option maxHeartbeats 64000000
set_option linter.all false
section
section
attribute [local semireducible] WL WC X
variable {Q:Exit->Act->World->Prop} {N:Nat} {L:Env} {w:World}
theorem Va {σ:Type} {x y:Code} (I:σ->World->Prop) (Lf:σ->Env) (k1:WC (Exit.then (Cut I Lf N) Q) N L x w) (k2:∀s w,I s w->WC Q N (Lf s) y w):WC (Exit.then (y.wp PP Q) Q) N L x w:=fun a hf=>
 Code.wp_mono (fun e a' w' hq=>by
  cases e with
  | normal=>obtain⟨s,h1,h2⟩:=hq;exact k2 s w' h1 a' h2
  | exit i=>exact hq
  | goto i=>exact hq
  | ret=>exact hq
  | panic c=>exact hq
  | outgrown=>exact hq) (k1 a hf)
end
attribute [local irreducible] binOp IntKind.wrap Sem.run
def Ys:Bz->List (List Bs×Bz)
 | .sc _ _=>[]
 | .arr vs=>vs.map fun v=>([],v)
 | .tbl es=>es
def kdV:Bz->Nat
 | .sc k _=>k
 | .arr _=>8
 | .tbl _=>9
def txV:Bz->Bs
 | .sc _ t=>t
 | _=>[]
theorem Ee.es {w:World} {P:Nat->Prop}:∀{vs:List Bz} {l:List Value},Ee w P vs l↔Dy w P (vs.map fun v=>([],v)) l
 | [],_=>by simp [Ee,Dy]
 | v::vs,l=>by
  simp only [Ee,Dy,List.map_cons];constructor
  ·rintro⟨a,b,c,d,r,h1,h2,h3,h4⟩;exact⟨a,b,c,d,r,h1,h2,h3,Ee.es.1 h4⟩
  ·rintro⟨a,b,c,d,r,h1,h2,h3,h4⟩;exact⟨a,b,c,d,r,h1,h2,h3,Ee.es.2 h4⟩
theorem Nd.its {w:World} {P:Nat->Prop} {v:Bz} {a b c:Value}:Nd w P v a b c↔a=.int .i64 (kdV v:Int)/\b=Bm (txV v)/\∃ad cap,c=.slice ad (Ys v).length cap/\(Ys v≠[]->∃g cur,P g/\ad=some ⟨g,0,none⟩/\w.heap[g]?=some (.cells ⟨cur⟩ 37 (0,0))/\Dy w P (Ys v) cur):=by
 cases v with
 | sc k t=>simp only [Nd,Go.Proofs.YtaccphdkapmdhaaGreat.Ys,kdV,txV,List.length_nil,ne_eq,not_true_eq_false,false_implies,and_true]
 | arr vs=>
  simp only [Nd,Go.Proofs.YtaccphdkapmdhaaGreat.Ys,kdV,txV,List.length_map,ne_eq,List.map_eq_nil_iff,<-Ee.es];rfl
 | tbl es=>
  simp only [Nd,Go.Proofs.YtaccphdkapmdhaaGreat.Ys,kdV,txV];rfl
def lgP (s:Bs) (p:List Bs×Bz):List Bs×Bz:=(Nq s p.1,Ow s p.2)
theorem dL (s:Bs):∀vs:List Bz,(Pj s vs).map (fun v=>(([]:List Bs),v))=(vs.map fun v=>(([]:List Bs),v)).map (lgP s)
 | []=>rfl
 | v::vs=>by
  simp only [Pj,List.map_cons,dL s vs];rfl
theorem dM (s:Bs):∀es:List (List Bs×Bz),Pk s es=es.map (lgP s)
 | []=>rfl
 | (ks,v)::es=>by
  simp only [Pk,List.map_cons,dM s es];rfl
theorem its_lg (s:Bs) (v:Bz):Ys (Ow s v)=(Ys v).map (lgP s):=by
 cases v with
 | sc k t=>rfl
 | arr vs=>exact dL s vs
 | tbl es=>exact dM s es
theorem kdV_lg (s:Bs) (v:Bz):kdV (Ow s v)=kdV v:=by cases v<;>rfl
theorem txV_lg (s:Bs) (v:Bz):txV (Ow s v)=txV v:=by cases v<;>rfl
theorem iD:∀v:Bz,Oc (Ys v)<=kV v
 | .sc _ _=>by simp [Ys,Oc]
 | .tbl es=>by simp only [Ys,kV];omega
 | .arr vs=>by
  simp only [Ys,kV];have:∀vs:List Bz,Oc (vs.map fun v=>(([]:List Bs),v))<=Sc vs:=by
   intro vs
   induction vs with
   | nil=>simp [Oc,Sc]
   | cons v vs ih=>simp only [List.map_cons,Oc,Sc,Me];omega
  have:=this vs;omega
theorem iC:∀{es:List (List Bs×Bz)} {ks:List Bs} {v:Bz},(ks,v)∈es->Me ks+kV v<=Oc es
 | (ks',v')::es,ks,v,h=>by
  simp only [Oc];rcases List.mem_cons.1 h with h|h
  ·simp only [Prod.mk.injEq] at h;obtain⟨rfl,rfl⟩:=h;omega
  ·have:=iC h;omega
mutual
theorem aQ {C:Bz->Prop} (hC:∀v,(∀ks x,(ks,x)∈Ys v->C x)->C v):∀v:Bz,C v
 | .sc k t=>hC _ (fun ks x h=>by simp [Ys] at h)
 | .arr vs=>hC _ (fun ks x h=>by
   simp only [Ys,List.mem_map,Prod.mk.injEq] at h;obtain⟨v,hv,_,rfl⟩:=h;exact its_inds hC vs v hv)
 | .tbl es=>hC _ (fun ks x h=>its_indE hC es ks x h)
theorem its_inds {C:Bz->Prop} (hC:∀v,(∀ks x,(ks,x)∈Ys v->C x)->C v):∀(vs:List Bz),∀v∈vs,C v
 | [],v,h=>by cases h
 | u::vs,v,h=>by
  rcases List.mem_cons.1 h with h|h
  ·rw [h];exact aQ hC u
  ·exact its_inds hC vs v h
theorem its_indE {C:Bz->Prop} (hC:∀v,(∀ks x,(ks,x)∈Ys v->C x)->C v):∀(es:List (List Bs×Bz)) (ks:List Bs) (v:Bz),(ks,v)∈es->C v
 | [],_,_,h=>by cases h
 | (ks',u)::es,ks,v,h=>by
  rcases List.mem_cons.1 h with h|h
  ·simp only [Prod.mk.injEq] at h;rw [h.2];exact aQ hC u
  ·exact its_indE hC es ks v h
end
theorem aO:∀{ks:List Bs} {k:Bs},k∈ks->k.length<=Me ks
 | k'::ks,k,h=>by
  simp only [Me,kK];rcases List.mem_cons.1 h with h|h
  ·subst h;omega
  ·have:=aO h;omega
theorem bd2 (k:Nat) (t:Bs) (w:World):(Instr.build 37 ⟨[(0,.int .i64 (k:Int)),(1,Bm t)]⟩).run PP w=.ok (.agg ⟨[.int .i64 (k:Int),Bm t,.slice none 0 0,.slice none 0 0]⟩) w:=by kernel_rfl
theorem dN {s:Bs} {ks:List Bs} {m:Nat} {k:Bs} (hk:ks[m]?=some k):(Nq s (ks.take (m+1))).map Bm=(Nq s (ks.take m)).map Bm++[Bm (k++s)]:=by
 rw [List.take_add_one,hk];simp [Nq]
def Rnm (s:Bs) (v:Bz):Prop:=∀(P:Nat->Prop) (ks:List Bs) (a b c d:Value) (w:World),Nd w P v a b c->RS w P d ks->Oc (Ys v)+Me ks<=100000000->
 Calls PP 38 #[.agg ⟨[a,b,c,d]⟩,Bm s] w fun e w'=>∃a' b' c' d',e=.returned (.agg ⟨[a',b',c',d']⟩)/\Nd w' (fun g=>w.heap.size<=g) (Ow s v) a' b' c'/\RS w' (fun g=>w.heap.size<=g) d' (Nq s ks)/\Up w.heap.size w w'
theorem lW (s:Bs) (hs:s.length<=1000) (v:Bz) (ih:∀ks x,(ks,x)∈Ys v->Rnm s x):Rnm s v:=by
 intro P ks a b c d w hN hR hb;obtain⟨rfl,rfl,ad,cap,rfl,bx⟩:=Nd.its.1 hN;have ea:=hN;obtain⟨kad,kcap,rfl,bn⟩:=hR;have eb:=Us ks;have ec:=aN (Ys v);generalize de:Ys v=es at *;generalize df:kdV v=kd at *;generalize dg:txV v=tx at *;refine Bf (L:=[(0,.agg ⟨[.int .i64 (kd:Int),Bm tx,.slice ad es.length cap,.slice kad ks.length kcap]⟩),(1,Bm s)]) Tryz.func38 Z Z Z ⟨Z,Z,V⟩ ?_;repeat (apply Ac)
 refine Gl Z Z Z (fun w1 ar=>?_);refine Dk Z Z Z (fun w2 au=>?_);have bb:=au.keep ar.at_;have bo:=au.at_;have bz:Up w.heap.size w w2:=(ar.up Y).trans (au.up (by rw [ar.size];omega));have bi:=ar.size;have al:=au.size;generalize hB:w.heap.size=B at *;rw [bi] at bo al ⊢;clear ar au bi;repeat first|refine Aa Z ?_|apply Ab|apply Ac|refine Av (b:=B) (i:=0) Z Z bb Z Z ?_
 refine Av (b:=B) (i:=1) Z Z bb Z Z ?_;refine Cx Z Z (bd2 _ _) Z ?_;refine Dk Z Z Z (fun w3 f=>?_);refine Bx Z Z Z (by simp [Bp]) f.at_ (by simp) Z (fun w4 t=>?_);rw [al] at t ⊢;have ah:=t.keep (f.keep bb) (by omega);have am:=t.keep (f.keep bo) (by omega);have ai:w4.heap[B+1+1]?=some (.cells ⟨[.int .i64 (kd:Int),Bm tx,.slice none 0 0,.slice none 0 0]⟩ 37 (0,0)):=by simpa using t.at_
 have an:Up B w w4:=(bz.trans (f.up (by omega))).trans (t.up (by omega));have ag:w4.heap.size=B+1+1+1:=by rw [t.size,f.size,al]
 clear t f bz bb bo al w3 w2;repeat first|refine Av (b:=B) (i:=3) Z Z ah Z Z ?_|refine Va (x:=.block 0 _) (σ:=Value) (fun kv w'=>w'.ownsRow (B+3) 9 1 kv ks.length ((Nq s ks).map Bm)/\w'.heap[B+2]?=some (.cells ⟨[.int .i64 (kd:Int),Bm tx,.slice none 0 0,kv]⟩ 37 (0,0))/\w'.heap[B]?=some (.cells ⟨[.int .i64 (kd:Int),Bm tx,.slice ad es.length cap,.slice kad ks.length kcap]⟩ 37 (0,0))/\w'.heap[B+1]?=some (.cells ⟨[.int .i64 0,Bm [],.slice none 0 0,.slice none 0 0]⟩ 37 (0,0))/\Up B w w') (fun _=>[(1,Bm s),(2,.pointer (F B)),(4,.pointer (some ⟨B+1,0,none⟩)),(5,.pointer (some ⟨B+2,0,none⟩))]) ?_ ?_|refine Aa Z ?_|apply Ab|apply Ac|apply Ad|apply Ag
 ·skip;refine Bg (σ:=Nat×Value) (I:=fun st w'=>w'.ownsRow (B+3) 9 1 st.2 st.1 ((Nq s (ks.take st.1)).map Bm)/\w'.heap[B+2]?=some (.cells ⟨[.int .i64 (kd:Int),Bm tx,.slice none 0 0,st.2]⟩ 37 (0,0))/\w'.heap[B]?=some (.cells ⟨[.int .i64 (kd:Int),Bm tx,.slice ad es.length cap,.slice kad ks.length kcap]⟩ 37 (0,0))/\
    w'.heap[B+1]?=some (.cells ⟨[.int .i64 0,Bm [],.slice none 0 0,.slice none 0 0]⟩ 37 (0,0))/\Up B w w'/\st.1<=ks.length)
   (m:=fun st=>ks.length-st.1) (Lf:=fun st=>[(1,Bm s),(2,.pointer (F B)),(4,.pointer (some ⟨B+1,0,none⟩)),(5,.pointer (some ⟨B+2,0,none⟩)),(16,.slice kad ks.length kcap),(17,.int .i64 (ks.length:Int)),(18,.int .i64 (st.1:Int))])
   (0,.slice none 0 0) ⟨World.ownsRow_nil w4 _ _ _,ai,ah,am,an,Nat.zero_le _⟩ ⟨Z,Z,Z,Z,Z,Z,Z,V⟩ ?_
  clear ah am ai an ag w4;rintro⟨m,kv⟩ w2 ⟨hO,ho,hn,hr,hU,hm⟩;dsimp only at hO ho hm ⊢;by_cases aj:m<ks.length
  ·obtain⟨k,hk⟩:∃k,ks[m]?=some k:=⟨_,Yd aj⟩;have ed:=aO (List.mem_of_getElem? hk);have av:ks≠[]:=(by rintro rfl;simp at aj);obtain⟨kb,dc,fz,⟨_,ee⟩,ca,cb,bc⟩:=bn av;have cc:=hU.at (by rw [<-hB];exact Ah cb) cb;have bp:w2.cell? ⟨kb,0+m*1,none⟩=some (Bm k):=Ar cc (by rw [Yi,Nat.mul_one];exact bc m k hk);subst ca;(repeat first|refine Aa Z ?_|apply Ab|apply Ac|refine Ao Z (by first|omega|decide) ?_|refine Ax (i:=m) Z Z Z aj Z ?_|refine Aw Z Z bp Z ?_|refine Av (b:=B+2) (i:=3) Z Z ho Z Z ?_|apply Ad|apply Am|apply Ag|apply An|apply Af);refine Bo Z Z (Bt k s (by omega) _ _) Z ?_;refine Ec Z Z (lE _) Z (fun w3 f=>?_);have bd:=Bi hO (w':=w3) (fun g o _ h=>f.keep h);have ef:=Ah ho;refine iZ (m:=1) [Bm (k++s)] Z Z (rfl:Fx 34=some (9,1)) bd Z (fun j u hu=>?_) (fun u hu=>?_) (by omega) (by rw [f.size];omega) (fun kv' w5 bq be _=>?_)
   ·rw [Dw];exact Ar f.at_ (by simpa using hu)
   ·simp only [List.mem_singleton] at hu;subst hu;rfl
   have dh:=be.at (by omega) (f.keep ho);have di:=be.at (by omega) (f.keep hn);have dj:=be.at (by omega) (f.keep hr);have ae:Bp kv'=true:=by
    rcases bq.2 with ⟨rfl,_⟩|⟨g,cap,cur,rfl,_⟩<;>rfl
   refine⟨_,rfl,?_⟩;(repeat (refine Aa Z ?_));refine Bk Z Z ae dh Z Z (fun w6 aw=>?_);have dk:=Bi bq (w':=w6) (fun g o hg h=>aw.keep h (by have:=(bq.lt g hg).1;omega));(repeat first|refine Aa Z ?_|apply Am|apply Aq|apply An|apply Bj|refine Ay Z Z (by omega) Z ?_);refine Ap (m+1,kv') ⟨?_,aw.at_,aw.keep di (by omega),aw.keep dj (by omega),((hU.trans (f.up (by omega))).trans (be.mono (by omega))).trans (aw.up (by omega)),by dsimp only;omega⟩ (by dsimp only;omega) ⟨Z,Z,Z,Z,Z,Z,Z,V⟩;dsimp only;rw [dN hk];exact dk
  ·have br:m=ks.length:=(by omega);subst br;rw [List.take_length] at hO;(repeat first|refine Aa Z ?_|apply Ab|apply Ac|refine Aj Z (by first|omega|decide) ?_|apply Ad|apply Cn|apply Ci|apply Ba);exact Bh kv ⟨hO,ho,hn,hr,hU⟩ ⟨Z,Z,Z,Z,V⟩
 clear ah am ai an ag w4;rintro kv w4 ⟨cd,ai,ah,am,an⟩;have ce:(Nq s ks).length=ks.length:=by simp [Nq]
 have bj:RS w4 (fun g=>B+3<=g/\g<w4.heap.size) kv (Nq s ks):=by
  have h0:=RS.own (w:=w4) (B:=B+3) (v:=kv) (ks:=Nq s ks) (by rw [ce];exact cd);obtain⟨q1,q2,q3,q4⟩:=h0;exact⟨q1,q2,q3,fun av=>by
   obtain⟨r1,r2,r3,⟨r4,r5⟩,r6,r7,r8⟩:=q4 av;exact⟨r1,r2,r3,⟨⟨r4,Ah r7⟩,r5⟩,r6,r7,r8⟩⟩
 have dy:=Ah ai;generalize hE:w4.heap.size=E at *;clear cd;repeat first|refine Aa Z ?_|apply Ab|apply Ac|refine Av (b:=B) (i:=2) Z Z ah Z Z ?_|apply Ad|apply Ag
 skip;refine Bg (σ:=Nat×Value) (I:=fun st w'=>(∃xs,w'.ownsRow E 37 4 st.2 st.1 xs/\Dy w' (fun g=>E<=g/\st.2.ownBlock≠some g) ((es.take st.1).map (lgP s)) xs)/\w'.heap[B+2]?=some (.cells ⟨[.int .i64 (kd:Int),Bm tx,st.2,kv]⟩ 37 (0,0))/\
   w'.heap[B+1]?=some (.cells ⟨[.int .i64 0,Bm [],.slice none 0 0,.slice none 0 0]⟩ 37 (0,0))/\Up B w w'/\RS w' (fun g=>B+3<=g/\g<E) kv (Nq s ks)/\E<=w'.heap.size/\st.1<=es.length)
  (m:=fun st=>es.length-st.1) (Lf:=fun st=>[(1,Bm s),(4,.pointer (some ⟨B+1,0,none⟩)),(5,.pointer (some ⟨B+2,0,none⟩)),(32,.slice ad es.length cap),(33,.int .i64 (es.length:Int)),(34,.int .i64 (st.1:Int))])
  (0,.slice none 0 0) ⟨⟨[],World.ownsRow_nil w4 _ _ _,by simp [Dy]⟩,ai,am,an,bj,by omega,Nat.zero_le _⟩ ⟨Z,Z,Z,Z,Z,Z,V⟩ ?_
 clear ah am ai an bj hE w4;rintro⟨m,ev⟩ w2 ⟨⟨xs,hO,bf⟩,ho,hr,hU,bs,eg,hm⟩;dsimp only at hO bf ho hm ⊢;by_cases aj:m<es.length
 ·obtain⟨⟨ks',x⟩,hx⟩:∃p,es[m]?=some p:=⟨_,Yd aj⟩;have cf:=List.mem_of_getElem? hx;have eh:=iC cf;have dz:=iD x;have bt:(es.take (m+1)).map (lgP s)=(es.take m).map (lgP s)++[(Nq s ks',Ow s x)]:=(by rw [List.take_add_one,hx];simp [lgP]);have av:es≠[]:=(by rintro rfl;simp at aj);obtain⟨g,cur,hP,dl,hg,dm⟩:=bx av;obtain⟨a',b',c',d',bg,cg,ch⟩:=dm.get hx;obtain⟨o1,o2,o3,_⟩:=cg.one;have o4:=ch.one;have ci:=hU.at (by rw [<-hB];exact Ah hg) hg;have cj:∀(j:Nat) (y:Value),[a',b',c',d'][j]?=some y->w2.cell? ⟨g,m*4+j,none⟩=some y:=fun j y hy=>Ar ci (by rw [List.getElem?_toArray];exact bg j y hy);have bk:Cc P (fun _=>True) w w2:=fun q o _ ho _=>⟨hU.at (by rw [<-hB];exact Ah ho) ho,trivial⟩;have ck:=Nd.move bk _ _ _ _ cg;have cl:=RS.move bk ch;subst dl;(repeat first|refine Aa Z ?_|apply Ab|apply Ac|refine Ao Z (by first|omega|decide) ?_|refine Ax (i:=m) Z Z Z aj (by rw [Yi];rfl) ?_|refine Jv (cs:=[a',b',c',d']) Z Z Z cj Z ?_|apply Ad|apply Ag|apply An|apply Af);refine Dk Z Z Z (fun w3 f=>?_);skip;refine Bx Z Z Z (by simp [o1,o2,o3,o4]) f.at_ (by simp) Z (fun w4 t=>?_);have bl:Up w2.heap.size w2 w4:=(f.up Y).trans (t.up Y);have bm:w4.heap[w2.heap.size]?=some (.cells ⟨[a',b',c',d']⟩ 37 (0,0)):=(by simpa using t.at_);have ag:w4.heap.size=w2.heap.size+1:=(by rw [t.size,f.size]);clear f t cj ci;have cm:=Ah ho;(repeat (apply Ab));refine Hi (fun w'=>w'.heap[w2.heap.size]?=some (.cells ⟨[a',b',c',d']⟩ 37 (0,0))) ?_;have af:Up w2.heap.size w2 w4.drew:=bl.drew;have l:w4.drew.heap[w2.heap.size]?=some (.cells ⟨[a',b',c',d']⟩ 37 (0,0)):=bm;have cn:w4.drew.heap.size=w2.heap.size+1:=ag;have ei:w4.drew.heap=w4.heap:=rfl;generalize w4.drew=w5 at af l cn;clear bm ag bl;have ak:=af.at cm ho;have co:=af.at (Ah hr) hr;have cp:w5.ownsRow E 37 4 ev m xs:=Bi hO (fun q o hq h=>af.at (Ah h) h);have cq:=Dy.move (Cc.up (P':=fun q=>E<=q/\ev.ownBlock≠some q) af (fun q h _=>h)) _ _ bf;have cr:=Nd.move (Cc.up (P':=fun _=>True) af (fun q h _=>h)) _ _ _ _ ck;have ct:=RS.move (Cc.up (P':=fun _=>True) af (fun q h _=>h)) cl;have cu:RS w5 (fun g=>B+3<=g/\g<E) kv (Nq s ks):=RS.move (Cc.up af (fun q h _=>h)) bs;have dn:Up B w w5:=hU.trans (af.mono (by omega));have ax:∀q,ev.ownBlock=some q->q<w2.heap.size:=fun q hq=>(hO.lt q hq).2;have ay:=ih ks' x cf (fun _=>True) ks' a' b' c' d' w5 cr ct (by omega);generalize ej:w2.heap.size=tb at *;have fin:∀(w6:World) (a2 b2 c2 d2:Value),Nd w6 (fun q=>w5.heap.size<=q) (Ow s x) a2 b2 c2->RS w6 (fun q=>w5.heap.size<=q) d2 (Nq s ks')->Up w5.heap.size w5 w6->∀(w8:World),Al w6 (.cells ⟨[a2,b2,c2,d2]⟩ 37 (0,0)) w8->
    ∃ev' w9 z,(Builtin.append_ #[35,35] 35 #[ev,.slice (F w6.heap.size) 1 1]).run PP w8=.ok ev' w9/\Bp ev'=true/\w9.heap[B+2]?=some (.cells ⟨[.int .i64 (kd:Int),Bm tx,ev,kv]⟩ 37 (0,0))/\w9.setCell ⟨B+2,2,none⟩ ev'=z/\
     (∃xs',z.ownsRow E 37 4 ev' (m+1) xs'/\Dy z (fun q=>E<=q/\ev'.ownBlock≠some q) ((es.take (m+1)).map (lgP s)) xs')/\
     z.heap[B+2]?=some (.cells ⟨[.int .i64 (kd:Int),Bm tx,ev',kv]⟩ 37 (0,0))/\z.heap[B+1]?=some (.cells ⟨[.int .i64 0,Bm [],.slice none 0 0,.slice none 0 0]⟩ 37 (0,0))/\Up B w z/\RS z (fun g=>B+3<=g/\g<E) kv (Nq s ks)/\E<=z.heap.size/\
     w8.heap[tb]?=some (.cells ⟨[a',b',c',d']⟩ 37 (0,0))/\w9.heap[tb]?=some (.cells ⟨[a',b',c',d']⟩ 37 (0,0))/\z.heap[tb]?=some (.cells ⟨[a',b',c',d']⟩ 37 (0,0)):=by
   intro w6 a2 b2 c2 d2 ao aq aa w8 ab;obtain⟨p1,p2,p3,_⟩:=ao.one;have p4:=aq.one;have cv:=aa.size;have n:Up w5.heap.size w5 w8:=aa.trans (ab.up cv);have bh:w8.ownsRow E 37 4 ev m xs:=Bi cp (fun q o hq h=>n.at (Ah h) h);obtain⟨ev',w9,cw,bu,cx,az,dp⟩:=iR (m:=1) (c:=1) 35 [a2,b2,c2,d2] (rfl:Fx 35=some (37,4)) bh rfl (fun j u hu=>by
    rw [Dw];exact Ar ab.at_ (by simpa using hu)) (fun u hu=>by
    simp only [List.mem_cons,List.not_mem_nil,or_false] at hu;rcases hu with rfl|rfl|rfl|rfl<;>assumption) (by omega) (by rw [ab.size];omega)
   have ae:Bp ev'=true:=by
    rcases bu.2 with ⟨rfl,_⟩|⟨g,cap,cur,rfl,_⟩<;>rfl
   have cy:=n.at (Ah ak) ak;have cz:=n.at (Ah co) co;have bv:=n.at (Ah l) l;have da:w9.heap[B+2]?=some (.cells ⟨[.int .i64 (kd:Int),Bm tx,ev,kv]⟩ 37 (0,0)):=by
    rw [az (B+2) (Ah cy) (fun h=>by have:=(bh.lt _ h).1;omega)];exact cy
   have dq:w9.heap[B+1]?=some (.cells ⟨[.int .i64 0,Bm [],.slice none 0 0,.slice none 0 0]⟩ 37 (0,0)):=by
    rw [az (B+1) (Ah cz) (fun h=>by have:=(bh.lt _ h).1;omega)];exact cz
   have db:w9.heap[tb]?=some (.cells ⟨[a',b',c',d']⟩ 37 (0,0)):=by
    rw [az tb (Ah bv) (fun h=>by have:=ax _ h;omega)];exact bv
   have r:=Ev (i:=2) ev' da;have mvA:∀(P:Nat->Prop) (w7:World),Cc P P w7 w8->(∀b,P b->E<=b/\ev.ownBlock≠some b)->Cc P (fun b=>E<=b/\ev'.ownBlock≠some b) w7 (w9.setCell ⟨B+2,2,none⟩ ev'):=fun P w7 h7 hP=>by
    have h8:Cc P (fun b=>E-1<b/\ev'.ownBlock≠some b) w7 (w9.setCell ⟨B+2,2,none⟩ ev'):=(h7.trans (Cc.ap (nb:=E-1) az dp (fun b hb=>⟨by have:=(hP b hb).1;omega,(hP b hb).2⟩))).trans (fun b o hb ho _=>⟨r.keep ho (by have:=hb.1;omega),hb⟩);exact fun b o hb ho ht=>by
     obtain⟨q1,q2,q3⟩:=h8 b o hb ho ht;exact⟨q1,by omega,q3⟩
   have dr:tb+1<=w5.heap.size:=(by omega);refine⟨ev',w9,_,cw,ae,da,rfl,⟨xs++[a2,b2,c2,d2],Bi bu (fun q o hq h=>r.keep h (by have:=(bu.lt q hq).1;omega)),?_⟩,r.at_,r.keep dq (by omega),?_,?_,?_,bv,db,r.keep db (by omega)⟩
   ·rw [bt];refine Dy.snoc (Dy.move (mvA _ w5 (Cc.up n (fun b h _=>h)) (fun b h=>h)) _ _ cq) (by rw [cp.1,List.length_map,List.length_take];omega) (Nd.move (mvA _ w6 (Cc.up (ab.up Y) (fun b h _=>h)) (fun b h=>⟨by omega,fun e=>by have:=ax b e;omega⟩)) _ _ _ _ ao) (RS.move (mvA _ w6 (Cc.up (ab.up Y) (fun b h _=>h)) (fun b h=>⟨by omega,fun e=>by have:=ax b e;omega⟩)) aq)
   ·exact (dn.trans (n.mono (by omega))).trans ((cx.up.mono (by omega)).trans (r.up (by omega)))
   ·refine RS.keep (RS.move (Cc.up (P':=fun g=>B+3<=g/\g<E) n (fun b h _=>h)) cu) (fun q o hq ho _=>r.keep ?_ (by omega));rw [az q (Ah ho) (fun h=>by have:=(bh.lt _ h).1;omega)];exact ho
   ·have h1:=cx.up.size;have h2:=r.size;have h3:=n.size;omega
  refine Bw 0 Z (by kernel_rfl) De.ok l Z ?_;refine Bw 3 Z (by kernel_rfl) De.ok l Z ?_;refine eT (cs:=[a',b',c',d']) 2 Z (by kernel_rfl) De.ok l Z Z Z (fun w' ds=>Gf ds rfl) Z ?_;have bw:∀w':World,w'.heap[B+2]?=some (.cells ⟨[.int .i64 (kd:Int),Bm tx,ev,kv]⟩ 37 (0,0))->w'.cell? ⟨B+2,2,none⟩=some ev:=fun w' h=>Ar h rfl;refine Im 1 4 (by kernel_rfl) ?_ ?_
  ·refine Cy Z Z (fun a hf=>Dz hf Z (bw w5 ak)) l Z ?_;refine Ep 4 (by kernel_rfl) ?_;refine Hs Z Z Z Z ay ?_;rintro e w6 ⟨a2,b2,c2,d2,rfl,ao,aq,aa⟩;refine⟨_,_,rfl,rfl,aa.at (Ah l) l,?_⟩;refine Ep 5 (by kernel_rfl) ?_;have ab:=Br w6 (.cells ⟨[a2,b2,c2,d2]⟩ 37 (0,0));obtain⟨ev',w9,z,q1,q2,q3,q4,q5,q6,q7,q8,q9,qE,s8,s9,s10⟩:=fin w6 a2 b2 c2 d2 ao aq aa _ ab;refine Cy Z Z (fun ac hf=>by rw [Dn hf rfl];simp only [Sem.run_bind,Wv,Result.andThen_ok,Sem.run_pure];rfl) s8 Z ?_;generalize w6.alloc (.cells ⟨[a2,b2,c2,d2]⟩ 37 (0,0))=w8 at *;refine Ep 6 (by kernel_rfl) ?_;refine Cy Z Z (fun ac hf=>by rw [Gi hf rfl];simp only [Sem.run_bind,q1,Result.andThen_ok,Sem.run_pure];rfl) s9 Z ?_;refine Bw 7 Z (by kernel_rfl) De.ok s9 Z ?_;refine Jr 8 (by kernel_rfl) Z Z (fun ac hf=>Gr hf rfl q2 q3 rfl) (by rw [q4];exact s10) Z ?_;rw [q4];refine Eg (by kernel_rfl) ?_;(repeat first|refine Aa Z ?_|apply Am|apply Aq|apply An|apply Bj|refine Ay Z Z (by omega) Z ?_);exact Ap (m+1,ev') ⟨q5,q6,q7,q8,q9,qE,by dsimp only;omega⟩ (by dsimp only;omega) ⟨Z,Z,Z,Z,Z,Z,V⟩
  ·refine Hs Z Z Z Z ay ?_;rintro e w6 ⟨a2,b2,c2,d2,rfl,ao,aq,aa⟩;have s6:=aa.at (Ah l) l;refine⟨_,_,rfl,rfl,s6,?_⟩;have ab:=Br w6 (.cells ⟨[a2,b2,c2,d2]⟩ 37 (0,0));obtain⟨ev',w9,z,q1,q2,q3,q4,q5,q6,q7,q8,q9,qE,s8,s9,s10⟩:=fin w6 a2 b2 c2 d2 ao aq aa _ ab;refine Im 1 5 (by kernel_rfl) ?_ ?_
   ·refine Cy Z Z (fun a hf=>Dz hf Z (bw w6 (aa.at (Ah ak) ak))) s6 Z ?_;refine Ep 5 (by kernel_rfl) ?_;refine Cy Z Z (fun ac hf=>by rw [Dn hf rfl];simp only [Sem.run_bind,Wv,Result.andThen_ok,Sem.run_pure];rfl) s8 Z ?_;generalize w6.alloc (.cells ⟨[a2,b2,c2,d2]⟩ 37 (0,0))=w8 at *;refine Ep 6 (by kernel_rfl) ?_;refine Cy Z Z (fun ac hf=>by rw [Gi hf rfl];simp only [Sem.run_bind,q1,Result.andThen_ok,Sem.run_pure];rfl) s9 Z ?_;refine Bw 7 Z (by kernel_rfl) De.ok s9 Z ?_;refine Jr 8 (by kernel_rfl) Z Z (fun ac hf=>Gr hf rfl q2 q3 rfl) (by rw [q4];exact s10) Z ?_;rw [q4];refine Eg (by kernel_rfl) ?_;(repeat first|refine Aa Z ?_|apply Am|apply Aq|apply An|apply Bj|refine Ay Z Z (by omega) Z ?_);exact Ap (m+1,ev') ⟨q5,q6,q7,q8,q9,qE,by dsimp only;omega⟩ (by dsimp only;omega) ⟨Z,Z,Z,Z,Z,Z,V⟩
   ·refine Cy Z Z (fun ac hf=>by rw [Dn hf rfl];simp only [Sem.run_bind,Wv,Result.andThen_ok,Sem.run_pure];rfl) s8 Z ?_;generalize w6.alloc (.cells ⟨[a2,b2,c2,d2]⟩ 37 (0,0))=w8 at *;refine Ep 1 (by kernel_rfl) ?_;refine Cy Z Z (fun a hf=>Dz hf Z (bw w8 (ab.keep (aa.at (Ah ak) ak)))) s8 Z ?_;refine Ep 6 (by kernel_rfl) ?_;refine Cy Z Z (fun ac hf=>by rw [Gi hf rfl];simp only [Sem.run_bind,q1,Result.andThen_ok,Sem.run_pure];rfl) s9 Z ?_;refine Bw 7 Z (by kernel_rfl) De.ok s9 Z ?_;refine Jr 8 (by kernel_rfl) Z Z (fun ac hf=>Gr hf rfl q2 q3 rfl) (by rw [q4];exact s10) Z ?_;rw [q4];refine Eg (by kernel_rfl) ?_;(repeat first|refine Aa Z ?_|apply Am|apply Aq|apply An|apply Bj|refine Ay Z Z (by omega) Z ?_);exact Ap (m+1,ev') ⟨q5,q6,q7,q8,q9,qE,by dsimp only;omega⟩ (by dsimp only;omega) ⟨Z,Z,Z,Z,Z,Z,V⟩
 ·have br:m=es.length:=(by omega);subst br;rw [List.take_length] at bf;have ae:Bp ev=true:=by
   rcases hO.2 with ⟨rfl,_⟩|⟨g,cap,cur,rfl,_⟩<;>rfl
  have dt:=bs.one;(repeat first|refine Aa Z ?_|apply Ab|apply Ac|refine Aj Z (by first|omega|decide) ?_|refine Fz (b:=B+2) Z Z ho Z Z ?_|apply Ad|apply An|apply Cn|apply Ci|apply Ba);refine Bx Z Z Z (fun u hu=>by
   simp only [List.mem_cons,List.not_mem_nil,or_false] at hu;rcases hu with rfl|rfl|rfl|rfl<;>first|assumption|rfl) hr (by simp) rfl (fun w3 ba=>?_)
  have du:Up B w w3:=hU.trans (ba.up (by omega));have dv:w3.heap[B+1]?=some (.cells ⟨[.int .i64 (kd:Int),Bm tx,ev,kv]⟩ 37 (0,0)):=(by simpa using ba.at_);(repeat first|apply Ab|apply Ai);refine Ch Z Z Z dv Z ⟨_,_,_,_,rfl,?_,?_,du⟩
  ·have bd:w3.ownsRow E 37 4 ev es.length xs:=Bi hO (fun g o hg h=>ba.keep h (by have:=(hO.lt g hg).1;omega));have dw:Dy w3 (fun g=>B<=g) _ xs:=Dy.move (P':=fun g=>B<=g) (fun b o hb ho _=>⟨ba.keep ho (by have:=hb.1;omega),by have:=hb.1;omega⟩) _ _ bf;refine Nd.its.2 ⟨by rw [kdV_lg,df],by rw [txV_lg,dg],?_⟩;rw [its_lg,de,List.length_map];by_cases hz:es.length=0
   ·have dd:es=[]:=List.eq_nil_of_length_eq_zero hz;rcases bd.2 with ⟨rfl,_⟩|⟨g,cap,cur,rfl,_⟩
    ·exact⟨none,0,by rw [hz],fun h=>by simp [dd] at h⟩
    ·exact⟨_,cap,rfl,fun h=>by simp [dd] at h⟩
   ·obtain⟨g,cap,cur,rfl,hg,dx⟩:=Kx bd hz;exact⟨_,cap,rfl,fun _=>⟨g,xs++cur,by omega,rfl,dx,Dy.more cur dw⟩⟩
  ·refine RS.move (fun b o hb ho _=>⟨ba.keep ho (by have:=hb.1;omega),?_⟩) bs;show B<=b;have:=hb.1;omega
theorem gY (s:Bs) (hs:s.length<=1000):∀v,Rnm s v:=aQ (fun v ih=>lW s hs v ih)
end
section
section
attribute [local semireducible] WL WC X WD WX
variable {all:List Oper} {Q:Exit->Act->World->Prop} {N:Nat} {L L':Env} {o:Oper} {w:World} {S:World->Prop} {fuel:Nat} {listed:Array Bool}
theorem nX {i t:Nat} {l:List Value} (hi:all[i]?=some o) (hg:Ez all L o=some true) (h:alA o.op=some (t,l)) (hS:∀w',Al w (.cells l.toArray t (0,0)) w'->S w')
  (hd:Cu N o (.pointer (F w.heap.size)) L=some L') (k:∀w',Al w (.cells l.toArray t (0,0)) w'->WD all Q N S fuel (listed.setIfInBounds i true) L' w'):Fa all Q N S fuel listed L w i:=
 Cy hi hg (fun _ hf=>cB hf h w) (hS _ (Br w _)) hd (k _ (Br w _))
theorem nY {t:Nat} {vs:List (Nat×Value)} {v:Value} (i:Nat) (hi:all[i]?=some o) (hs:Kp all listed i=true) (hQ:Jt Q) (hS:S w) (hg:Ez all L o=some true) (h:bdA L o.op=some (t,vs)) (hr:∀w,(Instr.build t ⟨vs⟩).run PP w=.ok v w)
  (hd:Cu N o v L=some L') (k:WD all Q N S fuel (listed.setIfInBounds i true) L' w):WD all Q N S (fuel+1) listed L w:=
 Kw i hi hs hQ hS hg (fun w' _ a hf=>by rw [Ro hf h];simp [hr]) hd k
theorem WD.sg {n b ofs:Nat} {cs c:List Value} {t:TypeId} (i:Nat) (hr:Region.ready .any all.toArray listed=[i]) (hi:all[i]?=some o) (hg:Ez all L o=some true) (h:sgA L o.op=some (n,⟨b,ofs,none⟩,cs)) (hn:cs.length=n)
  (hv:∀v∈cs,Bp v=true) (hb:w.heap[b]?=some (.cells ⟨c⟩ t (0,0))) (hl:ofs+n<=c.length) (hS:∀w',St w b (.cells ⟨c.take ofs++cs++c.drop (ofs+n)⟩ t (0,0)) w'->S w') (hd:Cu N o undef L=some L')
  (k:∀w',St w b (.cells ⟨c.take ofs++cs++c.drop (ofs+n)⟩ t (0,0)) w'->WD all Q N S fuel (listed.setIfInBounds i true) L' w'):WD all Q N S (fuel+1) listed L w:=by
 obtain⟨w',a,hs⟩:=Zw (N:=N) h hn hv hb hl;exact Jr i hr hi hg a (hS w' hs) hd (k w' hs)
end
attribute [local irreducible] binOp IntKind.wrap Sem.run
theorem bdRn (k:Nat) (a b c d:Value) (w:World):(Instr.build 40 ⟨[(0,.int .i64 (k:Int)),(2,.agg ⟨[a,b,c,d]⟩)]⟩).run PP w=.ok (.agg ⟨[.int .i64 (k:Int),.slice none 0 0,a,b,c,d]⟩) w:=by kernel_rfl
theorem bC (s:Bs) (x:Ex):Hh (Xo s x)=Hh x:=by cases x<;>rfl
theorem Oz (s:Bs) (x:Ex):Cz (Xo s x)=Nq s (Cz x):=by cases x<;>rfl
theorem bB (s:Bs) (x:Ex):Nr (Xo s x)=Ow s (Nr x):=by cases x<;>rfl
theorem Xj.pick {w:World} {P:Nat->Prop} {x:Ex} {a b c:Value} (s:Bs) (h:Xj w P x a b c):∃v,Nd w P v a b c/\Oc (Ys v)<=kX x/\((Hh x=0->Ow s v=Nr (Xo s x))/\(Hh x≠0->∃k t,Ow s v=.sc k t)):=by
 obtain⟨v,⟨h1,h2⟩,h3⟩:=h;refine⟨v,h3,?_,fun h=>by rw [bB,h1 h],fun h=>?_⟩
 ·by_cases h:Hh x=0
  ·rw [h1 h];have:=iD (Nr x);simp only [kX];omega
  ·obtain⟨k,t,rfl⟩:=h2 h;simp [Ys,Oc]
 ·obtain⟨k,t,rfl⟩:=h2 h;exact⟨k,t,rfl⟩
theorem dC (s:Bs) (hs:s.length<=1000) (P:Nat->Prop) (lv:Value) (es:List Ex) (w:World) (hL:Rx w P lv es) (hb:∀x∈es,kX x<=1000000) (dw:es.length<=1000):
  Calls PP 17 #[lv,Bm s] w fun e w'=>∃v,e=.returned v/\Rx w' (fun b=>w.heap.size<=b) v (es.map (Xo s))/\Up w.heap.size w w':=by
 obtain⟨ad,cap,rfl,cg⟩:=hL;refine Bf (L:=[(0,.slice ad es.length cap),(1,Bm s)]) Tryz.func17 Z Z Z ⟨Z,Z,V⟩ ?_;generalize hB:w.heap.size=B at *;repeat first|refine Aa Z ?_|apply Ab|apply Ac
 refine Ec Z Z bsE0 Z (fun w1 bq=>?_);have ch:Up B w w1:=bq.up (by omega);have ci:w1.ownsRow B 40 6 (.slice (F B) 0 0) 0 []:=⟨rfl,.inr ⟨B,0,#[],rfl,Nat.le_refl _,by rw [<-hB];exact bq.at_,Nat.le_refl _,by simp only [maxLen];omega,rfl,rfl⟩⟩;rw [hB];repeat first|refine Aa Z ?_|apply Ab|apply Ac|apply Ad|apply Ag
 refine Bg (σ:=Nat×Value) (I:=fun st w'=>(∃xs,w'.ownsRow B 40 6 st.2 st.1 xs/\Dp w' (fun b=>B<=b) ((es.take st.1).map (Xo s)) xs)/\Up B w w'/\st.1<=es.length)
  (m:=fun st=>es.length-st.1) (Lf:=fun st=>[(1,Bm s),(5,st.2),(12,.slice ad es.length cap),(13,.int .i64 (es.length:Int)),(14,.int .i64 (st.1:Int))])
  (0,.slice (F B) 0 0) ⟨⟨[],ci,by simp [Dp]⟩,ch,Nat.zero_le _⟩ ⟨Z,Z,Z,Z,Z,V⟩ ?_
 clear bq ch ci w1;rintro⟨m,lv⟩ w2 ⟨⟨xs,hO,hL⟩,hU,hm⟩;dsimp only at hO hL hm ⊢;by_cases br:m<es.length
 ·obtain⟨x,hx⟩:∃x,es[m]?=some x:=⟨_,Yd br⟩;have dk:=List.mem_of_getElem? hx;have dx:=hb x dk;have bs:(es.take (m+1)).map (Xo s)=(es.take m).map (Xo s)++[Xo s x]:=(by rw [List.take_add_one,hx];simp);have dl:es≠[]:=(by rintro rfl;simp at br);obtain⟨g,cur,dm,hg,dn⟩:=cg dl;obtain⟨kv,a,b,c,d,aw,bt,bu,bv⟩:=dn.get hx;obtain⟨o1,o2,o3,_⟩:=bu.one;have o4:=bv.one;have o5:=bt.one;have cj:=hU.at (by rw [<-hB];exact Ah hg) hg;have ck:∀(j:Nat) (y:Value),[.int .i64 (Hh x:Int),kv,a,b,c,d][j]?=some y->w2.cell? ⟨g,m*6+j,none⟩=some y:=fun j y hy=>Ar cj (by rw [List.getElem?_toArray];exact aw j y hy);have ah:Cc P (fun _=>True) w w2:=fun q o _ ho _=>⟨hU.at (by rw [<-hB];exact Ah ho) ho,trivial⟩;have bg:=bu.move ah;have bh:=RS.move ah bt;have bi:=RS.move ah bv;subst dm;(repeat first|refine Aa Z ?_|apply Ab|apply Ac|refine Ao Z (by first|omega|decide) ?_|refine Ax (i:=m) Z Z Z br (by rw [Yi];rfl) ?_|refine Jv (cs:=[.int .i64 (Hh x:Int),kv,a,b,c,d]) Z Z Z ck Z ?_|apply Ad|apply Ag|apply An|apply Af);refine Dk Z Z Z (fun w3 ax=>?_);skip;refine Bx Z Z Z (fun u hu=>by
   simp only [List.mem_cons,List.not_mem_nil,or_false] at hu;rcases hu with rfl|rfl|rfl|rfl|rfl|rfl<;>first|assumption|rfl) ax.at_ (by simp) rfl (fun w4 ay=>?_)
  have l:Up w2.heap.size w2 w4:=(ax.up Y).trans (ay.up Y);have ai:w4.heap[w2.heap.size]?=some (.cells ⟨[.int .i64 (Hh x:Int),kv,a,b,c,d]⟩ 40 (0,0)):=(by simpa using ay.at_);have cl:w4.heap.size=w2.heap.size+1:=(by rw [ay.size,ax.size]);clear ax ay ck cj;have cm:B<=w2.heap.size:=(by rw [<-hB];exact hU.size);have cn:w4.ownsRow B 40 6 lv m xs:=Bi hO (fun q o hq h=>l.at (Ah h) h);have co:=Dp.move (Cc.up (P':=fun q=>B<=q) l (fun q h _=>h)) _ _ hL;have bj:=bg.move (Cc.up (P':=fun _=>True) l (fun q h _=>h));have bk:=RS.move (Cc.up (P':=fun _=>True) l (fun q h _=>h)) bh;have bl:=RS.move (Cc.up (P':=fun _=>True) l (fun q h _=>h)) bi;have cp:Up B w w4:=hU.trans (l.mono cm);have cq:∀q,lv.ownBlock=some q->q<w2.heap.size:=fun q hq=>(hO.lt q hq).2;obtain⟨vx,cr,dy,am⟩:=bj.pick s;generalize dz:w2.heap.size=tb at *;clear l bu bg bj bt bh bv bi hL hO ah hU;repeat first|refine Va (x:=.region 5 _ _) (σ:=Nat×Value×Value×Value×Value) (fun st w'=>w'.heap[st.1]?=some (.cells ⟨[.int .i64 (Hh x:Int),.slice none 0 0,st.2.1,st.2.2.1,st.2.2.2.1,st.2.2.2.2]⟩ 40 (0,0))/\Nd w' (fun q=>B<=q) (Ow s vx) st.2.1 st.2.2.1 st.2.2.2.1/\RS w' (fun q=>B<=q) st.2.2.2.2 []/\Up w4.heap.size w4 w'/\tb<st.1) (fun st=>[(1,Bm s),(5,lv),(7,.pointer (F tb)),(8,.pointer (F st.1)),(12,.slice (F g) es.length cap),(13,.int .i64 (es.length:Int)),(14,.int .i64 (m:Int))]) ?_ ?_|apply Ab|apply Ad
  ·refine Hi (fun w'=>w'.heap[tb]?=some (.cells ⟨[.int .i64 (Hh x:Int),kv,a,b,c,d]⟩ 40 (0,0))) ?_;have p:w4.drew.heap[tb]?=some (.cells ⟨[.int .i64 (Hh x:Int),kv,a,b,c,d]⟩ 40 (0,0)):=ai;have an:Up w4.heap.size w4 w4.drew:=(Up.refl _ w4).drew;have ct:w4.drew.heap.size=tb+1:=cl;have ao:=Nd.move (Cc.up (P':=fun _=>True) an (fun q h _=>h)) _ _ _ _ cr;have ap:=RS.move (Cc.up (P':=fun _=>True) an (fun q h _=>h)) bl;generalize w4.drew=w5 at p an ct ao ap;refine Bw 0 Z (by kernel_rfl) De.ok p Z ?_;refine Bw 2 Z (by kernel_rfl) De.ok p Z ?_;refine Bw 4 Z (by kernel_rfl) De.ok p Z ?_;refine Xg 1 Z (by kernel_rfl) De.ok p Z Z (fun w' bw=>Ar bw rfl) Z ?_;refine eT (cs:=[a,b,c,d]) 3 Z (by kernel_rfl) De.ok p Z Z Z (fun w' bw=>Gf bw rfl) Z ?_;refine Im 5 7 (by kernel_rfl) ?_ ?_
   ·refine Hs Z Z Z Z (gY s hs vx (fun _=>True) [] a b c d w5 ao ap (by simp only [Me];omega)) ?_;rintro e w6 ⟨a2,b2,c2,d2,rfl,ae,af,z⟩;have aa:=z.at (Ah p) p;have cu:=z.size;refine⟨_,_,rfl,rfl,aa,?_⟩;refine nY 6 Z (by kernel_rfl) De.ok aa Z Z (bdRn _ _ _ _ _) Z ?_;refine Ep 7 (by kernel_rfl) ?_;refine nX Z Z Z (fun w' hA=>hA.keep aa) Z (fun w7 bx=>?_);obtain⟨p1,p2,p3,_⟩:=ae.one;have p4:=af.one;have aq:=bx.keep aa;refine WD.sg 8 (by kernel_rfl) Z Z Z Z (fun u hu=>by
     simp only [List.mem_cons,List.not_mem_nil,or_false] at hu;rcases hu with rfl|rfl|rfl|rfl|rfl|rfl<;>first|assumption|rfl) bx.at_ (by simp) (fun w' hS=>hS.keep aq (by have:=Ah aa;omega)) rfl (fun w8 al=>?_)
    have bz:w8.heap[w6.heap.size]?=some (.cells ⟨[.int .i64 (Hh x:Int),.slice none 0 0,a2,b2,c2,d2]⟩ 40 (0,0)):=(by simpa using al.at_);have ar:Up w6.heap.size w6 w8:=(bx.up Y).trans (al.up Y);refine Eg (by kernel_rfl) ?_;exact Bh (w6.heap.size,a2,b2,c2,d2) ⟨bz,Nd.move (Cc.up ar (fun q h _=>by omega)) _ _ _ _ ae,RS.move (P:=fun q=>w5.heap.size<=q) (Cc.up ar (fun q h _=>by omega)) (show RS w6 (fun q=>w5.heap.size<=q) d2 [] from af),(an.trans (z.mono (by omega))).trans (ar.mono (by omega)),by dsimp only;omega⟩ ⟨Z,Z,Z,Z,Z,Z,Z,V⟩
   ·refine nX Z Z Z (fun w' hA=>hA.keep p) Z (fun w6 az=>?_);have aa:=az.keep p;have z:Up w5.heap.size w5 w6:=az.up Y;have cu:=az.size;have ab:=az.at_;refine Gy 5 (by kernel_rfl) Z Z Z Z (gY s hs vx (fun _=>True) [] a b c d w6 (Nd.move (Cc.up z (fun q h _=>h)) _ _ _ _ ao) (RS.move (Cc.up z (fun q h _=>h)) ap) (by simp only [Me];omega)) ?_;rintro e w7 ⟨a2,b2,c2,d2,rfl,ba,bb,r⟩;have aq:=r.at (Ah aa) aa;have ac:=r.at (Ah ab) ab;have bm:=r.size;refine⟨_,_,rfl,rfl,aq,?_⟩;refine nY 6 Z (by kernel_rfl) De.ok aq Z Z (bdRn _ _ _ _ _) Z ?_;obtain⟨p1,p2,p3,_⟩:=ba.one;have p4:=bb.one;refine WD.sg 8 (by kernel_rfl) Z Z Z Z (fun u hu=>by
     simp only [List.mem_cons,List.not_mem_nil,or_false] at hu;rcases hu with rfl|rfl|rfl|rfl|rfl|rfl<;>first|assumption|rfl) ac (by simp) (fun w' hS=>hS.keep aq (by omega)) rfl (fun w8 al=>?_)
    have bz:w8.heap[w5.heap.size]?=some (.cells ⟨[.int .i64 (Hh x:Int),.slice none 0 0,a2,b2,c2,d2]⟩ 40 (0,0)):=(by simpa using al.at_);have cv:Cc (fun q=>w6.heap.size<=q) (fun q=>B<=q) w7 w8:=fun q o hq ho _=>⟨al.keep ho (by have:w6.heap.size<=q:=hq;omega),by have:w6.heap.size<=q:=hq;omega⟩;refine Eg (by kernel_rfl) ?_;exact Bh (w5.heap.size,a2,b2,c2,d2) ⟨bz,Nd.move cv _ _ _ _ ba,RS.move cv (show RS w7 (fun q=>w6.heap.size<=q) d2 [] from bb),((an.trans (z.mono (by omega))).trans (r.mono (by omega))).trans (al.up (by omega)),by dsimp only;omega⟩ ⟨Z,Z,Z,Z,Z,Z,Z,V⟩
  ·rintro⟨nb,a2,b2,c2,d2⟩ w6 ⟨ab,ae,af,t,dp⟩;dsimp only at ab ae af dp ⊢;have dq:=t.at (Ah ai) ai;have cw:w6.ownsRow B 40 6 lv m xs:=Bi cn (fun q o hq h=>t.at (Ah h) h);have cx:=Dp.move (Cc.up (P':=fun q=>B<=q) t (fun q h _=>h)) _ _ co;have cy:=RS.move (Cc.up (P':=fun _=>True) t (fun q h _=>h)) bk;have z:Up B w w6:=cp.trans (t.mono (by omega));have cz:=Ah ab;have ea:=Us (Cz x);have eb:Me (Cz x)<=kX x:=(by simp only [kX];omega);obtain⟨p1,p2,p3,_⟩:=ae.one;have p4:=af.one;obtain⟨kad,kcap,rfl,ca⟩:=cy;clear t cn co bk bl cr cp ai;repeat first|refine Av (b:=tb) (i:=1) Z Z dq Z Z ?_|refine Va (x:=.block 2 _) (σ:=Value) (fun kv w'=>w'.heap[nb]?=some (.cells ⟨[.int .i64 (Hh x:Int),kv,a2,b2,c2,d2]⟩ 40 (0,0))/\w'.ownsRow w6.heap.size 9 1 kv (Cz x).length ((Nq s (Cz x)).map Bm)/\(∀q o,q≠nb->w6.heap[q]?=some o->w'.heap[q]?=some o)/\Up nb w6 w') (fun kv=>[(1,Bm s),(5,lv),(8,.pointer (F nb)),(12,.slice (F g) es.length cap),(13,.int .i64 (es.length:Int)),(14,.int .i64 (m:Int))]) ?_ ?_|refine Aa Z ?_|apply Ab|apply Ac|apply Ad|apply Ag
   ·skip;refine Bg (σ:=Nat×Value) (I:=fun st w'=>w'.heap[nb]?=some (.cells ⟨[.int .i64 (Hh x:Int),st.2,a2,b2,c2,d2]⟩ 40 (0,0))/\w'.ownsRow w6.heap.size 9 1 st.2 st.1 ((Nq s ((Cz x).take st.1)).map Bm)/\(∀q o,q≠nb->w6.heap[q]?=some o->w'.heap[q]?=some o)/\Up nb w6 w'/\st.1<=(Cz x).length)
     (m:=fun st=>(Cz x).length-st.1) (Lf:=fun st=>[(1,Bm s),(5,lv),(8,.pointer (F nb)),(12,.slice (F g) es.length cap),(13,.int .i64 (es.length:Int)),(14,.int .i64 (m:Int)),(26,.slice kad (Cz x).length kcap),(27,.int .i64 ((Cz x).length:Int)),(28,.int .i64 (st.1:Int))])
     (0,.slice none 0 0) ⟨ab,World.ownsRow_nil w6 _ _ _,fun _ _ _ h=>h,Up.refl _ _,Nat.zero_le _⟩ ⟨Z,Z,Z,Z,Z,Z,Z,Z,Z,V⟩ ?_
    rintro⟨j,kv2⟩ w7 ⟨ac,ag,f,r,hj⟩;dsimp only at ac ag hj ⊢;have bm:=r.size;by_cases bc:j<(Cz x).length
    ·obtain⟨k,hk⟩:∃k,(Cz x)[j]?=some k:=⟨_,Yd bc⟩;have ec:=aO (List.mem_of_getElem? hk);have da:Cz x≠[]:=fun e=>(by rw [e] at bc;simp at bc);obtain⟨kb,dc,fz,⟨_,ed⟩,db,bd,be⟩:=ca da;have dd:kb≠nb:=fun e=>by
      rw [e,ab] at bd;simp only [Yb,Obj.cells.injEq] at bd;exact absurd bd.2.1 (by decide)
     have de:=f _ _ dd bd;have cb:w7.cell? ⟨kb,0+j*1,none⟩=some (Bm k):=Ar de (by rw [Yi,Nat.mul_one];exact be j k hk);subst db;(repeat first|refine Aa Z ?_|apply Ab|apply Ac|refine Ao Z (by first|omega|decide) ?_|refine Ax (i:=j) Z Z Z bc Z ?_|refine Aw Z Z cb Z ?_|refine Av (b:=nb) (i:=1) Z Z ac Z Z ?_|apply Ad|apply Am|apply Ag|apply An|apply Af);refine Bo Z Z (Bt k s (by omega) _ _) Z ?_;refine Ec Z Z (lE _) Z (fun w8 n=>?_);have cc:=Bi ag (w':=w8) (fun g o _ h=>n.keep h);refine iZ (m:=1) [Bm (k++s)] Z Z (rfl:Fx 34=some (9,1)) cc Z (fun j u hu=>?_) (fun u hu=>?_) (by omega) (by rw [n.size];omega) (fun kv' w9 au cd _=>?_)
     ·rw [Dw];exact Ar n.at_ (by simpa using hu)
     ·simp only [List.mem_singleton] at hu;subst hu;rfl
     have dr:=cd.at cz (n.keep ac);have ce:Bp kv'=true:=by
      rcases au.2 with ⟨rfl,_⟩|⟨g,cap,cur,rfl,_⟩<;>rfl
     refine⟨_,rfl,?_⟩;(repeat (refine Aa Z ?_));refine Bk Z Z ce dr Z Z (fun ds aj=>?_);have df:=Bi au (w':=ds) (fun g o hg h=>aj.keep h (by have:=(au.lt g hg).1;omega));(repeat first|refine Aa Z ?_|apply Am|apply Aq|apply An|apply Bj|refine Ay Z Z (by omega) Z ?_);refine Ap (j+1,kv') ⟨aj.at_,?_,fun q o hq ho=>aj.keep (cd.at (Ah ho) (n.keep (f q o hq ho))) hq,((r.trans (n.up (by omega))).trans (cd.mono (by omega))).trans (aj.up Y),by dsimp only;omega⟩ (by dsimp only;omega) ⟨Z,Z,Z,Z,Z,Z,Z,Z,Z,V⟩;dsimp only;rw [dN hk];exact df
    ·have dt:j=(Cz x).length:=(by omega);subst dt;rw [List.take_length] at ag;(repeat first|refine Aa Z ?_|apply Ab|apply Ac|refine Aj Z (by first|omega|decide) ?_|apply Ad|apply Cn|apply Ci|apply Ba);exact Bh kv2 ⟨ac,ag,f,r⟩ ⟨Z,Z,Z,Z,Z,Z,V⟩
   ·rintro kv2 w7 ⟨ac,ag,f,bn⟩;have ak:∀(P P':Nat->Prop),(∀q,P q->P' q)->Cc P P' w6 w7:=fun P P' hp q o hq ho ht=>⟨f q o (fun e=>by
     subst e;rw [ab] at ho;cases ho;simp [Ce] at ht) ho,hp q hq⟩
    have dg:w7.ownsRow B 40 6 lv m xs:=Bi cw (fun q o hq h=>f q o (by have:=cq q hq;omega) h);have du:=Dp.move (ak (fun q=>B<=q) (fun q=>B<=q) (fun q h=>h)) _ _ cx;have ba:=Nd.move (ak (fun q=>B<=q) (fun q=>B<=q) (fun q h=>h)) _ _ _ _ ae;have bb:=RS.move (ak (fun q=>B<=q) (fun q=>B<=q) (fun q h=>h)) af;have dh:(Nq s (Cz x)).length=(Cz x).length:=(by simp [Nq]);have bo:=RS.own (w:=w7) (B:=w6.heap.size) (v:=kv2) (ks:=Nq s (Cz x)) (by rw [dh];exact ag);have r:Up B w w7:=z.trans (bn.mono (by omega));have p5:=bo.one;have bm:=bn.size;clear f ak cw cx ae af ag;(repeat first|refine Aa Z ?_|refine Fz (b:=nb) Z Z ac Z Z ?_|apply Am);refine Ec Z Z (bsE1 _ _ _ _ _ _) Z (fun w8 n=>?_);have cc:w8.ownsRow B 40 6 lv m xs:=Bi dg (fun g o hg h=>n.keep h);have av:Up w7.heap.size w7 w8:=n.up Y;refine Md (m:=1) [.int .i64 (Hh x:Int),kv2,a2,b2,c2,d2] Z Z (rfl:Fx 24=some (40,6)) cc Z (fun j u hu=>?_) (fun u hu=>?_) (by omega) (by rw [n.size];omega) (fun lv' w9 au di _=>?_)
    ·rw [Dw];exact Ar n.at_ (by simpa using hu)
    ·simp only [List.mem_cons,List.not_mem_nil,or_false] at hu;rcases hu with rfl|rfl|rfl|rfl|rfl|rfl<;>first|assumption|rfl
    have bf:Ef (fun q=>B<=q) w8 w9:=Ef.fm di (by simp) (by simp);have cf:Cc (fun q=>B<=q) (fun q=>B<=q) w7 w8:=Cc.up av (fun q h _=>h);have dj:Cc (fun q=>w6.heap.size<=q) (fun q=>B<=q) w7 w8:=Cc.up av (fun q h _=>by have:w6.heap.size<=q:=h;omega);refine⟨_,rfl,?_⟩;(repeat first|refine Aa Z ?_|apply Am|apply Aq|apply An|apply Bj|refine Ay Z Z (by omega) Z ?_);refine Ap (m+1,lv') ⟨⟨_,au,?_⟩,(r.trans (av.mono (by omega))).trans (di.up.mono (by omega)),by dsimp only;omega⟩ (by dsimp only;omega) ⟨Z,Z,Z,Z,Z,V⟩;dsimp only;rw [bs];have hK:=(RS.move dj bo).keep bf;rw [<-Oz] at hK;have bp:=Dp.snoc (x:=Xo s x) (Dp.keep bf _ _ (Dp.move cf _ _ du)) (by rw [dg.1,List.length_map,List.length_take];omega) hK ⟨Ow s vx,⟨fun h=>am.1 (by rw [bC] at h;exact h),fun h=>am.2 (by rw [bC] at h;exact h)⟩,Nd.keep bf _ _ _ _ (Nd.move cf _ _ _ _ ba)⟩ ((RS.move cf bb).keep bf);rw [bC] at bp;exact bp
 ·have dv:m=es.length:=(by omega);subst dv;rw [List.take_length] at hL;(repeat first|refine Aa Z ?_|apply Ab|apply Ac|refine Aj Z (by first|omega|decide) ?_|apply Ad|apply An|apply Cn|apply Ci|apply Ba|apply Ai);exact Ak Z Z ⟨lv,rfl,Rx.own (by rw [List.length_map];exact hO) hL,hU⟩
end
end Go.Proofs.YtaccphdkapmdhaaGreat
