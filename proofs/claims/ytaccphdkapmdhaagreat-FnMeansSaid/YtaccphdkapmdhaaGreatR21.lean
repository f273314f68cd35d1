/- The tracker does as a plain function on lists says. No condition. -/
import Derived.Test.YtaccphdkapmdhaaGreatR12
namespace Go.Proofs.YtaccphdkapmdhaaGreat
set_option maxRecDepth 100000
set_option maxHeartbeats 64000000
set_option linter.all false
section
section
attribute [local semireducible] WL WC X WD WX
variable {all:List Oper} {Q:Exit->Act->World->Prop} {N:Nat} {L L':Env} {o:Oper} {rest:List Oper} {w:World} {S:World->Prop}
theorem WX.s0 [De Q] {sz len cap:Nat} {ad:Option Addr} {hi:Option Int} (n':Nat) (hs:Jd all (o::rest)=true) (hS:S w) (hg:Ez all L o=some true) (h:slA L o.op=some (sz,ad,len,cap,none,hi)) (b:hi.getD len=(n':Int)) (hc:n'<=cap)
  (hd:Cu N o (.slice ad n' cap) L=some L') (k:WX all Q N S L' rest w):WX all Q N S L (o::rest) w:=by
 refine Uh hs hS hg (fun w' _ a hf=>?_) hd k;have:=Qw hf h (l:=0) rfl b (by omega) hc w';rw [this];have hz:∀a:Addr,a.add 0=a:=fun a=>rfl;cases ad<;>simp [hz]
end
attribute [local irreducible] binOp IntKind.wrap Sem.run
theorem Ve {l cs:List Value} {o:Nat} (h:o+cs.length<=l.length) (k:Nat):(l.take o++cs++l.drop (o+cs.length))[k]?=if k<o then l[k]? else if k<o+cs.length then cs[k-o]? else l[k]?:=by
 have hl:(l.take o).length=o:=by simp;omega
 split
 ·rename_i hk;rw [List.append_assoc,Yf (by omega),List.getElem?_take,if_pos hk]
 ·rename_i hk;rw [List.append_assoc,Yg (by omega),hl];split
  ·rename_i a;rw [Yf (by omega)]
  ·rename_i a;rw [Yg (by omega),List.getElem?_drop];congr 1;omega
theorem Mb.fm {B T w w' e xs k} (h:Mb w e xs k) (hf:Fm B T w w') (hT:5∉T):Mb w' e xs k:=by
 obtain⟨h1,h2,h3,d,h4,h5⟩:=h;exact⟨h1,h2,h3,d,h4,h5.fm hf hT⟩
theorem Mb.other {w:World} {e:Cs} {l cs:List Value} {o k:Nat} (h:Mb w e l k) (hl:o+cs.length<=l.length) (hk:k+4<=o∨o+cs.length<=k):Mb w e (l.take o++cs++l.drop (o+cs.length)) k:=by
 have key:∀(j:Nat) (v:Value),j<4->l[k+j]?=some v->(l.take o++cs++l.drop (o+cs.length))[k+j]?=some v:=fun j v hj hv=>by
  rw [Ve hl];split
  ·exact hv
  ·split
   ·omega
   ·exact hv
 obtain⟨h1,h2,h3,d,h4,h5⟩:=h;exact⟨key 0 _ (by omega) h1,key 1 _ (by omega) h2,key 2 _ (by omega) h3,d,key 3 _ (by omega) h4,h5⟩
theorem Mb.here {w:World} {e:Cs} {l:List Value} {o:Nat} {d:Value} (hl:o+4<=l.length) (hd:RB w d e.name):
  Mb w e (l.take o++[.int .i32 e.parent,.int .u8 e.kind,.bool e.expl,d]++l.drop (o+4)) o:=by
 have key:∀(j:Nat) (v:Value),[Value.int .i32 e.parent,.int .u8 e.kind,.bool e.expl,d][j]?=some v->(l.take o++[Value.int .i32 e.parent,.int .u8 e.kind,.bool e.expl,d]++l.drop (o+4))[o+j]?=some v:=fun j v hv=>by
  have hj:j<4:=(Yc.1 hv).1;have:=Ve (l:=l) (cs:=[Value.int .i32 e.parent,.int .u8 e.kind,.bool e.expl,d]) (o:=o) (by simpa using hl) (o+j);simp only [Ya,List.length_nil,Yi] at this;rw [this,if_neg (by omega),if_pos (by omega),Nat.add_sub_cancel_left];exact hv
 exact⟨key 0 _ rfl,key 1 _ rfl,key 2 _ rfl,d,key 3 _ rfl,hd⟩
structure ClrM (w:World) (tb ge cap g1 n1 g2 n2 cn:Nat) (cu:Int) (es:List Cs) (i:Nat) (c:lJ):Prop where
 tb:w.heap[tb]?=some (.cells ⟨[.slice (F ge) es.length cap,.int .i32 cu,.slice (F g1) n1 cn,.slice (F g2) n2 cn]⟩ 59 (0,0))
 row:∃cur:List Value,w.heap[ge]?=some (.cells ⟨cur⟩ 145 (0,0))/\cur.length=cap*4/\EL w c.out cur/\(∀(j:Nat) (a:Cs),i<=j->es[j]?=some a->Mb w a cur (j*4))
 gone:∃c1:Array Value,w.heap[g1]?=some (.cells c1 4 (0,0))/\c1.size=cn/\(∀(j:Nat) (b:Bool),c.gone[j]?=some b->c1[j]?=some (.bool b))/\(∀j,i<=j->j<es.length->c1[j]?=some (.bool false))
 remap:∃c2:Array Value,w.heap[g2]?=some (.cells c2 21 (0,0))/\c2.size=cn/\(∀(j m:Nat),c.gone[j]?=some false->c.remap[j]?=some m->c2[j]?=some (.int .i32 m))
def ClrB (tb ge cap:Nat) (cu:Int) (cur:Array Value) (l:Nat) (w:World) (s:Nat×Nat×Nat×Nat×Nat) (w':World):Prop:=
 w'.heap[tb]?=some (.cells ⟨[.slice (F ge) l cap,.int .i32 cu,.slice (F s.1) s.2.1 s.2.2.2.2,.slice (F s.2.2.1) s.2.2.2.1 s.2.2.2.2]⟩ 59 (0,0))/\w'.heap[ge]?=some (.cells cur 145 (0,0))/\l<=s.2.2.2.2/\tb<s.1/\tb<s.2.2.1/\
  (∃c1,w'.heap[s.1]?=some (.cells c1 4 (0,0))/\c1.size=s.2.2.2.2)/\(∃c2,w'.heap[s.2.2.1]?=some (.cells c2 21 (0,0))/\c2.size=s.2.2.2.2)/\Fm tb [59,145,4,21] w w'
theorem kY (tb id:Nat) (t:Ju) (w:World) (hT:TS w tb t) (hO:Kc t.ents) (dj:id<t.ents.length) (hm:t.ents.length<=1000000000):
  Calls PP 88 #[.pointer (F tb),.int .i32 (id:Int)] w fun e w'=>e=.returned (.tuple #[])/\TS w' tb ⟨Lq id t.ents,t.cur⟩/\Fm tb [59,145,4,21] w w':=by
 obtain⟨ge,cap,cur,rb,mb,cn,h1,dk,n,dl,cm,co,hN,hB⟩:=hT.open (by omega);have dm:=Ah h1;have dd:=Ah n;have bt:∃ar nr,rb=.slice ar nr cn:=by
  rcases hB with ⟨h2,rfl,_⟩|⟨g1,g2,n1,n2,c1,c2,rfl,_⟩
  ·exact⟨_,_,by rw [h2]⟩
  ·exact⟨_,_,rfl⟩
 obtain⟨ar,nr,rfl⟩:=bt;have bu:∃am nm,mb=.slice am nm cn:=by
  rcases hB with ⟨h2,_,rfl⟩|⟨g1,g2,n1,n2,c1,c2,_,rfl,_⟩
  ·exact⟨_,_,by rw [h2]⟩
  ·exact⟨_,_,rfl⟩
 obtain⟨am,nm,rfl⟩:=bu;refine Bf (L:=[(0,.pointer (F tb)),(1,.int .i32 (id:Int))]) Tryz.func88 Z Z Z ⟨Z,Z,V⟩ ?_;repeat first|refine Cr (x:=.seq _ (.cond _ _ _)) (σ:=Nat×Nat×Nat×Nat×Nat) (ClrB tb ge cap t.cur cur t.ents.length w) (fun _=>[(0,.pointer (F tb)),(1,.int .i32 (id:Int))]) ?_ ?_|apply Ad
 ·refine Cp (fun w'=>w'.heap=w.heap) ?_;have hd:w.drew.heap=w.heap:=rfl;have k0:∀w':World,w'.heap=w.heap->w'.cell? ⟨tb,0,none⟩=some (.slice (F ge) t.ents.length cap):=fun w' hw=>Ar (by rw [hw];exact h1) rfl;have k2:∀w':World,w'.heap=w.heap->w'.cell? ⟨tb,2,none⟩=some (.slice ar nr cn):=fun w' hw=>Ar (by rw [hw];exact h1) rfl;(repeat first|refine Cg (by kernel_rfl) (by first|trivial|assumption) Z ?_|refine Cl (by kernel_rfl) hd Z Z k0 Z ?_|refine Cl (by kernel_rfl) hd Z Z k2 Z ?_);refine Co ?_;by_cases de:cn<t.ents.length
  ·have bv:w.drew.heap[tb]?=_:=h1;(repeat first|refine Aa Z ?_|apply Ac|refine Ao Z (by first|omega|decide) ?_|refine Av (b:=tb) (i:=0) Z Z bv Z Z ?_|apply An);refine eQ t.ents.length t.ents.length Z Z Z Z Z Y (by omega) Z (fun w3 z ay _ au=>?_);have al:w.drew.heap.size=w.heap.size:=rfl;rw [al];have h3:=au.keep bv;have cp:Fm tb [59,145,4,21] w w3:=(au.fm (by rw [al];omega)).of_drew;have ah:=au.at_;rw [al] at ah;(repeat (refine Aa Z ?_));refine Bk Z Z Z h3 Z Z (fun w4 y=>?_);have h4:=y.at_;have cq:Fm tb [59,145,4,21] w w4:=cp.trans (y.fm h3 Y (by simp [Ce]) rfl);have bw:=y.keep ah (by omega);(repeat first|refine Aa Z ?_|apply Ab|refine Av (b:=tb) (i:=0) Z Z h4 Z Z ?_|apply Am);refine eQ t.ents.length t.ents.length Z Z Z Z Z Y (by omega) Z (fun w5 z2 dn _ av=>?_);have h5:=av.keep h4;have be:w4.heap.size=w.heap.size+1:=(by rw [y.size,au.size,al]);rw [be];have ai:=av.at_;rw [be] at ai;have az:Fm tb [59,145,4,21] w w5:=cq.trans (av.fm (by omega));have bj:=av.keep bw;(repeat (refine Aa Z ?_));refine Bk Z Z Z h5 Z Z (fun w6 g=>?_);(repeat (apply Aq));refine Bh (w.heap.size,t.ents.length,w.heap.size+1,t.ents.length,t.ents.length) ⟨g.at_,g.keep (av.keep (y.keep (au.keep (show w.drew.heap[ge]?=_ from n)) (by omega))) (by omega),Nat.le_refl _,by dsimp only;omega,by dsimp only;omega,⟨_,g.keep bj (by dsimp only;omega),by dsimp only;rw [size_madeCells];omega⟩,⟨_,g.keep ai (by dsimp only;omega),by dsimp only;rw [size_madeCells];omega⟩,az.trans (g.fm h5 Y (by simp [Ce]) rfl)⟩ ⟨Z,Z,V⟩
  ·(repeat first|refine Aj Z (by first|omega|decide) ?_|apply An|apply Af);rcases hB with ⟨h0,_,_⟩|⟨g1,g2,n1,n2,c1,c2,hr,bx,ah,ai,o,r,ac,ad⟩
   ·omega
   ·simp only [Value.slice.injEq] at hr bx;obtain⟨rfl,rfl,-⟩:=hr;obtain⟨rfl,rfl,-⟩:=bx;exact Bh (g1,nr,g2,nm,cn) ⟨h1,n,by simp only;omega,ah,ai,⟨_,o,ac⟩,⟨_,r,ad⟩,(Fm.refl _ _ _).drew⟩ ⟨Z,Z,V⟩
 ·clear hB h1 hT;rintro⟨g1,n1,g2,nn2,cn⟩ w1 ⟨h1,n,bk,ah,ai,⟨c1,o,ac⟩,⟨c2,r,ad⟩,hF⟩;dsimp only at h1 bk ah ai o ac r ad;have bz:w.heap.size<=w1.heap.size:=hF.size;have hd:w1.drew.heap=w1.heap:=rfl;have k0:∀w':World,w'.heap=w1.heap->w'.cell? ⟨tb,0,none⟩=some (.slice (F ge) t.ents.length cap):=fun w' hw=>Ar (by rw [hw];exact h1) rfl;have k2:∀w':World,w'.heap=w1.heap->w'.cell? ⟨tb,2,none⟩=some (.slice (F g1) n1 cn):=fun w' hw=>Ar (by rw [hw];exact h1) rfl;have k3:∀w':World,w'.heap=w1.heap->w'.cell? ⟨tb,3,none⟩=some (.slice (F g2) nn2 cn):=fun w' hw=>Ar (by rw [hw];exact h1) rfl;(repeat (apply Ad));refine Cp (fun w'=>w'.heap=w1.heap) ?_;(repeat first|refine Cg (by kernel_rfl) (by first|trivial|assumption) Z ?_|refine Cl (by kernel_rfl) hd Z Z k0 Z ?_|refine Cl (by kernel_rfl) hd Z Z k2 Z ?_|refine WX.s0 t.ents.length (by kernel_rfl) hd Z Z Z bk Z ?_);refine Co ?_;(repeat first|apply Ad|apply An);refine Cp (fun w'=>w'.heap=w1.heap) ?_;have ba:w1.drew.drew.heap=w1.heap:=rfl;(repeat first|refine Cg (by kernel_rfl) (by first|trivial|assumption) Z ?_|refine Cl (by kernel_rfl) ba Z Z k0 Z ?_|refine Cl (by kernel_rfl) ba Z Z k3 Z ?_|refine WX.s0 t.ents.length (by kernel_rfl) ba Z Z Z bk Z ?_);refine Co ?_;have ca:Fm tb [59,145,4,21] w w1.drew.drew:=hF.drew.drew;generalize cb:w1.drew.drew=w2 at *;have cc:w2.heap=w1.heap:=(by rw [<-cb];rfl);rw [<-cc] at h1 n o r;clear cb cc hd ba k0 k2 k3 hF bz;(repeat first|refine Aa Z ?_|apply Ab|apply Ac|apply Ad|apply Ag|apply An);refine Bg (σ:=Nat) (I:=fun k w'=>w'.heap[tb]?=some (.cells ⟨[.slice (F ge) t.ents.length cap,.int .i32 (t.cur:Int),.slice (F g1) n1 cn,.slice (F g2) nn2 cn]⟩ 59 (0,0))/\w'.heap[ge]?=some (.cells cur 145 (0,0))/\
   (∃c1,w'.heap[g1]?=some (.cells c1 4 (0,0))/\c1.size=cn/\∀j,j<k->c1[j]?=some (.bool false))/\(∃c2,w'.heap[g2]?=some (.cells c2 21 (0,0))/\c2.size=cn)/\Fm tb [59,145,4,21] w w'/\k<=t.ents.length)
   (m:=fun k=>t.ents.length-k) (Lf:=fun k=>[(0,.pointer (F tb)),(1,.int .i32 (id:Int)),(4,.slice (F g1) t.ents.length cn),(5,.slice (F g2) t.ents.length cn),(61,.int .i64 (t.ents.length:Int)),(62,.int .i64 (k:Int))])
   0 ⟨h1,n,⟨_,o,ac,fun j hj=>by omega⟩,⟨_,r,ad⟩,ca,Nat.zero_le _⟩ ⟨Z,Z,Z,Z,Z,Z,V⟩ ?_
  clear h1 n o r ca ac ad c1 c2;rintro k w3 ⟨h1,n,⟨c1,o,ac,ay⟩,⟨c2,r,ad⟩,hF,hk⟩;by_cases cr:k<t.ents.length
  ·have ct:c1[k]?=some c1[k]:=Array.getElem?_eq_getElem (by omega);(repeat first|refine Aa Z ?_|apply Ab|apply Ac|refine Ao Z (by first|omega|decide) ?_|refine Ax (i:=k) Z Z Z cr (by rw [Yi,Nat.mul_one];rfl) ?_|apply Ad|apply Am|apply Ag|apply An|apply Af);refine Bk Z Z Z o ct Z (fun w4 y=>?_);have cv:g1≠ge:=by
    rintro rfl;rw [o] at n;cases n
   have an:g1≠g2:=by
    rintro rfl;rw [o] at r;cases r
   (repeat first|refine Aa Z ?_|apply Am|apply Aq|apply An|apply Bj|refine Ay Z Z (by omega) Z ?_);refine Ap (k+1) ⟨y.keep h1 (by omega),y.keep n (Ne.symm cv),⟨_,y.at_,by rw [Array.size_setIfInBounds];exact ac,fun j hj=>?_⟩,⟨_,y.keep r (Ne.symm an),ad⟩,hF.trans (y.fm o (by omega) (by simp [Ce]) rfl),by omega⟩ (by omega) ⟨Z,Z,Z,Z,Z,Z,V⟩;by_cases cd:k=j
   ·subst cd;rw [Array.getElem?_setIfInBounds_self];simp;omega
   ·rw [Array.getElem?_setIfInBounds_ne cd];exact ay j (by omega)
  ·have ce:k=t.ents.length:=(by omega);subst ce;have cf:ClrM w3 tb ge cap g1 n1 g2 nn2 cn t.cur t.ents 0 ⟨[],[],[]⟩:=by
    refine⟨h1,⟨cur.toList,n,by simpa using co,fun i e h=>by simp at h,fun j a _ ha=>(hN j a ha).fm hF (by simp)⟩,⟨c1,o,ac,fun j b h=>by simp at h,fun j _ hj=>ay j hj⟩,⟨c2,r,ad,fun j m h=>by simp at h⟩⟩
   clear h1 n o r ac ad ay c1 c2;(repeat first|refine Aa Z ?_|apply Ab|apply Ac|refine Aj Z (by first|omega|decide) ?_|apply Ad|apply Ag|apply An|apply Cn|apply Ci|apply Ba);refine Bg (σ:=Nat×lJ) (I:=fun s w'=>ClrM w' tb ge cap g1 n1 g2 nn2 cn t.cur t.ents s.1 s.2/\Ue id t.ents s.1 s.2/\s.1<=t.ents.length/\(t.ents.drop s.1).foldl (Fq id) s.2=t.ents.foldl (Fq id) ⟨[],[],[]⟩/\Fm tb [59,145,4,21] w w')
    (m:=fun s=>t.ents.length-s.1) (Lf:=fun s=>[(0,.pointer (F tb)),(1,.int .i32 (id:Int)),(4,.slice (F g1) t.ents.length cn),(5,.slice (F g2) t.ents.length cn),(7,.int .i32 (s.2.out.length:Int)),(8,.int .i64 (s.1:Int))])
    (0,⟨[],[],[]⟩) ⟨cf,Wo _ _,Nat.zero_le _,rfl,hF⟩ ⟨Z,Z,Z,Z,Z,Z,V⟩ ?_
   clear cf hF;rintro⟨i,c⟩ w4 ⟨hM,hC,hi,f,hF⟩;dsimp only at hM hC hi f ⊢;obtain⟨m1,⟨cu,m2,m2l,m2E,m2R⟩,⟨c1,m3,m3s,m3G,m3F⟩,⟨c2,m4,m4s,m4R⟩⟩:=hM;have bl:=hC.gone;have cw:=hC.remap;have dp:=hC.out;have bf:g1≠ge:=by
    rintro rfl;rw [m3] at m2;cases m2
   have an:g1≠g2:=by
    rintro rfl;rw [m3] at m4;cases m4
   have bg:g2≠ge:=by
    rintro rfl;rw [m4] at m2;cases m2
   by_cases ae:i<t.ents.length
   ·obtain⟨e,he⟩:∃e,t.ents[i]?=some e:=⟨_,Yd ae⟩;have cx:t.ents.drop i=e::t.ents.drop (i+1):=by
     rw [Yc] at he;obtain⟨_,rfl⟩:=he;exact List.drop_eq_getElem_cons ae
    rw [cx,List.foldl_cons] at f;obtain⟨o1,o2,o3,o4⟩:=hO i e he;have q:=hC.step hO he;obtain⟨q1,q2,q3,d,q4,q5⟩:=m2R i e Y he;have x0:w4.cell? ⟨ge,i*4,none⟩=some (.int .i32 e.parent):=Ar m2 (by simpa using q1);have x1:w4.cell? ⟨ge,i*4+1,none⟩=some (.int .u8 e.kind):=Ar m2 (by simpa using q2);(repeat first|refine Aa Z ?_|apply Ab|apply Ac|refine Ao Z (by first|omega|decide) ?_|refine Av (b:=tb) (i:=0) Z Z m1 Z Z ?_|refine Ax (i:=i) Z Z Z ae (by rw [Yi];rfl) ?_|apply Ad|apply Ag|apply An|apply Af);refine Aw Z Z x0 Z ?_;refine Aa Z ?_;apply Ab;apply Ad;refine Cr (x:=.region _ _ _) (σ:=Bool) (fun b w'=>w'=w4/\(b=true↔(e.parent≥0/\((e.parent=(id:Int)/\e.kind≠0)∨c.gone.getD e.parent.toNat false=true)))) (fun b=>[(0,.pointer (F tb)),(1,.int .i32 (id:Int)),(4,.slice (F g1) t.ents.length cn),(5,.slice (F g2) t.ents.length cn),(7,.int .i32 (c.out.length:Int)),(8,.int .i64 (i:Int)),(109,.bool b)]) ?_ ?_
    ·by_cases aw:0<=e.parent
     ·by_cases cg:e.parent=(id:Int)
      ·(repeat first|refine Aa Z ?_|refine Av (b:=tb) (i:=0) Z Z m1 Z Z ?_|refine Ax (i:=i) Z Z Z ae (by rw [Yi];rfl) ?_|refine Aw Z Z x1 Z ?_|refine Au Z ?_|apply Am|apply Aq|refine Bc Z Z (by first|omega|decide) ?_);exact Bh true ⟨rfl,by simp [aw,cg,o4]⟩ ⟨Z,Z,Z,Z,Z,Z,Z,V⟩
      ·obtain⟨p,hp⟩:∃p:Nat,e.parent=(p:Int):=⟨e.parent.toNat,by omega⟩;have bm:p<c.gone.length:=(by omega);have aq:c.gone[p]?=some c.gone[p]:=Yd bm;have x5:w4.cell? ⟨g1,p,none⟩=some (.bool c.gone[p]):=Ar m3 (m3G p _ aq);have cy:c.gone.getD e.parent.toNat false=c.gone[p]:=(by rw [hp,Int.toNat_natCast,List.getD_eq_getElem?_getD,aq];rfl);rw [cy];generalize c.gone[p]=b at x5;(repeat first|refine Aa Z ?_|refine Ax (i:=p) Z Z hp (by omega) (by rw [Yi,Nat.mul_one];rfl) ?_|refine Aw Z Z x5 Z ?_|refine Au Z ?_|apply Am|apply Aq|refine Bc Z Z (by first|omega|decide) ?_|refine Az Z Z (by first|omega|decide) ?_);exact Bh b ⟨rfl,by simp [aw,cg]⟩ ⟨Z,Z,Z,Z,Z,Z,Z,V⟩
     ·(repeat first|refine Aa Z ?_|refine Au Z ?_|apply Am|apply Aq|refine Az Z Z (by first|omega|decide) ?_);exact Bh false ⟨rfl,by simp [aw]⟩ ⟨Z,Z,Z,Z,Z,Z,Z,V⟩
    ·rintro b w5 ⟨rfl,hb⟩;cases b with
     | true=>
      have bb:Fq id c e=⟨c.out,c.remap++[0],c.gone++[true]⟩:=if_pos (hb.1 rfl);have bn:c1[i]?=some c1[i]:=Array.getElem?_eq_getElem (by omega);(repeat first|refine Aa Z ?_|apply Ac|refine Bn Z (by first|with_reducible rfl|exact Bool.not_false) ?_|refine Ax (i:=i) Z Z Z ae (by rw [Yi,Nat.mul_one];rfl) ?_);refine Bk Z Z Z m3 bn Z (fun w6 g=>?_);have aa:Fm tb [59,145,4,21] w5 w6:=g.fm m3 (by omega) (by simp [Ce]) rfl;(repeat first|refine Aa Z ?_|apply Ab|apply Am|apply Aq|apply An|apply Cn|apply Ci|apply Ba|refine Ay Z Z (by omega) Z ?_);rw [bb] at q f;refine Ap (i+1,⟨c.out,c.remap++[0],c.gone++[true]⟩) ⟨⟨g.keep m1 (by omega),⟨cu,g.keep m2 (Ne.symm bf),m2l,m2E.fm aa (by simp),fun j a hj ha=>(m2R j a (by omega) ha).fm aa (by simp)⟩,
       ⟨_,g.at_,by rw [Array.size_setIfInBounds];exact m3s,fun j b hj=>?_,fun j hj l=>?_⟩,⟨c2,g.keep m4 (Ne.symm an),m4s,fun j m hj hm=>?_⟩⟩,q,by dsimp only;omega,f,hF.trans aa⟩ (by dsimp only;omega) ⟨Z,Z,Z,Z,Z,Z,V⟩
      ·by_cases af:i=j
       ·subst af;rw [Yg (by omega),bl,Nat.sub_self] at hj;simp only [List.getElem?_cons_zero,Yb] at hj;subst hj;rw [Array.getElem?_setIfInBounds_self];simp;omega
       ·rw [Array.getElem?_setIfInBounds_ne af];have l:=(Yc.1 hj).1;simp only [Ye,List.length_singleton] at l;rw [Yf (by omega)] at hj;exact m3G j b hj
      ·rw [Array.getElem?_setIfInBounds_ne (by omega)];exact m3F j (by omega) l
      ·have l:=(Yc.1 hj).1;simp only [Ye,List.length_singleton] at l;by_cases af:j=i
       ·subst af;rw [Yg (by omega),bl,Nat.sub_self] at hj;simp at hj
       ·rw [Yf (by omega)] at hj hm;exact m4R j m hj hm
     | false=>
      have bb:Fq id c e=⟨c.out++[if c.out.length=c.gone.length then e else { e with parent:=(c.remap.getD e.parent.toNat 0:Nat) }],c.remap++[c.out.length],c.gone++[false]⟩:=if_neg (fun h=>by have:=hb.2 h;cases this);have bn:c2[i]?=some c2[i]:=Array.getElem?_eq_getElem (by omega);(repeat first|refine Aa Z ?_|apply Ac|refine Bb Z (by first|with_reducible rfl|exact Bool.not_true) ?_|refine Ax (i:=i) Z Z Z ae (by rw [Yi,Nat.mul_one];rfl) ?_|apply An|apply Af);refine Bk Z Z Z m4 bn Z (fun w6 g=>?_);have aa:Fm tb [59,145,4,21] w5 w6:=g.fm m4 (by omega) (by simp [Ce]) rfl;have n1':=g.keep m1 (by omega);have n2:=g.keep m2 (Ne.symm bg);have n3:=g.keep m3 an;have n4:=g.at_;have hG:∀(j:Nat) (b:Bool),(c.gone++[false])[j]?=some b->c1[j]?=some (.bool b):=fun j b hj=>by
       have l:=(Yc.1 hj).1;simp only [Ye,List.length_singleton] at l;by_cases af:j=i
       ·subst af;rw [Yg (by omega),bl,Nat.sub_self] at hj;simp only [List.getElem?_cons_zero,Yb] at hj;subst hj;exact m3F j Y ae
       ·rw [Yf (by omega)] at hj;exact m3G j b hj
      have hR:∀(j m:Nat),(c.gone++[false])[j]?=some false->(c.remap++[c.out.length])[j]?=some m->(c2.setIfInBounds i (.int .i32 (c.out.length:Int)))[j]?=some (.int .i32 m):=fun j m hj hm=>by
       have l:=(Yc.1 hj).1;simp only [Ye,List.length_singleton] at l;by_cases af:j=i
       ·subst af;rw [Yg (by omega),cw,Nat.sub_self] at hm;simp only [List.getElem?_cons_zero,Yb] at hm;subst hm;rw [Array.getElem?_setIfInBounds_self];simp;omega
       ·rw [Yf (by omega)] at hj hm;rw [Array.getElem?_setIfInBounds_ne (by omega)];exact m4R j m hj hm
      have bh:(c2.setIfInBounds i (.int .i32 (c.out.length:Int))).size=cn:=(by rw [Array.size_setIfInBounds];exact m4s);have ch:=q5.fm aa (by simp);have ci:=m2E.fm aa (by simp);have bo:∀(j:Nat) (a:Cs),i<=j->t.ents[j]?=some a->Mb w6 a cu (j*4):=fun j a hj ha=>(m2R j a hj ha).fm aa (by simp);by_cases cz:c.out.length=i
      ·have e1:Fq id c e=⟨c.out++[e],c.remap++[c.out.length],c.gone++[false]⟩:=(by rw [bb,if_pos (by omega)]);rw [e1] at q f;(repeat first|refine Aa Z ?_|apply Ab|apply Ac|refine Aj Z (by first|omega|decide) ?_|refine jA Z Z (by omega) Z ?_|apply Ad|apply Am|apply Aq|apply An|apply Bj|apply Af|refine Ay Z Z (by omega) Z ?_|refine Ff Z Z (Gu (by omega)) Z ?_);refine Ap (i+1,⟨c.out++[e],c.remap++[c.out.length],c.gone++[false]⟩) ⟨⟨n1',⟨cu,n2,m2l,?_,fun j a hj ha=>bo j a (by omega) ha⟩,⟨_,n3,m3s,hG,fun j hj l=>m3F j (by omega) l⟩,⟨_,n4,bh,hR⟩⟩,q,by dsimp only;omega,f,hF.trans aa⟩ (by dsimp only;omega) ⟨rfl,rfl,rfl,rfl,by rw [show (((i+1,(⟨c.out++[e],c.remap++[c.out.length],c.gone++[false]⟩:lJ)).2.out.length:Nat):Int)=(c.out.length:Int)+1 by simp];rfl,rfl,trivial⟩;intro j a ha;by_cases hj:j<c.out.length
       ·rw [Yf hj] at ha;exact ci j a ha
       ·have bp:j=i:=by
         have:=(Yc.1 ha).1;simp at this;omega
        subst bp;rw [Yg (by omega),cz,Nat.sub_self] at ha;simp only [List.getElem?_cons_zero,Yb] at ha;subst ha;exact bo j _ Y he
      ·have aw:0<=e.parent:=by
        rcases o2 with o2|o2
        ·omega
        ·exact o2
       obtain⟨p,hp⟩:∃p:Nat,e.parent=(p:Int):=⟨e.parent.toNat,by omega⟩;have bm:p<c.gone.length:=(by omega);have bi:c.gone[p]?=some c.gone[p]:=Yd bm;have aq:c.gone[p]?=some false:=by
        cases hx:c.gone[p] with
        | false=>rw [bi,hx]
        | true=>
         have:=hb.2 ⟨aw,.inr (by rw [hp,Int.toNat_natCast,List.getD_eq_getElem?_getD,bi,hx];rfl)⟩;cases this
       obtain⟨m,bq,dq⟩:=hC.keep p aq;have da:c.remap.getD e.parent.toNat 0=m:=(by rw [hp,Int.toNat_natCast,List.getD_eq_getElem?_getD,bq];rfl);have e1:Fq id c e=⟨c.out++[{ e with parent:=(m:Int) }],c.remap++[c.out.length],c.gone++[false]⟩:=(by rw [bb,if_neg (by omega),da]);rw [e1] at q f;have xr:w6.cell? ⟨g2,p,none⟩=some (.int .i32 m):=Ar n4 (hR p m (by rw [Yf (by omega)];exact aq) (by rw [Yf (by omega)];exact bq));have cj:Bp d=true:=(by obtain⟨_,_,rfl,_⟩:=ch;rfl);have bc:∀(j:Nat) (u:Value),[Value.int .i32 e.parent,.int .u8 e.kind,.bool e.expl,d][j]?=some u->w6.cell? ⟨ge,i*4+j,none⟩=some u:=fun j u hu=>by
        refine Ar n2 ?_;rw [List.getElem?_toArray]
        match j,hu with
        | 0,hu=>simp only [List.getElem?_cons_zero,Yb] at hu;subst hu;exact q1
        | 1,hu=>simp only [List.getElem?_cons_succ,List.getElem?_cons_zero,Yb] at hu;subst hu;exact q2
        | 2,hu=>simp only [List.getElem?_cons_succ,List.getElem?_cons_zero,Yb] at hu;subst hu;exact q3
        | 3,hu=>simp only [List.getElem?_cons_succ,List.getElem?_cons_zero,Yb] at hu;subst hu;exact q4
        | j+4,hu=>simp at hu
       (repeat first|refine Aa Z ?_|apply Ab|apply Ac|refine Ao Z (by first|omega|decide) ?_|refine Av (b:=tb) (i:=0) Z Z n1' Z Z ?_|refine Ax (i:=i) Z Z Z ae (by rw [Yi];rfl) ?_|refine Jv (cs:=[.int .i32 e.parent,.int .u8 e.kind,.bool e.expl,d]) Z Z Z bc Z ?_|apply Ad|refine Ff Z Z (Gu (by omega)) Z ?_);refine Dk Z Z Z (fun w7 ag=>?_);refine Bx Z Z Z (by simpa [Bp] using cj) ag.at_ (by simp) Z (fun w8 aj=>?_);have ck:Fm tb [59,145,4,21] w6 w8:=(ag.fm (by have:=aa.size;have:=hF.size;omega)).trans (aj.fm ag.at_ (by have:=aa.size;have:=hF.size;omega) (by simp [Ce]) rfl);have df:=Ah n2;have dg:=Ah n1';have dh:=Ah n3;have di:=Ah n4;generalize dr:w6.heap.size=eb at *;have r1:=aj.keep (ag.keep n1') (by omega);have r2:=aj.keep (ag.keep n2) (by omega);have r3:=aj.keep (ag.keep n3) (by omega);have r4:=aj.keep (ag.keep n4) (by omega);have r5:=aj.at_;simp only [List.take_zero,List.nil_append,Yi,List.drop_succ_cons,List.drop_nil,List.append_nil,List.drop_zero] at r5;have xr8:w8.cell? ⟨g2,p,none⟩=some (.int .i32 m):=Ar r4 (hR p m (by rw [Yf (by omega)];exact aq) (by rw [Yf (by omega)];exact bq));clear aj ag;(repeat first|refine Aa Z ?_|apply Ab|apply Ac|refine Av (b:=eb) (i:=0) Z Z r5 Z Z ?_|refine Ax (i:=p) Z Z hp (by omega) (by rw [Yi,Nat.mul_one];rfl) ?_|refine Aw Z Z xr8 Z ?_);refine Bk Z Z Z r5 Z Z (fun w9 ak=>?_);have s1:=ak.keep r1 (by omega);have s2:=ak.keep r2 (by omega);have s3:=ak.keep r3 (by omega);have s4:=ak.keep r4 (by omega);have s5:w9.heap[eb]?=some (.cells ⟨[.int .i32 m,.int .u8 e.kind,.bool e.expl,d]⟩ 145 (0,0)):=ak.at_;have db:Fm tb [59,145,4,21] w6 w9:=ck.trans (ak.fm r5 (by omega) (by simp [Ce]) rfl);clear ak r1 r2 r3 r4 r5 xr8 ck;(repeat (apply Ab));refine Cp (fun w'=>w'.heap[tb]?=some (.cells ⟨[.slice (F ge) t.ents.length cap,.int .i32 (t.cur:Int),.slice (F g1) n1 cn,.slice (F g2) nn2 cn]⟩ 59 (0,0))/\w'.heap[eb]?=some (.cells ⟨[.int .i32 m,.int .u8 e.kind,.bool e.expl,d]⟩ 145 (0,0))) ?_;have br:w9.drew.heap[tb]?=some (.cells ⟨[.slice (F ge) t.ents.length cap,.int .i32 (t.cur:Int),.slice (F g1) n1 cn,.slice (F g2) nn2 cn]⟩ 59 (0,0))/\w9.drew.heap[eb]?=some (.cells ⟨[.int .i32 m,.int .u8 e.kind,.bool e.expl,d]⟩ 145 (0,0)):=⟨s1,s5⟩;have bd:c.out.length*4+4<=cu.length:=(by omega);(repeat first|refine Cg (by kernel_rfl) (by first|trivial|assumption) Z ?_|refine Cl (by kernel_rfl) br Z Z (fun w' bs=>Ar (b:=tb) (i:=0) bs.1 rfl) Z ?_|refine Xb (cs:=[.int .i32 m,.int .u8 e.kind,.bool e.expl,d]) (by kernel_rfl) br Z Z Z (fun w' bs=>Gf bs.2 rfl) Z ?_|refine Il (i:=c.out.length) (by kernel_rfl) br Z Z Z (by omega) (by rw [Yi];rfl) ?_);refine WX.sg (by kernel_rfl) Z Z Z (by simpa [Bp] using cj) (show w9.drew.heap[ge]?=some (.cells ⟨cu⟩ 145 (0,0)) from s2) bd Z (fun dc ab=>⟨⟨ab.keep (show w9.drew.heap[tb]?=_ from s1) (by omega),ab.keep (show w9.drew.heap[eb]?=_ from s5) (by omega)⟩,?_⟩);have ao:Fm tb [59,145,4,21] w6 dc:=db.drew.trans (ab.fm (show w9.drew.heap[ge]?=some (.cells ⟨cu⟩ 145 (0,0)) from s2) (by omega) (by simp [Ce]) rfl);refine Co ?_;(repeat first|refine Aa Z ?_|refine jA Z Z (by omega) Z ?_|apply Am|apply Aq|apply An|apply Bj|refine Ay Z Z (by omega) Z ?_);have ap:[Value.int .i32 m,.int .u8 e.kind,.bool e.expl,d].length=4:=rfl;refine Ap (i+1,⟨c.out++[{ e with parent:=(m:Int) }],c.remap++[c.out.length],c.gone++[false]⟩) ⟨⟨ab.keep (show w9.drew.heap[tb]?=_ from s1) (by omega),⟨_,ab.at_,by simp only [Ye,List.length_take,Yh,ap];omega,?_,fun j a hj ha=>?_⟩,⟨_,ab.keep (show w9.drew.heap[g1]?=_ from s3) bf,m3s,hG,fun j hj l=>m3F j (by omega) l⟩,⟨_,ab.keep (show w9.drew.heap[g2]?=_ from s4) bg,bh,hR⟩⟩,q,by dsimp only;omega,f,(hF.trans aa).trans ao⟩ (by dsimp only;omega) ⟨rfl,rfl,rfl,rfl,by rw [show (((i+1,(⟨c.out++[{ e with parent:=(m:Int) }],c.remap++[c.out.length],c.gone++[false]⟩:lJ)).2.out.length:Nat):Int)=(c.out.length:Int)+1 by simp];rfl,rfl,trivial⟩
       ·intro j a ha;by_cases hj:j<c.out.length
        ·rw [Yf hj] at ha;exact ((ci j a ha).fm ao (by simp)).other (cs:=[Value.int .i32 m,.int .u8 e.kind,.bool e.expl,d]) (by rw [ap];exact bd) (.inl (by omega))
        ·have bp:j=c.out.length:=by
          have:=(Yc.1 ha).1;simp at this;omega
         subst bp;rw [Yg Y,Nat.sub_self] at ha;simp only [List.getElem?_cons_zero,Yb] at ha;subst ha;exact Mb.here (e:={ e with parent:=(m:Int) }) bd (ch.fm ao (by simp))
       ·exact ((bo j a (by omega) ha).fm ao (by simp)).other (cs:=[Value.int .i32 m,.int .u8 e.kind,.bool e.expl,d]) (by rw [ap];exact bd) (.inr (by rw [ap];omega))
   ·have ds:i=t.ents.length:=(by omega);rw [List.drop_eq_nil_of_le (by omega)] at f;simp only [List.foldl_nil] at f;have cl:Lq id t.ents=c.out:=(by unfold Lq;rw [<-f]);rw [cl];(repeat first|refine Aa Z ?_|apply Ab|apply Ac|refine Aj Z (by first|omega|decide) ?_|refine Av (b:=tb) (i:=0) Z Z m1 Z Z ?_|refine Ub c.out.length Z Z Z (by omega) Z ?_|apply Ad|apply Am|apply An|apply Cn|apply Ci|apply Ba);refine Bk Z Z Z m1 Z Z (fun w5 ax=>?_);(repeat (apply Aq));have az:Fm tb [59,145,4,21] w4 w5:=ax.fm m1 Y (by simp [Ce]) rfl;refine Kt Z Z ⟨rfl,⟨.slice (F ge) c.out.length cap,cu.take (c.out.length*4),.slice (F g1) n1 cn,.slice (F g2) nn2 cn,cn,ax.at_,⟨?_,.inr ⟨ge,cap,⟨cu⟩,rfl,by omega,ax.keep m2 (by omega),by dsimp only;omega,cm,m2l,rfl⟩⟩,?_,.inr ⟨g1,g2,n1,nn2,c1,c2,rfl,rfl,ah,ai,ax.keep m3 (by omega),ax.keep m4 (by omega),m3s,m4s⟩⟩,hF.trans az⟩
    ·rw [List.length_take];dsimp only;omega
    ·intro j a ha;have l:=(Yc.1 ha).1;have key:∀(k:Nat) (v:Value),k<4->cu[j*4+k]?=some v->(cu.take (c.out.length*4))[j*4+k]?=some v:=fun k v hk hv=>by
      rw [List.getElem?_take,if_pos (by simp only at l;omega)];exact hv
     obtain⟨q1,q2,q3,d,q4,q5⟩:=(m2E j a ha).fm az (by simp);exact⟨key 0 _ (by omega) q1,key 1 _ (by omega) q2,key 2 _ (by omega) q3,d,key 3 _ (by omega) q4,q5⟩
end
end Go.Proofs.YtaccphdkapmdhaaGreat
