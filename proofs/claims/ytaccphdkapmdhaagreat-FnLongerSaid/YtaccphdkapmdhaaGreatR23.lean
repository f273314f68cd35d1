/- The tracker does as a plain function on lists says. No condition. -/
import Derived.Test.YtaccphdkapmdhaaGreatR22
namespace Go.Proofs.YtaccphdkapmdhaaGreat
set_option maxRecDepth 100000
set_option maxHeartbeats 64000000
set_option linter.all false
section
attribute [local irreducible] binOp IntKind.wrap Sem.run
theorem Uv (x:Ex) (hx:KsX x):Wf (Kl x):=by
 have key:Wn (Kl x).length (Kl x):=by
  cases x with
  | kv ks v=>
   have h1:=Rj v (0+1+ks.length);have h2:=Fi ks (Df v) 0;obtain⟨a,l,h,_⟩:=Hc v (0+1+ks.length);have h3:0<(Df v (0+1+ks.length)).length:=(by rw [h];simp);simp only [Kl];rw [h2];unfold He;exact Wn.cons (by simp) (by simp) O (by simp only;omega) ((Iw ks (0+1) _ (by omega)).app ((h1.mono (by omega)).setN (by omega)))
  | tab ks=>
   simp only [Kl];cases ks with
   | nil=>exact absurd rfl hx
   | cons k ks=>exact Wn.cons (by simp) (by simp) O (by simp [Cf]) (Iw _ 1 _ (by simp [Cf];omega))
  | atab ks=>
   simp only [Kl];cases ks with
   | nil=>exact absurd rfl hx
   | cons k ks=>exact Wn.cons (by simp) (by simp) O (by simp [Cf]) (Iw _ 1 _ (by simp [Cf];omega))
 intro i n hn;exact key n (List.mem_of_getElem? hn)
theorem Uu (x:Ex) (hx:KsX x):XT (Kl x) x:=by
 cases x with
 | kv ks v=>
  have h:=Zr.self (Kl (.kv ks v));have e:Kl (.kv ks v)=⟨5,none,0,0+ks.length+2⟩::(Ck (0+1) ks++No (Df v (0+1+ks.length)) (0+2)):=rfl;rw [e] at h ⊢;have h4:=h.tail.right;rw [Cf] at h4;obtain⟨h1,a,h2,h3⟩:=eW _ v _ _ hx.2 h4;have h5:=Zt _ ks _ hx.1 h.tail.left;exact⟨_,0+1+ks.length,a,h.head,rfl,by simp only;omega,h2,h1,by rw [h3];exact h5⟩
 | tab ks=>
  have h:=Zr.self (Kl (.tab ks));exact⟨_,h.head,rfl,Zt _ ks 1 hx h.tail⟩
 | atab ks=>
  have h:=Zr.self (Kl (.atab ks));exact⟨_,h.head,rfl,Zt _ ks 1 hx h.tail⟩
theorem Kk (x:Ex):0<(Kl x).length:=by
 cases x<;>simp [Kl,He]
theorem jO (tb c:Nat) (w:World) (hT:TS w tb ⟨[],c⟩):
  Calls PP 48 #[.pointer (F tb)] w fun e w'=>e=.returned (.tuple #[])/\TS w' tb ⟨[⟨-1,3,false,[]⟩],0⟩/\Fm tb [59,145] w w':=by
 obtain⟨ev,xs,rb,mb,cn,h1,h2,h3,h4⟩:=hT;simp only [List.length_nil] at h2;obtain⟨ad,cap,rfl⟩:∃ad cap,ev=.slice ad 0 cap:=by
  rcases h2.2 with ⟨rfl,hn⟩|⟨g,cap,cur,rfl,_⟩
  ·exact⟨none,0,rfl⟩
  ·exact⟨_,_,rfl⟩
 have z:=Ah h1;refine Bf (L:=[(0,.pointer (F tb))]) Tryz.func48 Z Z Z ⟨Z,V⟩ ?_;repeat first|refine Aa Z ?_|apply Ac|refine Av (b:=tb) (i:=0) Z Z h1 Z Z ?_|refine Ub 0 Z Z Z O Z ?_
 refine Cx Z Z (bdEnt2 _ _) Z ?_;refine Ec Z Z (bsEnt _ _ _ _) Z (fun w1 hA=>?_);have s:=hA.keep h1;have v:w1.ownsRow (tb+1) 145 4 (.slice ad 0 cap) 0 xs:=Bi h2 (fun k o _ h=>hA.keep h);have a:Fm tb [59,145] w w1:=hA.fm (by omega);refine Md (m:=1) [.int .i32 (-1),.int .u8 3,.bool false,.slice none 0 0] Z Z (rfl:Fx 55=some (145,4)) v Z (fun j u hu=>?_) (fun u hu=>?_) (by omega) (by rw [hA.size];omega) (fun v' w2 l n _=>?_)
 ·rw [Dw];exact Ar hA.at_ (by simpa using hu)
 ·simp only [List.mem_cons,List.not_mem_nil,or_false] at hu;rcases hu with rfl|rfl|rfl|rfl<;>rfl
 have d:=n.keep _ _ s (by simp [Ce]);have p:Bp v'=true:=by
  rcases l.2 with ⟨rfl,_⟩|⟨g,cap,cur,rfl,_⟩<;>rfl
 have f:Fm tb [59,145] w1 w2:=n.mono (by omega) (by simp);refine⟨_,rfl,?_⟩;repeat (refine Aa Z ?_)
 refine Bk Z Z p d Z Z (fun w3 q=>?_);have x:TS w3 tb ⟨[]++[⟨-1,3,false,[]⟩],c⟩:=TS.grow (w0:=w) (t:=⟨[],c⟩) l h3 h2.1 ⟨rfl,rfl,rfl,_,rfl,⟨none,0,rfl,fun h=>absurd rfl h⟩⟩ (h4.fm (a.trans f) (by simp) (by simp)) ((a.trans f).mono O (fun _ h=>h)) d q;have y:Fm tb [59,145] w w3:=(a.trans f).trans (q.fm d Y (by simp [Ce]) rfl);obtain⟨ev,xs,rb,mb,cn,z1,z2,z3,z4⟩:=x;repeat first|refine Aa Z ?_|apply Ab|apply Am
 refine Bk Z Z Z z1 Z Z (fun w4 r=>?_);repeat (apply Aq)
 exact Kt Z Z ⟨rfl,TS.setCur (c:=0) z1 z2 z3 z4 r,y.trans (r.fm z1 Y (by simp [Ce]) rfl)⟩
theorem Tc (tb pp g:Nat) (x:Ex) (ns:List Be) (t:Ju) (w:World) (hT:TS w tb t) (hA:AR w pp g ns) (hw:Wf ns) (hX:XT ns x) (hx:KsX x) (hp:gO t) (hm:t.ents.length+1+cX x<=1000000000):
  Calls PP 22 #[.pointer (F tb),.pointer (F g)] w (Told tb (Xt t x) w):=by
 have s:=hT.lt;obtain⟨o,y⟩:=eL hp;obtain⟨ev,xs,rb,mb,cn,h1,h2,h3,h4⟩:=hT;have hT:TS w tb t:=⟨ev,xs,rb,mb,cn,h1,h2,h3,h4⟩;obtain⟨ad,cap,rfl⟩:∃ad cap,ev=.slice ad t.ents.length cap:=by
  rcases h2.2 with ⟨rfl,hn⟩|⟨g,cap,cur,rfl,_⟩
  ·exact⟨none,0,by rw [hn]⟩
  ·exact⟨_,_,rfl⟩
 refine Bf (L:=[(0,.pointer (F tb)),(1,.pointer (F g))]) Tryz.func22 Z Z Z ⟨Z,Z,V⟩ ?_;repeat first|refine Aa Z ?_|apply Ab|apply Ac|refine Cr (x:=.seq _ (.cond _ _ _)) (σ:=Unit) (fun _ w'=>TS w' tb t.begun/\Fm tb [59,145,4,21] w w') (fun _=>[(0,.pointer (F tb)),(1,.pointer (F g))]) ?_ ?_
 ·rcases hp with rfl|hp
  ·simp only [List.length_nil] at h1;(repeat first|refine Aa Z ?_|apply Ab|refine Ao Z (by first|omega|decide) ?_|refine Av (b:=tb) (i:=0) Z Z h1 Z Z ?_|apply Am);refine Ae Z Z Z (jO tb 0 w hT) ?_;rintro e w1 ⟨rfl,d,f⟩;refine T2 Z Z ?_;(repeat (apply Aq));exact Bh () ⟨d,f.mono Y (by simp)⟩ ⟨Z,Z,V⟩
  ·have r:0<t.ents.length:=(by have:=hp.2;omega);have hb:t.begun=t:=eM hp;(repeat first|refine Aa Z ?_|apply Ab|refine Aj Z (by first|omega|decide) ?_|refine Av (b:=tb) (i:=0) Z Z h1 Z Z ?_|apply Af);rw [hb];exact Bh () ⟨hT,Fm.refl _ _ _⟩ ⟨Z,Z,V⟩
 ·rintro _ w1 ⟨d,f⟩;have k:=hA.fm f (by simp) (by simp) (by simp);obtain⟨l,p⟩:=o;obtain⟨cur,m,n⟩:=k.cells;simp only [Xt];cases x with
  | kv ks v=>
   obtain⟨a,c,b,ha,hk,q,hb,hn,hK⟩:=hX;have c0:w1.cell? ⟨g,0,none⟩=some (.int .i64 a.kind):=Ar m (by simpa using (n 0 a ha).kind);obtain⟨gg,cap2,cur2,rb2,mb2,cn2,z1,_⟩:=d.open (by omega);simp only [cX] at hm;(repeat first|refine Aa Z ?_|apply Ab|apply Ac|refine Ao Z (by first|omega|decide) ?_|refine Aw Z Z c0 Z ?_|refine Av (b:=tb) (i:=1) Z Z z1 Z Z ?_|apply Ag);refine Ae Z Z Z (eJ v (bQ v hx.2) ks tb pp g t.begun.cur 0 c ns t.begun a b w1 d k hw ha hk q hb hn hK hx.1 l p (by omega)) ?_;rintro e w2 ⟨u,rfl,hu,h,j⟩;refine T2 Z Z ?_;(repeat first|refine Aa Z ?_|apply Ab|apply Bv|apply Ai);exact Ak Z Z ⟨_,_,rfl,hu,h,f.trans (j.mono Y (by simp))⟩
  | tab ks=>
   obtain⟨a,ha,hk,hK⟩:=hX;have c0:w1.cell? ⟨g,0,none⟩=some (.int .i64 a.kind):=Ar m (by simpa using (n 0 a ha).kind);simp only [cX] at hm;rw [ckX_tab];(repeat first|refine Aa Z ?_|apply Ab|apply Ac|refine Ao Z (by first|omega|decide) ?_|refine Aj Z (by first|omega|decide) ?_|refine Aw Z Z c0 Z ?_|apply Ag);refine Ae Z Z Z (kZ ks tb pp g 0 ns t.begun a w1 d k hw ha hk hK hx l (by omega) (by omega)) ?_;rintro e w2 ⟨b,u,rfl,hu,h,j⟩;refine T2 Z Z ?_;(repeat first|refine Aa Z ?_|apply Ab|apply Bv|apply Ai);exact Ak Z Z ⟨_,_,rfl,hu,h,f.trans j⟩
  | atab ks=>
   obtain⟨a,ha,hk,hK⟩:=hX;have c0:w1.cell? ⟨g,0,none⟩=some (.int .i64 a.kind):=Ar m (by simpa using (n 0 a ha).kind);simp only [cX] at hm;rw [nI];(repeat first|refine Aa Z ?_|apply Ab|apply Ac|refine Ao Z (by first|omega|decide) ?_|refine Aj Z (by first|omega|decide) ?_|refine Aw Z Z c0 Z ?_|apply Ag);refine Ae Z Z Z (gI ks tb pp g 0 ns t.begun a w1 d k hw ha hk hK hx l (by omega) (by omega)) ?_;rintro e w2 ⟨b,u,rfl,hu,h,j⟩;refine T2 Z Z ?_;(repeat first|refine Aa Z ?_|apply Ab|apply Bv|apply Ai);exact Ak Z Z ⟨_,_,rfl,hu,h,f.trans j⟩
end
end Go.Proofs.YtaccphdkapmdhaaGreat
