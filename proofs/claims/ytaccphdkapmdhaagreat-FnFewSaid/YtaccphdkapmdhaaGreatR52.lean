/- What the laws look at is true of every text. No condition. -/
import Derived.Test.YtaccphdkapmdhaaGreatR38
import Derived.Test.YtaccphdkapmdhaaGreatR47
import Derived.Test.YtaccphdkapmdhaaGreatR51
namespace Go.Proofs.YtaccphdkapmdhaaGreat
set_option maxRecDepth 100000
set_option maxHeartbeats 64000000
set_option linter.all false
section
theorem eqB (a b:Bool) (w:World):(binOp .eql 4 (.bool a) (.bool b)).run PP w=.ok (.bool (a==b)) w:=by cases a<;>cases b<;>kernel_rfl
theorem bE (op:BinOp) (x y:Operand) (a b:Bool) (t:TypeId) (w:World):(eqGuard op t x y (.bool a) (.bool b)).run PP w=.ok () w:=by
 unfold eqGuard;cases op<;>rfl
attribute [local irreducible] binOp IntKind.wrap Sem.run
section
attribute [local semireducible] WL WC X WD WX
variable {all:List Oper} {Q:Exit->Act->World->Prop} {N:Nat} {L L':Env} {o:Oper} {rest:List Oper} {w:World}
def bbA (L:Env) (op:Op):Option (Bool×Bool):=
 match op with
 | .binOp .eql 4 x y _=>match ev L x,ev L y with
  | some (.bool a),some (.bool b)=>some (a,b)
  | _,_=>none
 | _=>none
theorem eS {a b c:Bool} (hg:Ez all L o=some true) (h:bbA L o.op=some (a,b)) (hc:(a==b)=c) (hd:Cu N o (.bool c) L=some L') (k:WL all Q N L' rest w):WL all Q N L (o::rest) w:=by
 subst hc;refine Ca hg (fun ac hf=>?_) hd k;obtain⟨dst,op,ty,Gh,after,guard⟩:=o;simp only at h;unfold bbA at h;split at h
 ·rename_i x y t;split at h
  ·rename_i a' b' hx hy;simp only [Yb,Prod.mk.injEq] at h;obtain⟨rfl,rfl⟩:=h;simp only [execOp,hf.eval hx,hf.eval hy,Sem.run_bind,bE,Result.andThen_ok,eqB,Sem.run_pure]
  ·cases h
 ·cases h
end
theorem RT.rx {B:Nat} {w:World} {v:Value} {l:Bs} (h:RT B w v l):RX w v l:=by
 obtain⟨ad,cap,h1,_,h2⟩:=h;refine⟨ad,cap,h1,fun a=>?_⟩;obtain⟨b,o,dc,e,fz,q1,q2,q3,_⟩:=h2 a;exact⟨b,o,dc,e,fz,q1,q2,q3⟩
theorem RX.upS {w w':World} {v:Value} {l:Bs} (h:RX w v l) (hu:Up w.heap.size w w'):RX w' v l:=h.keep (fun b o ho=>hu.at (Ah ho) ho)
theorem Rb (v:Value) (b:Bs) (w:World) (hv:RT w.heap.size w v b) (hb:b.length<=100000000):
  Calls PP 15 #[v] w fun e w'=>e=.returned (.bool true)/\Up w.heap.size w w':=by
 have hx:=hv.rx;refine Bf (L:=[(0,v)]) Tryz.func15 Z Z Z ⟨Z,V⟩ ?_;repeat first|refine Aa Z ?_|apply Ab|apply Ac
 refine Ae Z Z Z (Zz v b w hv hb) ?_;rintro e w1 ⟨st,lv,rfl,d,aa⟩;refine T2 Z Z ?_;by_cases h0:st=0
 ·obtain⟨es,hd,hL⟩:=aa h0;subst h0;have p:=hL.lt;have k:=hd.mkx hb;have ak:=hd.len;have al:=Se es hd.ks;have ab:=hx.upS d;(repeat first|refine Aa Z ?_|apply Ab|apply Ac|refine Aj Z (by first|omega|decide) ?_|apply Ad|apply An|apply Af);refine Ae Z Z Z (cM _ lv es w1 p (fun g h=>h) k (by omega)) ?_;rintro e w2 ⟨r,rfl,l⟩;refine T2 Z Z ?_;have a:=d.trans (l.mono d.size);cases r with
  | true=>
   (repeat first|refine Aa Z ?_|apply Ab|apply Ac|refine Bn Z (by first|with_reducible rfl|exact Bool.not_false) ?_|apply Bl|apply Ai);exact Ak Z Z ⟨rfl,a⟩
  | false=>
   have ac:Rx w2 (fun b=>b<w2.heap.size) lv es:=(p.up l).lt;have q:=ab.upS l;(repeat first|refine Aa Z ?_|apply Ab|apply Ac|refine Bb Z (by first|with_reducible rfl|exact Bool.not_true) ?_|apply Ad|apply An|apply Af);refine Ae Z Z Z (lY v b es w2 q hd hb) ?_;rintro e w3 ⟨lk,rfl,ad,m⟩;refine T2 Z Z ?_;have s:Rx w3 (fun b=>b<w3.heap.size) lv es:=(ac.up m).lt;have ae:=q.upS m;have f:=a.trans (m.mono a.size);have t:LkV w3 (fun b=>b<w3.heap.size) lk es:=ad.move (fun b o _ ho=>⟨ho,Ah ho⟩);(repeat first|refine Aa Z ?_|apply Ab|apply Ac|refine Au Z ?_);refine Ae Z Z Z (aZ _ _ lk lv es w3 t s (fun g h=>h) (fun g h=>h) k (by omega)) ?_;rintro e w4 ⟨rfl,n⟩;refine T2 Z Z ?_;have af:Rx w4 (fun b=>b<w4.heap.size) lv es:=(s.up n).lt;have ag:=ae.upS n;have i:=f.trans (n.mono f.size);(repeat first|refine Aa Z ?_|apply Ab|apply Ac|refine Bb Z (by first|with_reducible rfl|exact Bool.not_true) ?_|refine Au Z ?_|apply An|apply Af);refine Ae Z Z Z (mO _ lv es w4 af (fun g h=>h) k (by omega)) ?_;rintro e w5 ⟨s2,rfl,u,x⟩;refine T2 Z Z ?_;have y:=ag.upS x;have c:=i.trans (x.mono i.size);by_cases h2:s2=2
   ·(repeat first|refine Aa Z ?_|apply Ab|apply Ac|refine Ao Z (by first|omega|decide) ?_|apply Ad|apply Bl|apply Ai);exact Ak Z Z ⟨rfl,c⟩
   ·(repeat first|refine Aa Z ?_|apply Ab|apply Ac|refine Aj Z (by first|omega|decide) ?_|apply Ad|apply An|apply Af);refine Ae Z Z Z (Pv v b es w5 y hd hb) ?_;rintro e w6 ⟨rfl,z⟩;refine T2 Z Z ?_;have ah:=y.upS z;have j:=c.trans (z.mono c.size);have ai:((Et es).isNone==dc ((s2:Int)=0))=true:=by
     by_cases h:s2=0
     ·rw [u.1 h,Fj (by omega)];rfl
     ·have:Et es≠none:=fun e=>h (u.2 e);rw [Ew (by omega)];cases hm:Et es with
      | none=>exact absurd hm this
      | some _=>rfl
    (repeat (refine Aa Z ?_));refine eS Z Z ai Z ?_;(repeat first|refine Aa Z ?_|refine Au Z ?_);refine Ae Z Z Z (Pq v b es w6 ah hd hb) ?_;rintro e w7 ⟨rfl,aj⟩;refine T2 Z Z ?_;(repeat first|refine Aa Z ?_|apply Ab|refine Au Z ?_|apply Ai);refine Ak Z Z ⟨?_,j.trans (aj.mono j.size)⟩;rw [Fj rfl];rfl
 ·(repeat first|refine Aa Z ?_|apply Ab|apply Ac|refine Ao Z (by first|omega|decide) ?_|apply Ad|apply Bl|apply Ai);exact Ak Z Z ⟨rfl,d⟩
end
section
attribute [local irreducible] binOp IntKind.wrap Sem.run
theorem RC.rt {w:World} {v:Value} {l:Bs} (h:RC w v l):RT w.heap.size w v l:=by
 obtain⟨⟨ad,cap,rfl,h2⟩,ad',cap',h3,h4⟩:=h;simp only [Value.slice.injEq] at h3;obtain⟨rfl,_,rfl⟩:=h3;refine⟨ad,cap,rfl,h4,fun a=>?_⟩;obtain⟨b,o,dc,fz,q1,q2,q3⟩:=h2 a;exact⟨b,o,dc,5,fz,q1,q2,q3,Ah q2⟩
theorem RT.upS {w w':World} {v:Value} {l:Bs} (h:RT w.heap.size w v l) (hu:Up w.heap.size w w'):RT w'.heap.size w' v l:=by
 obtain⟨ad,cap,h1,h0,h2⟩:=h;refine⟨ad,cap,h1,h0,fun hl=>?_⟩;obtain⟨b,o,dc,e,fz,h3,h4,h5,h6⟩:=h2 hl;exact⟨b,o,dc,e,fz,h3,hu.at h6 h4,h5,Nat.lt_of_lt_of_le h6 hu.size⟩
def TX (w:World) (v:Value) (es:List Ex):Prop:=∃b,RT w.heap.size w v b/\Lr b es/\b.length<=100000000
theorem TX.up {w w':World} {v:Value} {es:List Ex} (h:TX w v es) (hu:Up w.heap.size w w'):TX w' v es:=by
 obtain⟨b,h1,h2,h3⟩:=h;exact⟨b,h1.upS hu,h2,h3⟩
theorem TX.look {w:World} {v:Value} {es:List Ex} (h:TX w v es):Calls PP 15 #[v] w fun e w'=>e=.returned (.bool true)/\Up w.heap.size w w':=by
 obtain⟨b,h1,h2,h3⟩:=h;exact Rb v b w h1 h3
theorem TX.means {w:World} {v:Value} {es:List Ex} (h:TX w v es):Calls PP 10 #[v] w fun e w'=>e=.returned (.int .i64 (Fo (Et es)))/\Up w.heap.size w w':=by
 obtain⟨b,h1,h2,h3⟩:=h;exact Pq v b es w h1.rx h2 h3
theorem TX.check {w:World} {v:Value} {es:List Ex} (h:TX w v es):Calls PP 16 #[v] w fun e w'=>e=.returned (.bool (Et es).isNone)/\Up w.heap.size w w':=by
 obtain⟨b,h1,h2,h3⟩:=h;exact Pv v b es w h1.rx h2 h3
theorem Vw (o:Option Nat):-1<=Fo o:=by
 cases o<;>simp only [Fo]<;>omega
theorem Tr (o:Option Nat):o.isNone=dc (Fo o=-1):=by
 cases o with
 | none=>exact (Fj rfl).symm
 | some k=>exact (Ew (by simp only [Fo];omega)).symm
theorem Qs (P:Nat->Prop) (lv cv:Value) (es:List Ex) (code:Bs) (w:World) (hL:Rx w P lv es) (hc:RF w.heap.size w cv code) (a:∀x∈es,OkX x) (hk:Ss es<=1000000) (hm:code.length<=100000):
  Calls PP 11 #[lv,cv] w fun e w'=>∃v,e=.returned v/\Up w.heap.size w w'/\TX w' v es:=by
 refine (jH P lv cv es code w hL hc a (by omega)).mono ?_;rintro e w' ⟨v,l,rfl,hR,hD,hl,hU⟩;exact⟨v,rfl,hU,l,hR.rt,hD,by omega⟩
theorem Yr {es:List Ex} (h:OkL es):Ss es<=1000000:=by have:=h.kXs;omega
theorem Up.after {B:Nat} {w w' w'':World} (h:Up B w w') (h2:Up w'.heap.size w' w'') (hB:B<=w.heap.size):Up B w w'':=h.trans (h2.mono (Nat.le_trans hB h.size))
end
end Go.Proofs.YtaccphdkapmdhaaGreat
