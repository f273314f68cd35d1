/- How texts read (the grammar), and the rules by which functions are walked: each rule is shown of the model. No condition. -/
import Derived.Test.YtaccphdkapmdhaaGreatR1
namespace Go.Proofs.YtaccphdkapmdhaaGreat
set_option maxRecDepth 100000
set_option maxHeartbeats 64000000
set_option linter.all false
section
structure Cs where
 parent:Int
 kind:Nat
 expl:Bool
 name:Bs
def Cs.is (e:Cs) (p:Nat) (nm:Bs):Bool:=decide (e.parent=(p:Int)/\e.kind≠5/\e.name=nm)
def Dv (p:Nat) (nm:Bs):List Cs->Nat->Option Nat
 | [],_=>none
 | e::l,i=>if e.is p nm then some i else Dv p nm l (i+1)
def Du (es:List Cs) (p:Nat) (nm:Bs):Option Nat:=Dv p nm (es.drop (p+1)) (p+1)
def Iv (es:List Cs) (i:Nat):Nat:=match es[i]? with
 | some e=>e.kind
 | none=>0
def Ky (f:List Cs->Nat->List Cs×Bool):List Bs->List Cs->Nat->List Cs×Bool
 | [],es,_=>(es,false)
 | [k],es,p=>match Du es p k with
  | some _=>(es,false)
  | none=>f (es++[⟨p,1,false,k⟩]) es.length
 | k::k2::ks,es,p=>match Du es p k with
  | none=>Ky f (k2::ks) (es++[⟨p,2,false,k⟩]) es.length
  | some i=>if Iv es i=2 then Ky f (k2::ks) es i else (es,false)
def Bz.isSc:Bz->Bool
 | .sc _ _=>true
 | _=>false
mutual
def Hy:Bz->List Cs->Nat->List Cs×Bool
 | .sc _ _,es,_=>(es,true)
 | .arr vs,es,id=>Fg vs es id
 | .tbl ts,es,id=>Hu ts es id
def Fg:List Bz->List Cs->Nat->List Cs×Bool
 | [],es,_=>(es,true)
 | v::vs,es,id=>if v.isSc then Fg vs es id else
  match Hy v (es++[⟨id,5,false,[]⟩]) es.length with
  | (es',true)=>Fg vs es' id
  | (es',false)=>(es',false)
def Hu:List (List Bs×Bz)->List Cs->Nat->List Cs×Bool
 | [],es,_=>(es,true)
 | (ks,v)::ts,es,id=>match Ky (Hy v) ks es id with
  | (es',true)=>Hu ts es' id
  | (es',false)=>(es',false)
end
def Ib:List Bs->List Cs->Nat->List Cs×Option (Nat×Bs)
 | [],es,_=>(es,none)
 | [k],es,p=>(es,some (p,k))
 | k::k2::ks,es,p=>match Du es p k with
  | none=>Ib (k2::ks) (es++[⟨p,3,false,k⟩]) es.length
  | some i=>if Iv es i=2∨Iv es i=3∨Iv es i=4 then Ib (k2::ks) es i else (es,none)
structure lJ where
 out:List Cs
 remap:List Nat
 gone:List Bool
def Fq (id:Nat) (c:lJ) (e:Cs):lJ:=
 if e.parent≥0/\((e.parent=(id:Int)/\e.kind≠0)∨c.gone.getD e.parent.toNat false=true) then
  ⟨c.out,c.remap++[0],c.gone++[true]⟩
 else ⟨c.out++[if c.out.length=c.gone.length then e else { e with parent:=(c.remap.getD e.parent.toNat 0:Nat) }],c.remap++[c.out.length],c.gone++[false]⟩
def Lq (id:Nat) (es:List Cs):List Cs:=(es.foldl (Fq id) ⟨[],[],[]⟩).out
structure Ju where
 ents:List Cs
 cur:Nat
def Ju.begun (t:Ju):Ju:=if t.ents.isEmpty then ⟨[⟨-1,3,false,[]⟩],0⟩ else t
def Ql (t:Ju):Ex->Ju×Bool
 | .kv ks v=>let r:=Ky (Hy v) ks t.ents t.cur;(⟨r.1,t.cur⟩,r.2)
 | .tab ks=>match Ib ks t.ents 0 with
  | (es,none)=>(⟨es,t.cur⟩,false)
  | (es,some (p,k))=>match Du es p k with
   | none=>(⟨es++[⟨p,3,true,k⟩],es.length⟩,true)
   | some i=>match es[i]? with
    | some e=>if e.kind=3/\e.expl=false then (⟨es.set i { e with expl:=true },i⟩,true) else (⟨es,t.cur⟩,false)
    | none=>(⟨es,t.cur⟩,false)
 | .atab ks=>match Ib ks t.ents 0 with
  | (es,none)=>(⟨es,t.cur⟩,false)
  | (es,some (p,k))=>match Du es p k with
   | none=>(⟨es++[⟨p,4,true,k⟩],es.length⟩,true)
   | some i=>if Iv es i=4 then (⟨Lq i es,i⟩,true) else (⟨es,t.cur⟩,false)
def Xt (t:Ju) (x:Ex):Ju×Bool:=Ql t.begun x
def Eo:Ju->List Ex->Nat->Option Nat
 | _,[],_=>none
 | t,x::l,n=>if (Xt t x).2 then Eo (Xt t x).1 l (n+1) else some n
def Et (l:List Ex):Option Nat:=Eo ⟨[],0⟩ l 0
def Kc (es:List Cs):Prop:=∀(i:Nat) (e:Cs),es[i]?=some e->e.parent<(i:Int)/\(i=0∨0<=e.parent)/\e.kind<=5/\e.kind≠0
theorem Kc.snoc {es:List Cs} (h:Kc es) {p k:Nat} {x:Bool} {nm:Bs} (hp:p<es.length) (hk:k<=5) (a:k≠0):Kc (es++[⟨p,k,x,nm⟩]):=by
 intro i e he;by_cases hi:i<es.length
 ·rw [Yf hi] at he;exact h i e he
 ·have b:i=es.length:=by
   have:=(Yc.1 he).1;simp at this;omega
  subst b;rw [Yg Y,Nat.sub_self] at he;simp only [List.getElem?_cons_zero,Yb] at he;subst he;exact⟨by simp only;omega,.inr (by simp only;omega),hk,a⟩
theorem Mc {p:Nat} {nm:Bs}:∀(l:List Cs) (i j:Nat),Dv p nm l i=some j->i<=j/\∃e,l[j-i]?=some e/\e.is p nm=true
 | [],_,_,h=>by simp [Dv] at h
 | e::l,i,j,h=>by
  simp only [Dv] at h;split at h
  ·rename_i he;simp only [Yb] at h;subst h;exact⟨Nat.le_refl _,e,by simp,he⟩
  ·obtain⟨h1,e',h2,h3⟩:=Mc l (i+1) j h;refine⟨by omega,e',?_,h3⟩;rw [show j-i=(j-(i+1))+1 by omega,List.getElem?_cons_succ];exact h2
theorem Jz {es:List Cs} {p i:Nat} {nm:Bs} (h:Du es p nm=some i):p<i/\∃e,es[i]?=some e/\e.is p nm=true:=by
 obtain⟨h1,e,h2,h3⟩:=Mc _ _ _ h;rw [List.getElem?_drop,show p+1+(i-(p+1))=i by omega] at h2;exact⟨by omega,e,h2,h3⟩
theorem Ii {es:List Cs} {p i:Nat} {nm:Bs} (h:Du es p nm=some i):i<es.length:=by
 obtain⟨_,e,h2,_⟩:=Jz h;exact (Yc.1 h2).1
def Hg (es es':List Cs) (n:Nat):Prop:=Kc es'/\es.length<=es'.length/\es'.length<=es.length+n
theorem Hg.refl {es:List Cs} (h:Kc es) (n:Nat):Hg es es n:=⟨h,Nat.le_refl _,by omega⟩
theorem Hg.trans {a b c:List Cs} {n m:Nat} (h:Hg a b n) (g:Hg b c m):Hg a c (n+m):=⟨g.1,Nat.le_trans h.2.1 g.2.1,by have:=h.2.2;have:=g.2.2;omega⟩
theorem Hg.mono {a b:List Cs} {n m:Nat} (h:Hg a b n) (hm:n<=m):Hg a b m:=⟨h.1,h.2.1,by have:=h.2.2;omega⟩
theorem Hg.snoc {es:List Cs} (h:Kc es) {p k:Nat} {x:Bool} {nm:Bs} (hp:p<es.length) (hk:k<=5) (a:k≠0):Hg es (es++[⟨p,k,x,nm⟩]) 1:=⟨h.snoc hp hk a,by simp,by simp⟩
theorem Ol {f:List Cs->Nat->List Cs×Bool} {m:Nat} (hf:∀es id,Kc es->id<es.length->Hg es (f es id).1 m):
  ∀(ks:List Bs) (es:List Cs) (p:Nat),Kc es->p<es.length->Hg es (Ky f ks es p).1 (ks.length+m)
 | [],es,p,h,_=>Hg.refl h _
 | [k],es,p,h,hp=>by
  simp only [Ky];split
  ·exact Hg.refl h _
  ·have h1:=Hg.snoc h (k:=1) (x:=false) (nm:=k) hp (by omega) (by omega);have h2:=hf _ es.length h1.1 (by simp);exact (h1.trans h2).mono (by simp)
 | k::k2::ks,es,p,h,hp=>by
  simp only [Ky];split
  ·have h1:=Hg.snoc h (k:=2) (x:=false) (nm:=k) hp (by omega) (by omega);have h2:=Ol hf (k2::ks) _ es.length h1.1 (by simp);exact (h1.trans h2).mono (by simp only [Ya];omega)
  ·rename_i i hi;split
   ·exact (Ol hf (k2::ks) es i h (Ii hi)).mono (by simp only [Ya];omega)
   ·exact Hg.refl h _
mutual
def cV:Bz->Nat
 | .sc _ _=>0
 | .arr vs=>lB vs
 | .tbl ts=>lC ts
def lB:List Bz->Nat
 | []=>0
 | v::vs=>1+cV v+lB vs
def lC:List (List Bs×Bz)->Nat
 | []=>0
 | (ks,v)::ts=>ks.length+cV v+lC ts
end
def cX:Ex->Nat
 | .kv ks v=>ks.length+cV v
 | .tab ks=>ks.length
 | .atab ks=>ks.length
mutual
theorem nK:∀(v:Bz) (k:Nat),cV v+1<=(Df v k).length
 | .sc _ _,_=>by simp [cV,Df]
 | .arr vs,k=>by
  have:=cIs_le vs (k+1);simp only [cV,Df,Ya];omega
 | .tbl ts,k=>by
  have:=cEs_le ts (k+1);simp only [cV,Df,Ya];omega
theorem cIs_le:∀(vs:List Bz) (k:Nat),lB vs<=(Cq k (Eb vs)).length
 | [],_=>by simp [lB]
 | v::vs,k=>by
  have h1:=nK v k;have h2:=cIs_le vs (k+(Df v k).length);have e1:=Ix k (Df v) (Eb vs);simp only [lB,Eb];omega
theorem cEs_le:∀(ts:List (List Bs×Bz)) (k:Nat),lC ts<=(Cq k (Dx ts)).length
 | [],_=>by simp [lC]
 | (ks,v)::ts,k=>by
  have h1:=nK v (k+1+ks.length);have h2:=cEs_le ts (k+(He ks (Df v) k).length);have e1:=Ix k (He ks (Df v)) (Dx ts);have e2:=Fi ks (Df v) k;simp only [lC,Dx];omega
end
mutual
theorem Mk:∀(v:Bz) (es:List Cs) (id:Nat),Kc es->id<es.length->Hg es (Hy v es id).1 (cV v)
 | .sc _ _,es,_,h,_=>by simp only [Hy];exact Hg.refl h _
 | .arr vs,es,id,h,hi=>by
  simp only [Hy,cV];exact Pb vs es id h hi
 | .tbl ts,es,id,h,hi=>by
  simp only [Hy,cV];exact ckEs_grow ts es id h hi
theorem Pb:∀(vs:List Bz) (es:List Cs) (id:Nat),Kc es->id<es.length->Hg es (Fg vs es id).1 (lB vs)
 | [],es,_,h,_=>by simp only [Fg];exact Hg.refl h _
 | v::vs,es,id,h,hi=>by
  simp only [Fg,lB];split
  ·exact (Pb vs es id h hi).mono (by omega)
  ·have h1:=Hg.snoc h (k:=5) (x:=false) (nm:=[]) hi (by omega) (by omega);have h2:=Mk v _ es.length h1.1 (by simp);have h3:=h1.trans h2;split
   ·rename_i es' heq;rw [heq] at h3;have h4:=Pb vs es' id h3.1 (by have:=h3.2.1;simp only at this;omega);exact h3.trans h4
   ·rename_i es' heq;rw [heq] at h3;exact h3.mono (by omega)
theorem ckEs_grow:∀(ts:List (List Bs×Bz)) (es:List Cs) (id:Nat),Kc es->id<es.length->Hg es (Hu ts es id).1 (lC ts)
 | [],es,_,h,_=>by simp only [Hu];exact Hg.refl h _
 | (ks,v)::ts,es,id,h,hi=>by
  simp only [Hu,lC];have h2:=Ol (f:=Hy v) (m:=cV v) (fun es id h hi=>Mk v es id h hi) ks es id h hi;split
  ·rename_i es' heq;rw [heq] at h2;have h4:=ckEs_grow ts es' id h2.1 (by have:=h2.2.1;simp only at this;omega);exact h2.trans h4
  ·rename_i es' heq;rw [heq] at h2;exact h2.mono (by omega)
end
theorem Rm:∀(ks:List Bs) (es:List Cs) (p:Nat),Kc es->p<es.length->
  Hg es (Ib ks es p).1 (ks.length-1)/\∀q k,(Ib ks es p).2=some (q,k)->q<(Ib ks es p).1.length
 | [],es,p,h,_=>⟨Hg.refl h _,fun q k hq=>by simp [Ib] at hq⟩
 | [k],es,p,h,hp=>⟨Hg.refl h _,fun q k hq=>by
   simp only [Ib,Yb,Prod.mk.injEq] at hq;obtain⟨rfl,rfl⟩:=hq;exact hp⟩
 | k::k2::ks,es,p,h,hp=>by
  simp only [Ib];split
  ·have h1:=Hg.snoc h (k:=3) (x:=false) (nm:=k) hp (by omega) (by omega);obtain⟨h2,h3⟩:=Rm (k2::ks) _ es.length h1.1 (by simp);exact⟨(h1.trans h2).mono (by simp only [Ya];omega),h3⟩
  ·rename_i i hi;split
   ·obtain⟨h2,h3⟩:=Rm (k2::ks) es i h (Ii hi);exact⟨h2.mono (by simp only [Ya];omega),h3⟩
   ·exact⟨Hg.refl h _,fun q k hq=>by simp at hq⟩
theorem Kc.set {es:List Cs} (h:Kc es) {i:Nat} {e e':Cs} (he:es[i]?=some e) (hp:e'.parent=e.parent) (hk:e'.kind=e.kind):Kc (es.set i e'):=by
 intro j a ha;by_cases b:i=j
 ·subst b;rw [List.getElem?_set_self (Yc.1 he).1] at ha;simp only [Yb] at ha;subst ha;rw [hp,hk];exact h i e he
 ·rw [List.getElem?_set_ne b] at ha;exact h j a ha
structure Ue (id:Nat) (es:List Cs) (i:Nat) (c:lJ):Prop where
 gone:c.gone.length=i
 remap:c.remap.length=i
 out:c.out.length<=i
 ord:Kc c.out
 keep:∀(j:Nat),c.gone[j]?=some false->∃m,c.remap[j]?=some m/\m<c.out.length
 low:∀(j:Nat),j<i->j<=id->c.gone[j]?=some false/\c.remap[j]?=some j/\c.out[j]?=es[j]?
 same:c.out.length=i->c.out=es.take i
theorem Ue.step {id:Nat} {es:List Cs} {i:Nat} {c:lJ} {e:Cs} (h:Ue id es i c) (hO:Kc es) (he:es[i]?=some e):Ue id es (i+1) (Fq id c e):=by
 obtain⟨o1,o2,o3,o4⟩:=hO i e he;have s:=(Yc.1 he).1;have hg:=h.gone;have hr:=h.remap;have ho:=h.out;unfold Fq;split
 ·rename_i hc;obtain⟨t,g⟩:=hc;refine⟨by simp [hg],by simp [hr],by simp only;omega,h.ord,fun j hj=>?_,fun j hj k=>?_,fun hs=>by simp only at hs;omega⟩
  ·by_cases d:j<c.gone.length
   ·rw [Yf d] at hj;obtain⟨m,h1,h2⟩:=h.keep j hj;exact⟨m,by rw [Yf (by omega)];exact h1,h2⟩
   ·rw [Yg (by omega)] at hj;cases hx:j-c.gone.length with
    | zero=>rw [hx] at hj;simp at hj
    | succ n=>rw [hx] at hj;simp at hj
  ·by_cases d:j<i
   ·obtain⟨h1,h2,h3⟩:=h.low j d k;exact⟨by rw [Yf (by omega)];exact h1,by rw [Yf (by omega)];exact h2,h3⟩
   ·exfalso;have l:j=i:=(by omega);subst l;rcases g with ⟨g,_⟩|g
    ·omega
    ·have hp:e.parent.toNat<j:=(by omega);have:=(h.low e.parent.toNat hp (by omega)).1;simp [List.getD_eq_getElem?_getD,this] at g
 ·rename_i hc;have o:e.parent≥0->c.gone[e.parent.toNat]?=some false:=fun h0=>by
   have hp:e.parent.toNat<c.gone.length:=(by omega);cases hx:c.gone[e.parent.toNat]? with
   | none=>rw [List.getElem?_eq_none_iff] at hx;omega
   | some b=>
    cases b with
    | false=>rfl
    | true=>exact absurd ⟨h0,.inr (by simp [List.getD_eq_getElem?_getD,hx])⟩ hc
  refine⟨by simp [hg],by simp [hr],by simp;omega,?_,fun j hj=>?_,fun j hj k=>?_,fun hs=>?_⟩
  ·intro j a ha;by_cases d:j<c.out.length
   ·rw [Yf d] at ha;exact h.ord j a ha
   ·have f:j=c.out.length:=by
     have:=(Yc.1 ha).1;simp at this;omega
    subst f;rw [Yg Y,Nat.sub_self] at ha;simp only [List.getElem?_cons_zero,Yb] at ha;subst ha;split
    ·rename_i hs;exact⟨by omega,by omega,o3,o4⟩
    ·rename_i hs;have h0:e.parent≥0:=by
      rcases o2 with o2|o2
      ·omega
      ·exact o2
     obtain⟨m,h1,h2⟩:=h.keep _ (o h0);simp only [List.getD_eq_getElem?_getD,h1,Option.getD_some];exact⟨by omega,.inr (by omega),o3,o4⟩
  ·by_cases d:j<c.gone.length
   ·rw [Yf d] at hj;obtain⟨m,h1,h2⟩:=h.keep j hj;exact⟨m,by rw [Yf (by omega)];exact h1,by simp;omega⟩
   ·have f:j=i:=by
     have:=(Yc.1 hj).1;simp at this;omega
    subst f;refine⟨c.out.length,?_,by simp⟩;rw [Yg (by omega),hr,Nat.sub_self];rfl
  ·have q:∀j,j<i->j<=id->c.out[j]?=es[j]?:=fun j a b=>(h.low j a b).2.2;by_cases d:j<i
   ·obtain⟨h1,h2,h3⟩:=h.low j d k;refine⟨by rw [Yf (by omega)];exact h1,by rw [Yf (by omega)];exact h2,?_⟩;have:j<c.out.length:=by
     have h5:es[j]?=some es[j]:=Yd (by omega);rw [h5] at h3;exact (Yc.1 h3).1
    rw [Yf this];exact h3
   ·have f:j=i:=(by omega);subst f;have p:c.out.length=j:=by
     rcases Nat.lt_or_ge c.out.length j with h5|h5
     ·exfalso;have h6:=q c.out.length h5 (by omega);rw [List.getElem?_eq_none Y,Yd (by omega)] at h6;cases h6
     ·omega
    refine⟨by rw [Yg (by omega),hg,Nat.sub_self];rfl,?_,?_⟩
    ·rw [Yg (by omega),hr,Nat.sub_self,p];rfl
    ·rw [Yg (by omega),p,Nat.sub_self,hg,if_pos rfl,he];rfl
  ·simp only [Ye,List.length_singleton] at hs;have r:c.out.length=i:=(by omega);rw [if_pos (by omega),h.same r,List.take_add_one,he];rfl
theorem nH (id:Nat) (es:List Cs) (hO:Kc es):∀(l:List Cs) (i:Nat) (c:lJ),es.drop i=l->i<=es.length->Ue id es i c->Ue id es es.length (l.foldl (Fq id) c)
 | [],i,c,hl,hi,h=>by
  have:i=es.length:=by
   have:=List.drop_eq_nil_iff.1 hl;omega
  subst this;exact h
 | e::l,i,c,hl,hi,h=>by
  have he:es[i]?=some e:=by
   have:=congrArg (fun l=>l[0]?) hl;simpa using this
  have a:es.drop (i+1)=l:=by
   have:=congrArg (fun l=>l.drop 1) hl;simpa using this
  exact nH id es hO l (i+1) _ a (by have:=(Yc.1 he).1;omega) (h.step hO he)
theorem Wo (id:Nat) (es:List Cs):Ue id es 0 ⟨[],[],[]⟩:=
 ⟨rfl,rfl,Nat.le_refl _,fun i e h=>by simp at h,fun j h=>by simp at h,fun j h=>by omega,fun _=>by simp⟩
theorem bO (id:Nat) (es:List Cs) (hO:Kc es) (a:id<es.length):Kc (Lq id es)/\(Lq id es).length<=es.length/\id<(Lq id es).length:=by
 have h:=nH id es hO es 0 ⟨[],[],[]⟩ rfl O (Wo id es);refine⟨h.ord,h.out,?_⟩;have h1:=(h.low id a Y).2.2;rw [Yd a] at h1;exact (Yc.1 h1).1
def TOk (t:Ju):Prop:=Kc t.ents/\t.cur<t.ents.length
theorem ckX_ok {t:Ju} (h:TOk t) (x:Ex):TOk (Ql t x).1/\(Ql t x).1.ents.length<=t.ents.length+cX x:=by
 obtain⟨hO,hc⟩:=h;have h0:0<t.ents.length:=by omega
 cases x with
 | kv ks v=>
  have h2:=Ol (f:=Hy v) (m:=cV v) (fun es id h hi=>Mk v es id h hi) ks t.ents t.cur hO hc;simp only [Ql,cX];exact⟨⟨h2.1,by have:=h2.2.1;simp only;omega⟩,h2.2.2⟩
 | tab ks=>
  obtain⟨h1,h2⟩:=Rm ks t.ents 0 hO h0;simp only [Ql,cX];split
  ·rename_i es a;rw [a] at h1;exact⟨⟨h1.1,by have:=h1.2.1;simp only at this ⊢;omega⟩,by have:=h1.2.2;simp only at this ⊢;omega⟩
  ·rename_i es p k a;have g:1<=ks.length:=by
    cases ks with
    | nil=>simp [Ib] at a
    | cons=>simp
   have hp:=h2 p k (by rw [a]);rw [a] at h1 hp;have b:=h1.2.1;have c:=h1.2.2;simp only at hp b c;split
   ·have h3:=Hg.snoc h1.1 (k:=3) (x:=true) (nm:=k) hp (by omega) (by omega);exact⟨⟨h3.1,by simp⟩,by simp;omega⟩
   ·rename_i i hi;have d:=Ii hi;split
    ·rename_i e he;split
     ·exact⟨⟨Kc.set h1.1 he Z Z,by simp;omega⟩,by simp;omega⟩
     ·exact⟨⟨h1.1,by simp only;omega⟩,by simp only;omega⟩
    ·exact⟨⟨h1.1,by simp only;omega⟩,by simp only;omega⟩
 | atab ks=>
  obtain⟨h1,h2⟩:=Rm ks t.ents 0 hO h0;simp only [Ql,cX];split
  ·rename_i es a;rw [a] at h1;exact⟨⟨h1.1,by have:=h1.2.1;simp only at this ⊢;omega⟩,by have:=h1.2.2;simp only at this ⊢;omega⟩
  ·rename_i es p k a;have g:1<=ks.length:=by
    cases ks with
    | nil=>simp [Ib] at a
    | cons=>simp
   have hp:=h2 p k (by rw [a]);rw [a] at h1 hp;have b:=h1.2.1;have c:=h1.2.2;simp only at hp b c;split
   ·have h3:=Hg.snoc h1.1 (k:=4) (x:=true) (nm:=k) hp (by omega) (by omega);exact⟨⟨h3.1,by simp⟩,by simp;omega⟩
   ·rename_i i hi;have d:=Ii hi;split
    ·obtain⟨h3,h4,h5⟩:=bO i es h1.1 d;exact⟨⟨h3,h5⟩,by simp only;omega⟩
    ·exact⟨⟨h1.1,by simp only;omega⟩,by simp only;omega⟩
def gO (t:Ju):Prop:=t=⟨[],0⟩∨TOk t
theorem eL {t:Ju} (h:gO t):TOk t.begun/\t.begun.ents.length<=t.ents.length+1:=by
 rcases h with rfl|h
 ·refine⟨⟨fun i e he=>?_,by simp [Ju.begun]⟩,by simp [Ju.begun]⟩;simp only [Ju.begun,List.isEmpty_nil,if_true] at he;cases i with
  | zero=>
   simp only [List.getElem?_cons_zero,Yb] at he;subst he;exact⟨by simp only;omega,.inl rfl,by simp,by simp⟩
  | succ i=>simp at he
 ·have:t.ents.isEmpty=false:=by
   cases hx:t.ents with
   | nil=>have:=h.2;rw [hx] at this;simp at this
   | cons=>rfl
  simp only [Ju.begun,this,Bool.false_eq_true,if_false];exact⟨h,by omega⟩
theorem eM {t:Ju} (h:TOk t):t.begun=t:=by
 have:t.ents.isEmpty=false:=by
  cases hx:t.ents with
  | nil=>have:=h.2;rw [hx] at this;simp at this
  | cons=>rfl
 simp [Ju.begun,this]
end
section
def BL (s:Bs):Prop:=∀c∈s,Ji c=true
theorem BL.nil:BL []:=fun c h=>by simp at h
theorem Gz:∀(s t:Bs),BL s->Bd (s++t)=Bd t
 | [],_,_=>rfl
 | c::s,t,h=>by
  have hc:=h c (by simp);simp only [List.cons_append,Bd,hc,if_true];exact Gz s t (fun c hc=>h c (by simp [hc]))
theorem Dl {c:UInt8} {t:Bs} (h:Ji c=false):Bd (c::t)=c::t:=by simp [Bd,h]
def lH (s:Bs):Prop:=s=[10]∨s=[13,10]
def CmS (s:Bs):Prop:=s=[]∨∃t,s=35::t/\∀c∈t,Gj c=true
def Hw (s:Bs):Prop:=∃a c n,s=a++(c++n)/\BL a/\CmS c/\lH n
theorem Cm.plainS {n:Bs} (hn:lH n) (r:Bs):∀(t:Bs),(∀c∈t,Gj c=true)->Cm (t++(n++r)) (n++r)
 | [],_=>by
  rcases hn with rfl|rfl
  ·exact Cm.lf r
  ·exact Cm.crlf r
 | c::t,h=>by
  refine Cm.sign 1 ?_ (by omega) ?_
  ·simp [Dm,h c (by simp)]
  ·simpa using Cm.plainS hn r t (fun c hc=>h c (by simp [hc]))
theorem lH.nl {n:Bs} (hn:lH n) (r:Bs):Nl (n++r) r:=by
 rcases hn with rfl|rfl
 ·exact Nl.lf r
 ·exact Nl.crlf r
theorem lH.head {n:Bs} (hn:lH n):∃c t,n=c::t/\(c=10∨c=13):=by
 rcases hn with rfl|rfl
 ·exact⟨_,_,rfl,.inl rfl⟩
 ·exact⟨_,_,rfl,.inr rfl⟩
theorem Hw.cut {s:Bs} (h:Hw s) (r:Bs):∃c n,Bd (s++r)=c++(n++r)/\CmS c/\lH n:=by
 obtain⟨a,c,n,rfl,ha,hc,hn⟩:=h;refine⟨c,n,?_,hc,hn⟩;rw [List.append_assoc,Gz _ _ ha,List.append_assoc];rcases hc with rfl|⟨t,rfl,_⟩
 ·obtain⟨x,y,rfl,hx⟩:=hn.head;simp only [List.nil_append,List.cons_append];exact Dl (by rcases hx with rfl|rfl<;>decide)
 ·simp only [List.cons_append];exact Dl (by decide)
theorem Hw.eol {s:Bs} (h:Hw s) (r:Bs):eX (Bd (s++r)) r/\Bd (s++r)≠[]:=by
 obtain⟨c,n,h1,hc,hn⟩:=h.cut r;rw [h1];rcases hc with rfl|⟨t,rfl,ht⟩
 ·refine⟨eX.nl (hn.nl r),?_⟩;obtain⟨x,y,rfl,hx⟩:=hn.head;simp
 ·refine⟨?_,by simp⟩;have h2:=Cm.plainS hn r (35::t) (fun c hc=>by
   rcases List.mem_cons.1 hc with rfl|hc
   ·decide
   ·exact ht c hc)
  exact eX.cm (by simpa using h2) (hn.nl r)
theorem Hw.fol {s:Bs} (h:Hw s) (r:Bs):Ic (s++r):=by
 refine Ic.of_skip ?_;obtain⟨c,n,h1,hc,hn⟩:=h.cut r;rw [h1];rcases hc with rfl|⟨t,rfl,ht⟩
 ·obtain⟨x,y,rfl,hx⟩:=hn.head;exact Ic.of_cons (by rcases hx with rfl|rfl<;>decide)
 ·exact Ic.of_cons (by decide)
def Xh (s:Bs):Prop:=BL s∨∃e b,s=e++b/\Hw e/\BL b
theorem VA.ws {d:Nat} {a:Bool} {b r:Bs} {vs:List Bz} (s:Bs) (hs:BL s) (h:VA d a b vs r):VA d a (s++b) vs r:=by
 have e:=Gz s b hs;cases h with
 | close h=>exact .close (by rw [e];exact h)
 | lf h h2=>exact .lf (by rw [e];exact h) h2
 | crlf h h2=>exact .crlf (by rw [e];exact h) h2
 | cm h h2 h3=>exact .cm (by rw [e];exact h) h2 h3
 | comma h h2=>exact .comma (by rw [e];exact h) h2
 | val h h2 h3 h4=>exact .val (by rw [e];exact h) h2 h3 h4
theorem Ks.ws {b r:Bs} {ks:List Bs} (s:Bs) (hs:BL s) (h:Ks b ks r):Ks (s++b) ks r:=by
 have e:=Gz s b hs;cases h with
 | one h1 h2=>exact Ks.one (by rw [e];exact h1) h2
 | dot h1 h2 h3=>exact Ks.dot (by rw [e];exact h1) h2 h3
theorem VT.ws {d:Nat} {a:Bool} {b r:Bs} {vs:List (List Bs×Bz)} (s:Bs) (hs:BL s) (h:VT d a b vs r):VT d a (s++b) vs r:=by
 have e:=Gz s b hs;cases h with
 | close h=>exact .close (by rw [e];exact h)
 | comma h h2=>exact .comma (by rw [e];exact h) h2
 | ent h h2 h3=>
  exact .ent (h.ws s hs) h2 h3
theorem VA.nl {d:Nat} {a:Bool} {b r:Bs} {vs:List Bz} {n:Bs} (hn:lH n) (h:VA d a b vs r):VA d a (n++b) vs r:=by
 rcases hn with rfl|rfl
 ·exact .lf (Dl (by decide)) h
 ·exact .crlf (Dl (by decide)) h
theorem VA.gap {d:Nat} {a:Bool} {b r:Bs} {vs:List Bz} (s:Bs) (hs:Xh s) (h:VA d a b vs r):VA d a (s++b) vs r:=by
 rcases hs with hs|⟨e,bl,rfl,he,hb⟩
 ·exact h.ws s hs
 ·have h1:=h.ws bl hb;rw [List.append_assoc];generalize bl++b=t at h1;obtain⟨c,n,h2,hc,hn⟩:=he.cut t;rcases hc with rfl|⟨u,rfl,hu⟩
  ·rcases hn with rfl|rfl
   ·exact .lf h2 h1
   ·exact .crlf h2 h1
  ·have h3:=Cm.plainS hn t (35::u) (fun c hc=>by
    rcases List.mem_cons.1 hc with rfl|hc
    ·decide
    ·exact hu c hc)
   exact .cm (by rw [h2];rfl) (by simpa using h3) (h1.nl hn)
theorem VA.fol {d:Nat} {b r:Bs} {vs:List Bz} (h:VA d true b vs r):Ic b:=by
 refine Ic.of_skip ?_;cases h with
 | close h=>rw [h];exact Ic.of_cons (by decide)
 | lf h h2=>rw [h];exact Ic.of_cons (by decide)
 | crlf h h2=>rw [h];exact Ic.of_cons (by decide)
 | cm h h2 h3=>rw [h];exact Ic.of_cons (by decide)
 | comma h h2=>rw [h];exact Ic.of_cons (by decide)
theorem VT.fol {d:Nat} {b r:Bs} {vs:List (List Bs×Bz)} (h:VT d true b vs r):Ic b:=by
 refine Ic.of_skip ?_;cases h with
 | close h=>rw [h];exact Ic.of_cons (by decide)
 | comma h h2=>rw [h];exact Ic.of_cons (by decide)
mutual
def Ux:Bz->Nat
 | .sc _ _=>0
 | .arr vs=>Pl vs+1
 | .tbl es=>Pm es+1
def Pl:List Bz->Nat
 | []=>0
 | v::vs=>max (Ux v) (Pl vs)
def Pm:List (List Bs×Bz)->Nat
 | []=>0
 | (_,v)::es=>max (Ux v) (Pm es)
end
def Mp (ks:List Bs) (s:Bs):Prop:=(∃c t,s=c::t/\Ji c=false/\c.toNat≠91)/\∀(b:Bs) (c:UInt8) (r:Bs),BL b->c=61∨c=93->Ks (s++(b++c::r)) ks (c::r)
def VS (v:Bz) (s:Bs):Prop:=(∃c t,s=c::t/\(c=55∨c=91∨c=123))/\∀(d:Nat) (r:Bs),d+Ux v<=60->Ic r->VV d (s++r) v r
theorem VS.skip {v:Bz} {s:Bs} (h:VS v s) (r:Bs):Bd (s++r)=s++r:=by
 obtain⟨⟨c,t,rfl,hc⟩,_⟩:=h;exact Dl (by rcases hc with rfl|rfl|rfl<;>decide)
theorem VS.seven:VS (.sc 1 [55]) [55]:=⟨⟨55,[],rfl,.inl rfl⟩,fun d r hd hr=>.seven (by simp [Ux] at hd;omega) hr⟩
def Sb (vs:List Bz) (out:Bs):Prop:=∀(d:Nat) (t r:Bs) (us:List Bz),d+Pl vs<=60->VA d (!vs.isEmpty) t us r->VA d false (out++t) (vs++us) r
theorem Sb.nil:Sb [] []:=fun _ _ _ _ _ h=>h
theorem eD:∀(a b:List Bz),Pl (a++b)=max (Pl a) (Pl b)
 | [],b=>by simp [Pl]
 | v::a,b=>by simp only [List.cons_append,Pl,eD a b];omega
theorem eE:∀(a b:List (List Bs×Bz)),Pm (a++b)=max (Pm a) (Pm b)
 | [],b=>by simp [Pm]
 | (k,v)::a,b=>by simp only [List.cons_append,Pm,eE a b];omega
theorem VA.value {d:Nat} {r t:Bs} {v:Bz} {us:List Bz} {g1 s g2:Bs} (a:Xh g1) (hs:VS v s) (b:Xh g2) (hd:d+Ux v<=60) (h:VA d true t us r):VA d false (g1++(s++(g2++t))) (v::us) r:=by
 have h1:=h.gap g2 b;refine VA.gap g1 a ?_;have h2:=hs.2 d _ hd h1.fol;have h3:=hs.skip (g2++t);obtain⟨⟨c,u,rfl,hc⟩,_⟩:=hs;exact .val h3 (by rcases hc with rfl|rfl|rfl<;>decide) h2 h1
theorem Sb.first {v:Bz} {g1 s g2:Bs} (a:Xh g1) (hs:VS v s) (b:Xh g2):Sb [v] (g1++s++g2):=fun d t r us hd h=>by
 have:=VA.value a hs b (by simp [Pl] at hd;omega) h;simpa using this
theorem Sb.more {vs:List Bz} {out:Bs} (ha:Sb vs out) (c:vs≠[]) {v:Bz} {g1 s g2:Bs} (a:Xh g1) (hs:VS v s) (b:Xh g2):Sb (vs++[v]) (out++[44]++(g1++s++g2)):=fun d t r us hd h=>by
 rw [eD] at hd;have e1:(!(vs++[v]).isEmpty)=true:=by simp
 rw [e1] at h;have h1:=VA.value a hs b (by simp [Pl] at hd;omega) h;have h2:VA d true (44::(g1++(s++(g2++t)))) (v::us) r:=.comma (Dl (by decide)) h1;have e2:(!vs.isEmpty)=true:=by cases vs<;>simp_all
 have h3:=ha d _ r (v::us) (by omega) (by rw [e2];exact h2);simpa using h3
theorem Sb.close {vs:List Bz} {out g c:Bs} (ha:Sb vs out) (hc:c=[]∨(c=[44]/\vs≠[])) (hg:Xh g):VS (.arr vs) (91::(out++c++(g++[93]))):=by
 refine⟨⟨91,_,rfl,.inr (.inl rfl)⟩,fun d r hd hr=>?_⟩;simp only [Ux] at hd;have h0:∀a,VA (d+1) a (g++93::r) [] r:=fun a=>VA.gap g hg (.close (Dl (by decide)));have h1:VA (d+1) (!vs.isEmpty) (c++(g++93::r)) [] r:=by
  rcases hc with rfl|⟨rfl,b⟩
  ·exact h0 _
  ·have e2:(!vs.isEmpty)=true:=(by cases vs<;>simp_all);rw [e2];exact .comma (Dl (by decide)) (h0 _)
 have h2:=ha (d+1) _ r [] (by omega) h1;refine .arr (by omega) ?_;simpa using h2
def Rz (es:List (List Bs×Bz)) (out:Bs):Prop:=∀(d:Nat) (t r:Bs) (us:List (List Bs×Bz)),d+Pm es<=60->VT d (!es.isEmpty) t us r->VT d false (out++t) (es++us) r
theorem Rz.nil {b:Bs} (hb:BL b):Rz [] b:=fun _ _ _ _ _ h=>h.ws b hb
theorem VT.entry {d:Nat} {r t k b1 b2 s b3:Bs} {ks:List Bs} {v:Bz} {us:List (List Bs×Bz)} (hk:Mp ks k) (a:BL b1) (b:BL b2) (hs:VS v s) (c:BL b3) (hd:d+Ux v<=60) (h:VT d true t us r):
  VT d false (k++(b1++61::(b2++(s++(b3++t))))) ((ks,v)::us) r:=by
 have h1:=h.ws b3 c;refine .ent (hk.2 b1 61 _ a (.inl rfl)) ?_ h1;rw [Gz _ _ b,hs.skip];exact hs.2 d _ hd h1.fol
theorem Rz.first {b0 k b1 b2 s b3:Bs} {ks:List Bs} {v:Bz} (a:BL b0) (hk:Mp ks k) (b:BL b1) (c:BL b2) (hs:VS v s) (e:BL b3):Rz [(ks,v)] (b0++(k++b1++[61]++b2++s++b3)):=fun d t r us hd h=>by
 have:=(VT.entry hk b c hs e (by simp [Pm] at hd;omega) h).ws b0 a;simpa using this
theorem Rz.more {es:List (List Bs×Bz)} {out:Bs} (ha:Rz es out) (f:es≠[]) {b0 k b1 b2 s b3:Bs} {ks:List Bs} {v:Bz} (a:BL b0) (hk:Mp ks k) (b:BL b1) (c:BL b2) (hs:VS v s) (e:BL b3):
  Rz (es++[(ks,v)]) (out++([44]++b0)++(k++b1++[61]++b2++s++b3)):=fun d t r us hd h=>by
 rw [eE] at hd;have e1:(!(es++[(ks,v)]).isEmpty)=true:=by simp
 rw [e1] at h;have h1:=(VT.entry hk b c hs e (by simp [Pm] at hd;omega) h).ws b0 a;have h2:=VT.comma (Dl (by decide):Bd (44::_)=_) h1;have e2:(!es.isEmpty)=true:=by cases es<;>simp_all
 have h3:=ha d _ r ((ks,v)::us) (by omega) (by rw [e2];exact h2);simpa using h3
theorem Rz.close {es:List (List Bs×Bz)} {out:Bs} (ha:Rz es out):VS (.tbl es) (123::(out++[125])):=by
 refine⟨⟨123,_,rfl,.inr (.inr rfl)⟩,fun d r hd hr=>?_⟩;simp only [Ux] at hd;have h2:=ha (d+1) (125::r) r [] (by omega) (.close (Dl (by decide)));refine .tbl (by omega) ?_;simpa using h2
def Sa (es:List Ex) (out:Bs):Prop:=∀(t:Bs) (us:List Ex),Lr t us->Lr (out++t) (es++us)
theorem Sa.nil:Sa [] []:=fun _ _ h=>h
theorem Sa.done {es:List Ex} {out:Bs} (h:Sa es out):Lr out es:=by simpa using h [] [] (.done rfl)
theorem Sa.blank {es:List Ex} {out s:Bs} (h:Sa es out) (hs:Hw s):Sa es (out++s):=fun t us ht=>by
 obtain⟨h1,h2⟩:=hs.eol t;have:=h _ _ (.blank h2 h1 ht);simpa using this
theorem Sa.expr {es:List Ex} {out b0 s e:Bs} {x:Ex} (h:Sa es out) (hb:BL b0) (hc:∃c t,s=c::t/\Ji c=false) (hx:∀r,Ic r->EX (s++r) x r) (he:Hw e):Sa (es++[x]) (out++(b0++s++e)):=fun t us ht=>by
 obtain⟨h1,h2⟩:=he.eol t;have h3:=hx (e++t) (he.fol t);obtain⟨c,u,rfl,hc⟩:=hc;have h4:Bd (b0++(c::u++(e++t)))=c::(u++(e++t)):=by
  rw [Gz _ _ hb];exact Dl hc
 have:=h _ _ (.expr h4 h3 h1 ht);simpa using this
def XS (x:Ex) (s:Bs):Prop:=(∃c t,s=c::t/\Ji c=false)/\∀r,Ic r->EX (s++r) x r
theorem XS.tab {b1 k b2:Bs} {ks:List Bs} (h1:BL b1) (hk:Mp ks k) (h2:BL b2):XS (.tab ks) (91::(b1++k++b2++[93])):=by
 refine⟨⟨91,_,rfl,by decide⟩,fun r _=>?_⟩;have h:=Ks.ws b1 h1 (hk.2 b2 93 r h2 (.inr rfl));have:EX (91::(b1++(k++(b2++93::r)))) (.tab ks) r:=by
  refine .tab ?_ h;cases b1 with
  | nil=>
   obtain⟨⟨c,t,rfl,_,hc⟩,_⟩:=hk;intro hh;simp only [List.nil_append,List.cons_append,List.head?_cons,Yb] at hh;subst hh;exact hc rfl
  | cons c t=>
   have:=h1 c (by simp);intro hh;simp only [List.cons_append,List.head?_cons,Yb] at hh;subst hh;exact absurd this (by decide)
 simpa using this
theorem XS.atab {b1 k b2:Bs} {ks:List Bs} (h1:BL b1) (hk:Mp ks k) (h2:BL b2):XS (.atab ks) (91::91::(b1++k++b2++[93,93])):=by
 refine⟨⟨91,_,rfl,by decide⟩,fun r _=>?_⟩;have h:=Ks.ws b1 h1 (hk.2 b2 93 (93::r) h2 (.inr rfl));have:EX (91::91::(b1++(k++(b2++93::93::r)))) (.atab ks) r:=.atab h;simpa using this
theorem XS.kv {k b1 b2 s:Bs} {ks:List Bs} {v:Bz} (hk:Mp ks k) (h1:BL b1) (h2:BL b2) (hs:VS v s) (hd:Ux v<=60):XS (.kv ks v) (k++b1++[61]++b2++s):=by
 obtain⟨⟨c,t,rfl,hc,b⟩,a⟩:=hk;refine⟨⟨c,_,rfl,hc⟩,fun r hr=>?_⟩;have h:=a b1 61 (b2++(s++r)) h1 (.inl rfl);have:EX (c::(t++(b1++61::(b2++(s++r))))) (.kv ks v) r:=by
  refine .kv h ?_;rw [Gz _ _ h2,hs.skip];exact hs.2 0 r (by omega) hr
 simpa using this
def Js (k s:Bs):Prop:=(∃c t,s=c::t/\Ji c=false/\c.toNat≠91)/\∀(r:Bs),(∀c,r.head?=some c->Er c=false)->KP (s++r) k r
def Vb (k:Bs):Prop:=∀c∈k,97<=c.toNat/\c.toNat<=122
theorem Js.bare {k:Bs} (h:Vb k) (h0:k≠[]):Js k k:=by
 refine⟨?_,fun r hr=>KP.bare h0 (fun c hc=>?_) hr⟩
 ·cases k with
  | nil=>exact absurd rfl h0
  | cons c t=>
   have:=h c (by simp);exact⟨c,t,rfl,by simp [Ji];omega,by omega⟩
 ·have:=h c hc;simp only [Er,decide_eq_true_eq];omega
theorem Gn.low:∀(k r:Bs),Vb k->Gn (k++39::r) k r
 | [],r,_=>.close r
 | c::k,r,h=>by
  have hc:=h c (by simp);have ih:=Gn.low k r (fun c hc=>h c (by simp [hc]));have h1:Dm (c::k++39::r)=1:=by
   simp only [List.cons_append,Dm];rw [if_pos];simp only [Gj,decide_eq_true_eq];omega
  have:=Gn.sign (b:=c::k++39::r) (out:=k) (r:=r) 1 (by
   intro hh;simp only [List.cons_append,List.head?_cons,Yb] at hh;subst hh;exact absurd hc (by decide)) h1 (by omega) (by simpa using ih)
  simpa using this
theorem Js.lit {k:Bs} (h:Vb k):Js k (39::(k++[39])):=
 ⟨⟨39,_,rfl,by decide,by decide⟩,fun r _=>by
  have:=Gn.low k r h;have h2:=KP.lit this;simpa using h2⟩
def EscS (c:UInt8) (s:Bs):Prop:=s=[c]∨∃ds:Bs,(s=92::117::ds/\ds.length=4∨s=92::85::ds/\ds.length=8)/\(∀x∈ds,Fb x<16)/\Ja ds=c.toNat
inductive Ry:Bs->Bs->Prop
 | nil:Ry [] []
 | cons {c:UInt8} {k e s:Bs}:EscS c e->Ry k s->Ry (c::k) (e++s)
theorem Ry.snoc {k s e:Bs} {c:UInt8} (h:Ry k s) (he:EscS c e):Ry (k++[c]) (s++e):=by
 induction h with
 | nil=>simpa using Ry.cons he .nil
 | cons h1 h2 ih=>
  have:=Ry.cons h1 ih;simpa using this
theorem lL {c:UInt8} (h:c.toNat<128):Ey c.toNat=[c]:=by
 unfold Ey;rw [if_pos h];congr 1;exact UInt8.toNat_inj.1 (by simp)
theorem Fn.low:∀{k s:Bs} (r:Bs),Vb k->Ry k s->Fn (s++34::r) k r:=by
 intro k s r hl h
 induction h with
 | nil=>exact .close r
 | @cons c k e s h1 h2 ih=>
  have hc:=hl c (by simp);have ih:=ih (fun c hc=>hl c (by simp [hc]));rcases h1 with rfl|⟨ds,h3,h4,h5⟩
  ·have h6:Dm (c::(s++34::r))=1:=by
    simp only [Dm];rw [if_pos];simp only [Gj,decide_eq_true_eq];omega
   have:=Fn.sign (b:=c::(s++34::r)) (out:=k) (r:=r) 1 (by
    intro hh;simp only [List.head?_cons,Yb] at hh;subst hh;exact absurd hc (by decide)) (by
    intro hh;simp only [List.head?_cons,Yb] at hh;subst hh;exact absurd hc (by decide)) h6 (by omega) (by simpa using ih)
   simpa using this
  ·have d:Jh (Ja ds):=(by rw [h5];unfold Jh;omega);have hu:Ey (Ja ds)=[c]:=(by rw [h5];exact lL (by omega));rcases h3 with ⟨rfl,a⟩|⟨rfl,a⟩
   ·have:=Fn.esc (Vc.u (r:=s++34::r) a h4 d) ih;rw [hu] at this;simpa using this
   ·have:=Fn.esc (Vc.U (r:=s++34::r) a h4 d) ih;rw [hu] at this;simpa using this
theorem Js.bas {k s:Bs} (h:Vb k) (hb:Ry k s):Js k (34::(s++[34])):=
 ⟨⟨34,_,rfl,by decide,by decide⟩,fun r _=>by
  have:=Fn.low r h hb;have h2:=KP.bas this;simpa using h2⟩
theorem iG {b:Bs} {c:UInt8} {r:Bs} (hb:BL b) (hc:Er c=false):∀x,(b++c::r).head?=some x->Er x=false:=by
 intro x hx;cases b with
 | nil=>
  simp only [List.nil_append,List.head?_cons,Yb] at hx;subst hx;exact hc
 | cons y b=>
  simp only [List.cons_append,List.head?_cons,Yb] at hx;subst hx;have:=hb y (by simp);have h2:y.toNat=32∨y.toNat=9:=(by simpa [Ji] using this);simp only [Er,decide_eq_false_iff_not];omega
theorem Mp.one {k s:Bs} (h:Js k s):Mp [k] s:=by
 obtain⟨h1,h2⟩:=h;refine⟨h1,fun b c r hb hc=>?_⟩;have a:Ji c=false:=by rcases hc with rfl|rfl<;>decide
 have h3:=h2 (b++c::r) (iG hb (by rcases hc with rfl|rfl<;>decide));have h4:Bd (b++c::r)=c::r:=by rw [Gz _ _ hb];exact Dl a
 obtain⟨x,t,rfl,hx,_⟩:=h1;have h5:=Ks.one (b:=x::t++(b++c::r)) (by rw [List.cons_append,Dl hx];exact h3) (by rw [h4];rcases hc with rfl|rfl<;>simp);rw [h4] at h5;exact h5
theorem Mp.cons {k s b1 b2 t:Bs} {ks:List Bs} (h:Js k s) (a:BL b1) (d:BL b2) (hk:Mp ks t):Mp (k::ks) (s++(b1++46::(b2++t))):=by
 obtain⟨h1,h2⟩:=h;refine⟨?_,fun b c r hb hc=>?_⟩
 ·obtain⟨x,t,rfl,hx⟩:=h1;exact⟨x,_,rfl,hx⟩
 ·have h3:=Ks.ws b2 d (hk.2 b c r hb hc);have h4:=h2 (b1++46::(b2++(t++(b++c::r)))) (iG a (by decide));have h5:Bd (b1++46::(b2++(t++(b++c::r))))=46::(b2++(t++(b++c::r))):=(by rw [Gz _ _ a];exact Dl (by decide));obtain⟨x,u,rfl,hx,_⟩:=h1;have h6:=Ks.dot (b:=x::u++(b1++46::(b2++(t++(b++c::r))))) (by rw [List.cons_append,Dl hx];exact h4) h5 h3;simpa using h6
def gR (ks:List Bs) (out:Bs):Prop:=∀(us:List Bs) (t:Bs),Mp us t->Mp (ks++us) (out++t)
theorem gR.nil:gR [] []:=fun _ _ h=>h
theorem gR.snoc {ks:List Bs} {out k s b1 b2:Bs} (h:gR ks out) (hp:Js k s) (a:BL b1) (b:BL b2):gR (ks++[k]) (out++s++(b1++[46]++b2)):=fun us t ht=>by
 have:=h _ _ (Mp.cons hp a b ht);simpa using this
def Xv (ks:List Bs) (out:Bs):Prop:=(ks=[]/\out=[])∨∃ks' k o s,ks=ks'++[k]/\out=o++s/\gR ks' o/\Js k s
theorem Xv.key {ks:List Bs} {out:Bs} (h:Xv ks out) (h0:ks≠[]):Mp ks out:=by
 rcases h with ⟨h1,_⟩|⟨ks',k,o,s,rfl,rfl,h1,h2⟩
 ·exact absurd h1 h0
 ·exact h1 _ _ (Mp.one h2)
theorem Xv.first {k s:Bs} (h:Js k s):Xv [k] s:=.inr ⟨[],k,[],s,rfl,rfl,gR.nil,h⟩
theorem Xv.more {ks:List Bs} {out k s b1 b2:Bs} (h:Xv ks out) (h0:ks≠[]) (a:BL b1) (b:BL b2) (hp:Js k s):Xv (ks++[k]) (out++(b1++[46]++b2)++s):=by
 rcases h with ⟨h1,_⟩|⟨ks',k',o,s',rfl,rfl,h1,h2⟩
 ·exact absurd h1 h0
 ·exact .inr ⟨ks'++[k'],k,_,s,rfl,rfl,h1.snoc h2 a b,hp⟩
end
section
noncomputable abbrev PP:Program:=Tryz.prog
abbrev Env:=List (Nat×Value)
def Ln:Env->Nat->Option Value
 | [],_=>none
 | (s,v)::L,t=>cond (Nat.beq s t) (some v) (Ln L t)
def ev (L:Env):Operand->Option Value
 | .tmp t=>Ln L t
 | .const v=>some v
 | .global g=>some (.pointer (F g))
 | .func f=>some (.func (.func f) #[] #[])
def evs (L:Env):List Operand->Option (List Value)
 | []=>some []
 | x::xs=>match ev L x with
  | some v=>match evs L xs with
   | some vs=>some (v::vs)
   | none=>none
  | none=>none
structure Fr (N:Nat) (L:Env) (a:Act):Prop where
 size:a.tmps.size=N
 defers:a.defers=[]
 get:∀t v,Ln L t=some v->a.tmps[t]?=some v
theorem Fr.getD {N L a t v} (h:Fr N L a) (hl:Ln L t=some v):a.tmps.getD t undef=v:=by
 have:=h.get t v hl;rw [Array.getD_eq_getD_getElem?,this];rfl
theorem Fr.eval {N L a x v} (h:Fr N L a) (hl:ev L x=some v):a.eval x=v:=by
 cases x with
 | tmp t=>exact h.getD hl
 | const c=>simpa [ev,Act.eval] using hl
 | global g=>simpa [ev,Act.eval] using hl
 | func f=>simpa [ev,Act.eval] using hl
theorem Fr.evals {N L a} (h:Fr N L a):∀{xs:List Operand} {vs:List Value},evs L xs=some vs->xs.map a.eval=vs
 | [],vs,he=>by simp [evs] at he;simp [he]
 | x::xs,vs,he=>by
  simp only [evs] at he;cases h1:ev L x with
  | none=>simp [h1] at he
  | some v=>
   cases h2:evs L xs with
   | none=>simp [h1,h2] at he
   | some us=>
    simp only [h1,h2,Yb] at he;subst he;simp [h.eval h1,h.evals h2]
theorem Fr.put {N L a d v} (h:Fr N L a) (hd:Nat.blt d N=true):Fr N ((d,v)::L) (a.put (some d) v):=by
 have b:d<N:=by simpa [Nat.blt_eq] using hd
 refine⟨by simp [Act.put,h.size],h.defers,fun t u hu=>?_⟩;simp only [Ln] at hu;cases hb:Nat.beq d t with
 | true=>
  have:d=t:=(by simpa using hb);subst this;simp only [hb,cond_true,Yb] at hu;subst hu;simp [Act.put,h.size,b]
 | false=>
  have c:d≠t:=(by intro e;subst e;simp at hb);simp only [hb,cond_false] at hu;simp only [Act.put];rw [Array.getElem?_setIfInBounds_ne c];exact h.get t u hu
def Px:Env->Env->Prop
 | [],_=>True
 | (s,v)::L',L=>Ln L s=some v/\Px L' L
theorem Px.look:∀{L' L:Env},Px L' L->∀t v,Go.Proofs.YtaccphdkapmdhaaGreat.Ln L' t=some v->Go.Proofs.YtaccphdkapmdhaaGreat.Ln L t=some v
 | [],_,_,t,v,h=>by simp [Go.Proofs.YtaccphdkapmdhaaGreat.Ln] at h
 | (s,u)::L',L,ha,t,v,h=>by
  simp only [Go.Proofs.YtaccphdkapmdhaaGreat.Ln] at h;cases hb:Nat.beq s t with
  | true=>
   have:s=t:=(by simpa using hb);simp only [hb,cond_true,Yb] at h;rw [<-this,<-h];exact ha.1
  | false=>
   simp only [hb,cond_false] at h;exact ha.2.look t v h
theorem Fr.weaken {N L L' a} (h:Fr N L a) (ha:Px L' L):Fr N L' a:=
 ⟨h.size,h.defers,fun t v hv=>h.get t v (ha.look t v hv)⟩
def Ez (all:List Oper) (L:Env) (o:Oper):Option Bool:=
 match o.guard with
 | none=>some true
 | some (j,want)=>match all[j]? with
  | some oj=>match oj.dst with
   | some d=>match Ln L d with
    | some (.bool b)=>some (cond b want (!want))
    | some (.tuple _)=>some false
    | _=>none
   | none=>none
  | none=>none
theorem Hq {all:List Oper} {N L a o b} (hf:Fr N L a) (h:Ez all L o=some b):Region.wanted o (yielded all.toArray a.tmps)=b:=by
 unfold Ez at h;unfold Region.wanted;split at h
 ·rename_i hg;rw [hg];simpa using h
 ·rename_i j want hg;rw [hg];simp only;split at h
  ·rename_i oj hj;split at h
   ·rename_i d hd;split at h
    ·rename_i b' hb;have:=hf.get _ _ hb;have hy:yielded all.toArray a.tmps j=some b':=(by simp [yielded,hj,hd,this]);rw [hy];simp only [Yb] at h;rw [<-h];cases b'<;>cases want<;>rfl
    ·rename_i vs hb;have:=hf.get _ _ hb;have hy:yielded all.toArray a.tmps j=none:=(by simp [yielded,hj,hd,this]);rw [hy];simp only [Yb] at h;rw [<-h];rfl
    ·simp at h
   ·simp at h
  ·simp at h
def Cu (N:Nat) (o:Oper) (v:Value) (L:Env):Option Env:=
 match o.dst with
 | none=>some L
 | some d=>cond (Nat.blt d N) (some ((d,v)::L)) none
theorem Ge {N o v L L' a} (hf:Fr N L a) (h:Cu N o v L=some L'):Fr N L' (a.put o.dst v):=by
 unfold Cu at h;split at h
 ·rename_i hd;rw [hd];simp only [Yb] at h;subst h;exact hf
 ·rename_i d hd;rw [hd];cases hb:Nat.blt d N with
  | true=>simp only [hb,cond_true,Yb] at h;subst h;exact hf.put hb
  | false=>simp [hb] at h
def Re:Nat->Nat->Option Nat
 | 52,0=>some 0|52,1=>some 1|52,2=>some 2|52,3=>some 3|52,4=>some 4|52,5=>some 5
 | 104,0=>some 0|104,1=>some 1|104,2=>some 3|104,3=>some 4|104,4=>some 5|104,5=>some 6
 | 101,0=>some 0|101,1=>some 1
 | 59,0=>some 0|59,1=>some 1|59,2=>some 2|59,3=>some 3
 | 145,0=>some 0|145,1=>some 1|145,2=>some 2|145,3=>some 3
 | 147,0=>some 0|147,1=>some 1
 | 68,0=>some 0|68,1=>some 1
 | 120,0=>some 0|120,1=>some 1|120,2=>some 2
 | 81,0=>some 0|81,1=>some 1|81,2=>some 2|81,3=>some 3
 | 37,0=>some 0|37,1=>some 1|37,2=>some 2|37,3=>some 3
 | 40,0=>some 0|40,1=>some 1|40,2=>some 2
 | 129,0=>some 0|129,1=>some 1|129,2=>some 2|129,3=>some 3
 | 132,0=>some 0|132,1=>some 1|132,2=>some 2
 | 108,0=>some 0|108,1=>some 1|108,2=>some 2
 | 155,0=>some 0
 | _,_=>none
noncomputable def Yv (s f o:Nat):Bool:=
 match PP.underlying s with
 | some (.struct fields)=>match fields[f]? with
  | some fd=>fd.offset==o && (match PP.info? fd.type with|some i=>i.size != 0|none=>false)
  | none=>false
 | _=>false
theorem Xr:∀s f o,Re s f=some o->Yv s f o=true:=by
 intro s f o h;unfold Re at h;split at h<;>first
  | (simp only [Yb] at h;subst h;kernel_rfl)
  | (cases h)
def Oj:Nat->Option Nat
 | 22=>some 1|23=>some 1|24=>some 6|34=>some 1|35=>some 4|48=>some 7|55=>some 4|56=>some 1|57=>some 1
 | 79=>some 1|85=>some 6|127=>some 4|168=>some 1
 | _=>none
noncomputable def Wh (t n:Nat):Bool:=
 match PP.underlying t with
 | some (.slice e)=>(match PP.info? e with|some i=>i.size==n|none=>false)
 | _=>false
theorem Rk:∀t n,Oj t=some n->Wh t n=true:=by
 intro t n h;unfold Oj at h;split at h<;>first
  | (simp only [Yb] at h;subst h;kernel_rfl)
  | (cases h)
def dH:Nat->Bool
 | 3|4|5|9|21|22|23|24|29|34|35|48|50|55|56|57|63|66|73|78|79|85|92|99|105|109|118|127|135|143|151|152|164|168=>true
 | _=>false
noncomputable def aD (t:Nat):Bool:=
 (match PP.underlying t with
 | some (.struct _)=>false
 | some (.array _ _)=>false
 | some _=>true
 | none=>false) && (match PP.info? t with|some i=>i.size==1|none=>false)
theorem Tm:∀t,dH t=true->aD t=true:=by
 intro t h;unfold dH at h;split at h<;>first
  | (cases h;done)
  | kernel_rfl
theorem kB {t:Nat} (h:dH t=true) (w:World):(isAgg t).run PP w=.ok false w:=by
 have:=Tm t h;unfold aD at this;simp only [Bool.and_eq_true] at this;obtain⟨h1,_⟩:=this;unfold isAgg;cases hu:PP.underlying t with
 | none=>simp [hu] at h1
 | some d=>
  simp only [Sem.run_bind,run_underlying hu,Result.andThen_ok];cases d<;>first|rfl|(simp [hu] at h1)
theorem fB {t:Nat} (h:dH t=true) (w:World):(sizeOf t).run PP w=.ok 1 w:=by
 have:=Tm t h;unfold aD at this;simp only [Bool.and_eq_true] at this;obtain⟨_,h2⟩:=this;unfold sizeOf typeInfo;cases hi:PP.info? t with
 | none=>simp [hi] at h2
 | some i=>
  simp only [hi,beq_iff_eq] at h2;simp only [Sem.run_bind,run_program,Result.andThen_ok,hi,Sem.run_pure,h2]
theorem dV {s f o:Nat} (h:Re s f=some o) (a:Addr) (w:World):
  (Instr.fieldAt s (.pointer (some a)) f).run PP w=.ok (.pointer (some (a.add o))) w:=by
 have:=Xr s f o h;unfold Yv at this;split at this
 ·rename_i fields hu;split at this
  ·rename_i fd b;simp only [Bool.and_eq_true,beq_iff_eq] at this;obtain⟨ho,hs⟩:=this;split at hs
   ·rename_i i hi;have c:i.size≠0:=(by simpa using hs);simp only [Instr.fieldAt,Sem.run_bind,run_underlying hu,Result.andThen_ok,b,Instr.sureAddr,Sem.run_pure,fieldPlace,sizeOf,typeInfo,run_program,hi,c,Sem.run_ite,if_false,ho]
   ·simp at hs
  ·simp at this
 ·simp at this
theorem Ij (b i n:Nat):(⟨b,i,none⟩:Addr).add n=⟨b,i+n,none⟩:=by
 unfold Addr.add;split
 ·rename_i h;simp [h]
 ·rfl
theorem dP {t n:Nat} (h:Oj t=some n) (b o len cap:Nat) (k:IntKind) (i:Int) (h0:0<=i) (h1:i<(len:Int)) (w:World):
  (Instr.indexAt t (.slice (some ⟨b,o,none⟩) len cap) (.int k i)).run PP w=.ok (.pointer (some ⟨b,o+i.toNat*n,none⟩)) w:=by
 have:=Rk t n h;unfold Wh at this;split at this
 ·rename_i e hu;split at this
  ·rename_i inf hi;simp only [beq_iff_eq] at this;simp [Instr.indexAt,asIntOf,run_underlying hu,h0,h1,sizeOf,typeInfo,hi,this,Ij]
  ·simp at this
 ·simp at this
def Vs:Nat->Option IntKind
 | 3=>some .i64|5=>some .u8|21=>some .i32|29=>some .u32|33=>some .u64|135=>some .u64|143=>some .u8|99=>some .i64
 | _=>none
noncomputable def dO (t:Nat) (k:IntKind):Bool:=match PP.underlying t with|some (.int k')=>k==k'|_=>false
theorem aK:∀t k,Vs t=some k->dO t k=true:=by
 intro t n h;unfold Vs at h;split at h<;>first
  | (simp only [Yb] at h;subst h;kernel_rfl)
  | (cases h)
theorem Nk {t k} (h:Vs t=some k):PP.underlying t=some (.int k):=by
 have:=aK t k h;unfold dO at this;split at this
 ·rename_i k' hu;have hk:k=k':=(by simpa using this);rw [hu,hk]
 ·simp at this
def Vr:Nat->Bool
 | 22|23|24|34|35|48|55|56|57|79|85|127|168=>true
 | _=>false
theorem aJ:∀t,Vr t=true->∃e,PP.underlying t=some (.slice e):=by
 intro t h;have key:(match PP.underlying t with|some (.slice _)=>true|_=>false)=true:=by
  unfold Vr at h;split at h<;>first
   | (cases h;done)
   | kernel_rfl
 split at key
 ·rename_i e he;exact⟨e,he⟩
 ·simp at key
theorem Ek:PP.underlying 9=some .string:=by kernel_rfl
def dc (p:Prop) [Decidable p]:Bool:=decide p
theorem dc_eq (p:Prop) [Decidable p]:dc p=decide p:=rfl
theorem bJ {p:Prop} [Decidable p] (h:dc p=true):p:=of_decide_eq_true h
theorem Wm {p:Prop} [Decidable p] (h:dc p=false):¬p:=of_decide_eq_false h
theorem Fj {p:Prop} [Decidable p] (h:p):dc p=true:=decide_eq_true h
theorem Ew {p:Prop} [Decidable p] (h:¬p):dc p=false:=decide_eq_false h
attribute [irreducible] dc
def Km (op:BinOp):Value->Value->Option Value
 | .int k a,.int k' b=>cond (decide (k=k')) (match op with
  | .eql=>some (.bool (dc (a=b)))
  | .neq=>some (.bool (dc (a≠b)))
  | .lss=>some (.bool (dc (a<b)))
  | .leq=>some (.bool (dc (a<=b)))
  | .gtr=>some (.bool (dc (b<a)))
  | .geq=>some (.bool (dc (b<=a)))
  | _=>none) none
 | .nilIface,.iface _ _=>match op with|.eql=>some (.bool false)|.neq=>some (.bool true)|_=>none
 | .iface _ _,.nilIface=>match op with|.eql=>some (.bool false)|.neq=>some (.bool true)|_=>none
 | .nilIface,.nilIface=>match op with|.eql=>some (.bool true)|.neq=>some (.bool false)|_=>none
 | .pointer (some _),.pointer none=>match op with|.eql=>some (.bool false)|.neq=>some (.bool true)|_=>none
 | .pointer none,.pointer none=>match op with|.eql=>some (.bool true)|.neq=>some (.bool false)|_=>none
 | .string a,.string b=>match op with
  | .eql=>some (.bool (dc (a=b)))
  | .neq=>some (.bool (dc (a≠b)))
  | _=>none
 | _,_=>none
def Kr:Operand->Bool
 | .const _=>true
 | _=>false
def mA (L:Env) (o:Op):Option Value:=
 match o with
 | .move x=>ev L x
 | .assign x=>ev L x
 | .pick c a b=>match ev L c with
  | some (.bool true)=>ev L a
  | some (.bool false)=>ev L b
  | _=>none
 | .call ⟨.builtin .len,⟨[x]⟩,⟨[t]⟩⟩=>match ev L x with
  | some (.slice _ n _)=>cond (Vr t) (some (.int .i64 n)) none
  | some (.string s)=>cond (Nat.beq t 9) (some (.int .i64 s.size)) none
  | _=>none
 | .call ⟨.builtin .cap,⟨[x]⟩,⟨[t]⟩⟩=>match ev L x with
  | some (.slice _ _ n)=>cond (Vr t) (some (.int .i64 n)) none
  | _=>none
 | .nilCheck x=>match ev L x with
  | some (.pointer (some a))=>some (.pointer (some a))
  | _=>none
 | .fieldAddr s x f=>match ev L x with
  | some (.pointer (some ⟨b,i,none⟩))=>match Re s f with
   | some n=>some (.pointer (some ⟨b,i+n,none⟩))
   | none=>none
  | _=>none
 | .extract x i=>match ev L x with
  | some (.tuple ⟨vs⟩)=>vs[i]?
  | _=>none
 | .unOp .not _ x=>match ev L x with
  | some (.bool b)=>some (.bool (!b))
  | _=>none
 | .binOp op t x y _=>match ev L x,ev L y with
  | some .nilIface,some .nilIface=>cond (Nat.beq t 50) (cond (Kr x) (Km op .nilIface .nilIface) (cond (Kr y) (Km op .nilIface .nilIface) none)) none
  | some (.iface ty v),some .nilIface=>cond (Nat.beq t 50) (Km op (.iface ty v) .nilIface) none
  | some .nilIface,some (.iface ty v)=>cond (Nat.beq t 50) (Km op .nilIface (.iface ty v)) none
  | some (.pointer p),some (.pointer q)=>cond (Nat.beq t 63) (Km op (.pointer p) (.pointer q)) (cond (Nat.beq t 73) (Km op (.pointer p) (.pointer q)) none)
  | some (.int k a),some (.int k' b)=>Km op (.int k a) (.int k' b)
  | some (.string a),some (.string b)=>Km op (.string a) (.string b)
  | _,_=>none
 | .makeFunc (.func f) ⟨[]⟩ ⟨cs⟩=>match evs L cs with
  | some vs=>some (.func (.func f) #[] ⟨vs⟩)
  | none=>none
 | .makeInterface t x=>match ev L x with
  | some v=>cond (Nat.beq t 105) (some (.iface 105 v)) (cond (Nat.beq t 153) (some (.iface 153 v)) none)
  | none=>none
 | _=>none
end
end Go.Proofs.YtaccphdkapmdhaaGreat
