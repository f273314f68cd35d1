/- What a document holds can be made. No condition. -/
import Derived.Test.YtaccphdkapmdhaaGreatR37
namespace Go.Proofs.YtaccphdkapmdhaaGreat
set_option maxRecDepth 100000
set_option maxHeartbeats 64000000
set_option linter.all false
section
mutual
def gQ:Bz->Prop
 | .sc k _=>k<8
 | .arr vs=>KdI vs
 | .tbl es=>KdE es
def KdI:List Bz->Prop
 | []=>True
 | v::vs=>gQ v/\KdI vs
def KdE:List (List Bs×Bz)->Prop
 | []=>True
 | (_,v)::es=>gQ v/\KdE es
end
theorem Lp.kind {b:Bs} {k n:Nat} (h:Lp b k n):k<8:=by
 cases h<;>first|omega|(subst_vars;split<;>omega)
theorem VV.kind {d:Nat} {b r:Bs} {v:Bz} (h:VV d b v r):gQ v:=by
 refine VV.rec (motive_1:=fun _ _ v _ _=>gQ v) (motive_2:=fun _ _ _ vs _ _=>KdI vs) (motive_3:=fun _ _ _ es _ _=>KdE es) ?_ ?_ ?_ ?_ ?_ ?_ ?_ ?_ ?_ ?_ ?_ ?_ ?_ ?_ ?_ ?_ ?_ ?_ h;all_goals intros
 all_goals first
  | (simp only [gQ];assumption)
  | (simp only [gQ];omega)
  | (simp only [gQ];exact Lp.kind (by assumption))
  | trivial
  | assumption
  | exact⟨by assumption,by assumption⟩
mutual
theorem fL:∀(v:Bz),Pn v->gQ v->cV v<=1000000000->Pw v
 | .sc k t,_,h,_=>by
  simp only [gQ] at h;simp only [Pw];exact h
 | .arr vs,hs,h,hc=>by
  simp only [gQ] at h;simp only [Pn] at hs;simp only [cV] at hc;have:=mkI_of vs hs h hc;simp only [Pw];exact⟨this.2,this.1⟩
 | .tbl es,hs,h,hc=>by
  simp only [gQ] at h;simp only [Pn] at hs;simp only [cV] at hc;have:=mkE_of es hs h hc;simp only [Pw];exact⟨this.2,this.1⟩
theorem mkI_of:∀(vs:List Bz),Ud vs->KdI vs->lB vs<=1000000000->MkI vs/\vs.length<=1000000000
 | [],_,_,_=>⟨trivial,by simp⟩
 | v::vs,hs,h,hc=>by
  simp only [KdI] at h;simp only [Ud] at hs;simp only [lB] at hc;have h1:=fL v hs.1 h.1 (by omega);have h2:=mkI_of vs hs.2 h.2 (by omega);have h3:=nL vs;simp only [MkI,Ya];exact⟨⟨h1,h2.1⟩,by omega⟩
theorem mkE_of:∀(es:List (List Bs×Bz)),Nn es->KdE es->lC es<=1000000000->MkE es/\es.length<=1000000000
 | [],_,_,_=>⟨trivial,by simp⟩
 | (ks,v)::es,hs,h,hc=>by
  simp only [KdE] at h;simp only [Nn] at hs;simp only [lC] at hc;have h0:=List.length_pos_iff.2 hs.1;have h1:=fL v hs.2.1 h.1 (by omega);have h2:=mkE_of es hs.2.2 h.2 (by omega);have h3:=nM es hs.2.2;simp only [MkE,Ya];exact⟨⟨⟨hs.1,by omega⟩,h1,h2.1⟩,by omega⟩
theorem nL:∀(vs:List Bz),vs.length<=lB vs
 | []=>Nat.le_refl _
 | v::vs=>by have:=nL vs;simp only [lB,Ya];omega
theorem nM:∀(es:List (List Bs×Bz)),Nn es->es.length<=lC es
 | [],_=>Nat.le_refl _
 | (ks,v)::es,h=>by
  simp only [Nn] at h;have h0:=List.length_pos_iff.2 h.1;have:=nM es h.2.2;simp only [lC,Ya];omega
end
theorem EX.kind {b r:Bs} {x:Ex} (h:EX b x r):gQ (Nr x):=by
 cases h with
 | tab _ h=>simp [Nr,gQ]
 | atab h=>simp [Nr,gQ]
 | kv h1 h2=>exact h2.kind
theorem Lr.kind {b:Bs} {es:List Ex} (h:Lr b es):∀x∈es,gQ (Nr x):=by
 induction h with
 | done _=>intro x hx;simp at hx
 | blank h1 h2 h3 ih=>exact ih
 | expr h1 h2 h3 h4 ih=>
  intro x hx;rcases List.mem_cons.1 hx with rfl|hx
  ·exact h2.kind
  ·exact ih x hx
theorem lK:∀{es:List Ex} {x:Ex},x∈es->cX x<=wX es
 | [],_,h=>by simp at h
 | y::es,x,h=>by
  simp only [wX];rcases List.mem_cons.1 h with rfl|h
  ·omega
  ·have:=lK h;omega
theorem Lr.mkx {b:Bs} {es:List Ex} (h:Lr b es) (hb:b.length<=100000000):∀x∈es,MkX x:=fun x hx=>by
 have h1:=h.ks x hx;have h2:=h.kind x hx;have h3:=lK hx;have h4:=h.len;cases x with
 | kv ks v=>
  simp only [KsX] at h1;simp only [cX] at h3;exact⟨h1.1,by simp only [Cz];omega,fL v h1.2 h2 (by omega)⟩
 | tab ks=>
  simp only [cX] at h3;exact⟨h1,by simp only [Cz];omega,by simp [Nr,Pw]⟩
 | atab ks=>
  simp only [cX] at h3;exact⟨h1,by simp only [Cz];omega,by simp [Nr,Pw]⟩
end
end Go.Proofs.YtaccphdkapmdhaaGreat
