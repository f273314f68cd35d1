/- Documents in memory. No condition. -/
import Derived.Test.YtaccphdkapmdhaaGreatR20
namespace Go.Proofs.YtaccphdkapmdhaaGreat
set_option maxRecDepth 100000
set_option maxHeartbeats 64000000
set_option linter.all false
section
def wX:List Ex->Nat
 | []=>0
 | x::l=>cX x+wX l
theorem Nl.le {b r:Bs} (h:Nl b r):r.length<=b.length:=by
 cases h<;>simp;omega
theorem eX.le {b r:Bs} (h:eX b r):r.length<=b.length:=by
 cases h with
 | nl h=>exact h.le
 | cm h1 h2=>exact Nat.le_trans h2.le h1.le
theorem EX.len {b r:Bs} {x:Ex} (h:EX b x r):cX x+3*r.length<=3*b.length/\(Kl x).length<=3*b.length:=by
 cases h with
 | tab h1 h2=>
  have:=h2.len.1;simp only [Ya] at this ⊢;simp only [cX,Kl,Ya,Cf];omega
 | atab h2=>
  have:=h2.len.1;simp only [Ya] at this ⊢;simp only [cX,Kl,Ya,Cf];omega
 | @kv c b b1 r ks v h1 h2=>
  have h3:=h1.len.1;have h4:=h2.len 0;have h5:=h2.len (0+1+ks.length);have h6:=nK v 0;have h7:=Cw b1;simp only [Ya] at h3 ⊢;simp only [cX,Kl,Fi];omega
theorem Lr.len {b:Bs} {es:List Ex} (h:Lr b es):wX es<=3*b.length:=by
 induction h with
 | done _=>simp [wX]
 | @blank b b' es h1 h2 h3 ih=>
  have:=h2.le;have:=Cw b;omega
 | @expr b c b1 b2 h e es h1 h2 h3 h4 ih=>
  have h5:=h2.len.1;have h6:=h3.le;have h7:=Cw b;have h8:=Cw b1;rw [h1] at h7;simp only [wX];omega
theorem Lr.ks {b:Bs} {es:List Ex} (h:Lr b es):∀x∈es,KsX x:=by
 induction h with
 | done _=>intro x hx;simp at hx
 | blank h1 h2 h3 ih=>exact ih
 | expr h1 h2 h3 h4 ih=>
  intro x hx;rcases List.mem_cons.1 hx with rfl|hx
  ·exact h2.keys
  ·exact ih x hx
theorem Lr.enc {b:Bs} {es:List Ex} (h:Lr b es):∀x es',es=x::es'->(Kl x).length<=3*b.length:=by
 induction h with
 | done _=>intro x es' h;cases h
 | @blank b b' es h1 h2 h3 ih=>
  intro x es' h;have:=ih x es' h;have:=h2.le;have:=Cw b;omega
 | @expr b c b1 b2 h e es h1 h2 h3 h4 ih=>
  intro x es' hh;simp only [List.cons.injEq] at hh;obtain⟨rfl,rfl⟩:=hh;have h5:=h2.len.2;have h7:=Cw b;rw [h1] at h7;omega
theorem cX_pos {x:Ex} (h:KsX x):1<=cX x:=by
 cases x with
 | kv ks v=>
  have:=List.length_pos_iff.2 h.1;simp only [cX];omega
 | tab ks=>exact List.length_pos_iff.2 h
 | atab ks=>exact List.length_pos_iff.2 h
theorem Se:∀(es:List Ex),(∀x∈es,KsX x)->es.length<=wX es
 | [],_=>Nat.le_refl _
 | x::es,h=>by
  have h1:=cX_pos (h x (by simp));have h2:=Se es (fun y hy=>h y (by simp [hy]));simp only [Ya,wX];omega
theorem Lr.nil {es:List Ex} (h:Lr [] es):es=[]:=by
 cases h with
 | done _=>rfl
 | blank h _ _=>exact absurd rfl h
 | expr h _ _ _=>simp [Bd] at h
end
end Go.Proofs.YtaccphdkapmdhaaGreat
