/- The walk of FnFew: it answers true. No condition. -/
import Derived.Test.YtaccphdkapmdhaaGreatR52
namespace Go.Proofs.YtaccphdkapmdhaaGreat
set_option maxRecDepth 100000
set_option maxHeartbeats 64000000
set_option linter.all false
section
attribute [local irreducible] binOp IntKind.wrap Sem.run
theorem kG (v0 v1:Value) (l:List Nat) (code:Bs) (w:World) (h0:US w v0 l) (h1:RF w.heap.size w v1 code) (hl:∀n∈l,n<UU):
  Calls PP 5 #[v0,v1] w fun e w'=>e=.returned (.bool true)/\Up w.heap.size w w':=by
 have g0:=h0;have g1:=h1;obtain⟨ad0,cap0,rfl⟩:=h0.sl;obtain⟨ad1,cap1,rfl,_⟩:=h1;refine Bf (L:=[(0,.slice ad0 l.length cap0),(1,.slice ad1 code.length cap1)]) Tryz.func5 Z Z Z ⟨Z,Z,V⟩ ?_;by_cases a1:2147483647<l.length
 ·(repeat first|refine Aa Z ?_|apply Ab|apply Ac|refine Bn Z (by first|with_reducible rfl|exact Bool.not_false) ?_|refine Au Z ?_|apply Ad|apply Bl|apply Ai|refine Bc Z Z (by first|omega|decide) ?_);exact Ak Z Z ⟨rfl,Up.refl _ _⟩
 by_cases a2:2147483647<code.length
 ·(repeat first|refine Aa Z ?_|apply Ab|apply Ac|refine Ao Z (by first|omega|decide) ?_|refine Au Z ?_|apply Ad|apply Bl|apply Ai|refine Az Z Z (by first|omega|decide) ?_);exact Ak Z Z ⟨rfl,Up.refl _ _⟩
 by_cases b1:100<l.length
 ·(repeat first|refine Aa Z ?_|apply Ab|apply Ac|refine Bn Z (by first|with_reducible rfl|exact Bool.not_false) ?_|refine Aj Z (by first|omega|decide) ?_|refine Au Z ?_|apply Ad|apply An|apply Bl|apply Af|apply Ai|refine Bc Z Z (by first|omega|decide) ?_|refine Az Z Z (by first|omega|decide) ?_);exact Ak Z Z ⟨rfl,Up.refl _ _⟩
 by_cases b2:1000<code.length
 ·(repeat first|refine Aa Z ?_|apply Ab|apply Ac|refine Ao Z (by first|omega|decide) ?_|refine Aj Z (by first|omega|decide) ?_|refine Au Z ?_|apply Ad|apply An|apply Bl|apply Af|apply Ai|refine Az Z Z (by first|omega|decide) ?_);exact Ak Z Z ⟨rfl,Up.refl _ _⟩
 repeat first|refine Aa Z ?_|apply Ab|apply Ac|refine Aj Z (by first|omega|decide) ?_|refine Au Z ?_|apply Ad|apply An|apply Af|refine Az Z Z (by first|omega|decide) ?_
 refine Ae Z Z Z (Lw _ l w g0 hl) ?_;rintro e w1 ⟨lv,xs,rfl,c,d,a⟩;refine T2 Z Z ?_;repeat (refine Aa Z ?_)
 refine Ae Z Z Z (Qs _ _ _ _ code w1 (Rx.own c d) (g1.upS a) (fun x hx=>((OkL.lines l).ok x hx).1) (Yr (OkL.lines l)) (by omega)) ?_;rintro e w2 ⟨v2,rfl,f,g⟩;refine T2 Z Z ?_;have b:=a.after f Y;skip;refine Ae Z Z Z g.look ?_;rintro e w3 ⟨rfl,h⟩;refine T2 Z Z ?_;repeat first|refine Aa Z ?_|apply Ab|apply Ai
 exact Ak Z Z ⟨rfl,b.after h Y⟩
end
end Go.Proofs.YtaccphdkapmdhaaGreat
