/- Lists of lines can be made. No condition. -/
import Derived.Test.YtaccphdkapmdhaaGreatR33
import Derived.Test.YtaccphdkapmdhaaGreatR37
namespace Go.Proofs.YtaccphdkapmdhaaGreat
set_option maxRecDepth 100000
set_option maxHeartbeats 64000000
set_option linter.all false
section
attribute [local irreducible] binOp IntKind.wrap Sem.run
theorem Rx.lt {w:World} {P:Nat->Prop} {v:Value} {es:List Ex} (h:Rx w P v es):Rx w (fun b=>b<w.heap.size) v es:=by
 obtain⟨ad,cap,h1,h2⟩:=h;refine⟨ad,cap,h1,fun a=>?_⟩;obtain⟨g,cur,h3,h4,h5⟩:=h2 a;exact⟨g,cur,h3,h4,Dp.move (Cc.up (Up.refl _ _) (fun b _ h=>h)) _ _ h5⟩
end
end Go.Proofs.YtaccphdkapmdhaaGreat
