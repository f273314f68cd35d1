/- Lists of lines are short. No condition. -/
import Derived.Test.YtaccphdkapmdhaaGreatR31
namespace Go.Proofs.YtaccphdkapmdhaaGreat
set_option maxRecDepth 100000
set_option maxHeartbeats 64000000
set_option linter.all false
section
attribute [local irreducible] binOp IntKind.wrap Sem.run
structure OkL (es:List Ex):Prop where
 ok:∀x∈es,OkX x/\kX x<=4000
 len:es.length<=40
theorem OkL.lines (l:List Nat):OkL (Gb l):=⟨fun x hx=>by obtain⟨h1,h2⟩:=(Mz l).1 x hx;exact⟨h1,by omega⟩,by have:=(Mz l).2;omega⟩
theorem OkL.kXs {es:List Ex} (h:OkL es):Ss es<=160000:=by
 have h1:=aM 4000 es (fun x hx=>(h.ok x hx).2);have h2:es.length*4000<=40*4000:=Nat.mul_le_mul_right _ h.len;omega
theorem US.sl {w v l} (h:US w v l):∃ad cap,v=.slice ad l.length cap:=by
 obtain⟨ad,cap,h,_⟩:=h;exact⟨ad,cap,h⟩
end
end Go.Proofs.YtaccphdkapmdhaaGreat
