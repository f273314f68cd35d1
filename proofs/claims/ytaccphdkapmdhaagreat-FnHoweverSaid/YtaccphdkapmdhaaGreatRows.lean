/-
  No cell of these rows narrows 'for every input' (looked for: loops, veiled, ifaces, maps, wideKeys, modest, calm, conditions, laid).
  DERIVED. THE GIVEN ROWS OF THIS SEAT. 6 by the template 'for every input the law returns true; each argument reads behind the call as it read before'; 0 by the template 'total and deterministic' (their statements: YtaccphdkapmdhaaGreatTotals.lean).
  GIVEN WITH THE SEED: the statements are not yours to turn. If you find one false, say at which input.
  Laid BY PROGRAM, IN A SANDBOX (cutbox-rows.mjs): the forced cells as the released guide's own fill.sh prints them over the translation 5db7d9f9839c1f54… (all of the seat's roots in one cut). By AI agents, Wed Nov 11 2026. No macro, syntax, notation, axiom, sorry.
-/
import Derived.Test.YtaccphdkapmdhaaGreatChecked
import GoSem.Claim
import GoSem.ClaimJoined
import GoSem.ClaimMapViews
import Derived.JoinedTies
import Derived.KernelRfl
namespace Go.Proofs.YtaccphdkapmdhaaGreat
/- THE CELL 'sum', in the pinned program and in every row, IS THE sha256 OF THE DUMP (.gsa) THAT YtaccphdkapmdhaaGreatProg.lean LOADS. Nothing in Lean hashes anything: it is a label: what it is worth is what the hold of that sum in a sandbox is worth. -/
noncomputable def Tryz.pinned : Pinned := { name := "ytaccphdkapmdhaagreat", sum := "5db7d9f9839c1f545ae49e083eac60e839be71c00b9df8c2d02918b1f63afc85", checked := Tryz.checked }
namespace Rows
def none {H : Type} : Left H := { results := [], args := [] }

/-- 'laws.FnAhead': WHATEVER THE INPUT: true; the input reads as it did. -/
def fnAheadSpec : ChangeSpec := { name := "fnAhead", fn := fun _ => fun
  | [d1, d2, d3] => { results := [.lit (.bool true)], args := [d1, d2, d3] }
  | _ => none }
def fnAheadRow : OpenClaim := { program := "ytaccphdkapmdhaagreat", sum := "5db7d9f9839c1f545ae49e083eac60e839be71c00b9df8c2d02918b1f63afc85", func := "loop.example/pub-g03443/laws.FnAhead", spec := "fnAhead", unfollowed := true, recurses := true, apart := false }
def FnAheadSaid : Prop := fnAheadRow.holds Tryz.pinned (OpenSpec.ofChange fnAheadSpec)

/-- ITS FALSE NEIGHBOUR: 'it returns false'. Refute it at one input. -/
def fnAheadWrong : ChangeSpec := { name := "fnAhead", fn := fun _ => fun
  | [d1, d2, d3] => { results := [.lit (.bool false)], args := [d1, d2, d3] }
  | _ => none }
def FnAheadWrongFalsely : Prop := fnAheadRow.holds Tryz.pinned (OpenSpec.ofChange fnAheadWrong)

/-- 'laws.FnTwice': WHATEVER THE INPUT: true; the input reads as it did. -/
def fnTwiceSpec : ChangeSpec := { name := "fnTwice", fn := fun _ => fun
  | [d1, d2] => { results := [.lit (.bool true)], args := [d1, d2] }
  | _ => none }
def fnTwiceRow : OpenClaim := { program := "ytaccphdkapmdhaagreat", sum := "5db7d9f9839c1f545ae49e083eac60e839be71c00b9df8c2d02918b1f63afc85", func := "loop.example/pub-g03443/laws.FnTwice", spec := "fnTwice", unfollowed := true, recurses := true, apart := false }
def FnTwiceSaid : Prop := fnTwiceRow.holds Tryz.pinned (OpenSpec.ofChange fnTwiceSpec)

/-- ITS FALSE NEIGHBOUR: 'it returns false'. Refute it at one input. -/
def fnTwiceWrong : ChangeSpec := { name := "fnTwice", fn := fun _ => fun
  | [d1, d2] => { results := [.lit (.bool false)], args := [d1, d2] }
  | _ => none }
def FnTwiceWrongFalsely : Prop := fnTwiceRow.holds Tryz.pinned (OpenSpec.ofChange fnTwiceWrong)

/-- 'laws.FnFew': WHATEVER THE INPUT: true; the input reads as it did. -/
def fnFewSpec : ChangeSpec := { name := "fnFew", fn := fun _ => fun
  | [d1, d2] => { results := [.lit (.bool true)], args := [d1, d2] }
  | _ => none }
def fnFewRow : OpenClaim := { program := "ytaccphdkapmdhaagreat", sum := "5db7d9f9839c1f545ae49e083eac60e839be71c00b9df8c2d02918b1f63afc85", func := "loop.example/pub-g03443/laws.FnFew", spec := "fnFew", unfollowed := true, recurses := true, apart := false }
def FnFewSaid : Prop := fnFewRow.holds Tryz.pinned (OpenSpec.ofChange fnFewSpec)

/-- ITS FALSE NEIGHBOUR: 'it returns false'. Refute it at one input. -/
def fnFewWrong : ChangeSpec := { name := "fnFew", fn := fun _ => fun
  | [d1, d2] => { results := [.lit (.bool false)], args := [d1, d2] }
  | _ => none }
def FnFewWrongFalsely : Prop := fnFewRow.holds Tryz.pinned (OpenSpec.ofChange fnFewWrong)

/-- 'laws.FnHowever': WHATEVER THE INPUT: true; the input reads as it did. -/
def fnHoweverSpec : ChangeSpec := { name := "fnHowever", fn := fun _ => fun
  | [d1, d2, d3] => { results := [.lit (.bool true)], args := [d1, d2, d3] }
  | _ => none }
def fnHoweverRow : OpenClaim := { program := "ytaccphdkapmdhaagreat", sum := "5db7d9f9839c1f545ae49e083eac60e839be71c00b9df8c2d02918b1f63afc85", func := "loop.example/pub-g03443/laws.FnHowever", spec := "fnHowever", unfollowed := true, recurses := true, apart := false }
def FnHoweverSaid : Prop := fnHoweverRow.holds Tryz.pinned (OpenSpec.ofChange fnHoweverSpec)

/-- ITS FALSE NEIGHBOUR: 'it returns false'. Refute it at one input. -/
def fnHoweverWrong : ChangeSpec := { name := "fnHowever", fn := fun _ => fun
  | [d1, d2, d3] => { results := [.lit (.bool false)], args := [d1, d2, d3] }
  | _ => none }
def FnHoweverWrongFalsely : Prop := fnHoweverRow.holds Tryz.pinned (OpenSpec.ofChange fnHoweverWrong)

/-- 'laws.FnLonger': WHATEVER THE INPUT: true; the input reads as it did. -/
def fnLongerSpec : ChangeSpec := { name := "fnLonger", fn := fun _ => fun
  | [d1, d2] => { results := [.lit (.bool true)], args := [d1, d2] }
  | _ => none }
def fnLongerRow : OpenClaim := { program := "ytaccphdkapmdhaagreat", sum := "5db7d9f9839c1f545ae49e083eac60e839be71c00b9df8c2d02918b1f63afc85", func := "loop.example/pub-g03443/laws.FnLonger", spec := "fnLonger", unfollowed := true, recurses := true, apart := false }
def FnLongerSaid : Prop := fnLongerRow.holds Tryz.pinned (OpenSpec.ofChange fnLongerSpec)

/-- ITS FALSE NEIGHBOUR: 'it returns false'. Refute it at one input. -/
def fnLongerWrong : ChangeSpec := { name := "fnLonger", fn := fun _ => fun
  | [d1, d2] => { results := [.lit (.bool false)], args := [d1, d2] }
  | _ => none }
def FnLongerWrongFalsely : Prop := fnLongerRow.holds Tryz.pinned (OpenSpec.ofChange fnLongerWrong)

/-- 'laws.FnMeans': WHATEVER THE INPUT: true; the input reads as it did. -/
def fnMeansSpec : ChangeSpec := { name := "fnMeans", fn := fun _ => fun
  | [d] => { results := [.lit (.bool true)], args := [d] }
  | _ => none }
def fnMeansRow : OpenClaim := { program := "ytaccphdkapmdhaagreat", sum := "5db7d9f9839c1f545ae49e083eac60e839be71c00b9df8c2d02918b1f63afc85", func := "loop.example/pub-g03443/laws.FnMeans", spec := "fnMeans", unfollowed := true, recurses := true, apart := false }
def FnMeansSaid : Prop := fnMeansRow.holds Tryz.pinned (OpenSpec.ofChange fnMeansSpec)

/-- ITS FALSE NEIGHBOUR: 'it returns false'. Refute it at one input. -/
def fnMeansWrong : ChangeSpec := { name := "fnMeans", fn := fun _ => fun
  | [d] => { results := [.lit (.bool false)], args := [d] }
  | _ => none }
def FnMeansWrongFalsely : Prop := fnMeansRow.holds Tryz.pinned (OpenSpec.ofChange fnMeansWrong)

/- THE SECOND FORM. 'bulk': how many values and letters a reading holds, each counted each time it is reached (what is shared counts as often as it is met; a slice's spare places count too). A statement '..UptoSaid' is the law's where the arguments, and the package variables that the reading takes, are together of bulk at most 1048576: NARROWER than '..Said'. Prove '..Said' where nothing that the law and all that it calls make is longer than what came in: it says more and counts as full. Else prove '..UptoSaid'. A law counts once. -/
mutual
def uptoBulk {H : Type} : DataW H → Nat
  | .lit (.string bytes) => bytes.length + 1
  | .lit _ => 1
  | .nil => 1
  | .ptr d => uptoBulk d + 1
  | .slice elems spare => uptoBulkAll elems + uptoBulkAll spare + 1
  | .agg parts => uptoBulkAll parts + 1
  | .iface _ d => uptoBulk d + 1
  | .map entries => uptoBulkEntries entries + 1
  | .held _ => 1
def uptoBulkAll {H : Type} : List (DataW H) → Nat
  | [] => 0
  | d :: r => uptoBulk d + uptoBulkAll r
def uptoBulkEntries {H : Type} : List (Lit × DataW H) → Nat
  | [] => 0
  | x :: r => uptoBulkEntry x + uptoBulkEntries r
def uptoBulkEntry {H : Type} : Lit × DataW H → Nat
  | (.string bytes, d) => bytes.length + uptoBulk d + 1
  | (_, d) => uptoBulk d + 1
 end
def uptoSmall : (H : Type) → List (DataW H) → Bool := fun _ ds => decide (uptoBulkAll ds ≤ 1048576)
def OpenSpec.upto (s : _root_.Go.ChangeSpec) : _root_.Go.OpenSpec := { _root_.Go.OpenSpec.ofChange s with cond := some uptoSmall }

/-- 'laws.FnAhead', WHERE WHAT IT READS IS OF BULK AT MOST 1048576: true; the input reads as it did. -/
def fnAheadUptoRow : OpenClaim := { program := "ytaccphdkapmdhaagreat", sum := "5db7d9f9839c1f545ae49e083eac60e839be71c00b9df8c2d02918b1f63afc85", func := "loop.example/pub-g03443/laws.FnAhead", spec := "fnAhead", unfollowed := true, recurses := true, apart := false, narrowed := true }
def FnAheadUptoSaid : Prop := fnAheadUptoRow.holds Tryz.pinned (OpenSpec.upto fnAheadSpec)

/-- 'laws.FnTwice', WHERE WHAT IT READS IS OF BULK AT MOST 1048576: true; the input reads as it did. -/
def fnTwiceUptoRow : OpenClaim := { program := "ytaccphdkapmdhaagreat", sum := "5db7d9f9839c1f545ae49e083eac60e839be71c00b9df8c2d02918b1f63afc85", func := "loop.example/pub-g03443/laws.FnTwice", spec := "fnTwice", unfollowed := true, recurses := true, apart := false, narrowed := true }
def FnTwiceUptoSaid : Prop := fnTwiceUptoRow.holds Tryz.pinned (OpenSpec.upto fnTwiceSpec)

/-- 'laws.FnFew', WHERE WHAT IT READS IS OF BULK AT MOST 1048576: true; the input reads as it did. -/
def fnFewUptoRow : OpenClaim := { program := "ytaccphdkapmdhaagreat", sum := "5db7d9f9839c1f545ae49e083eac60e839be71c00b9df8c2d02918b1f63afc85", func := "loop.example/pub-g03443/laws.FnFew", spec := "fnFew", unfollowed := true, recurses := true, apart := false, narrowed := true }
def FnFewUptoSaid : Prop := fnFewUptoRow.holds Tryz.pinned (OpenSpec.upto fnFewSpec)

/-- 'laws.FnHowever', WHERE WHAT IT READS IS OF BULK AT MOST 1048576: true; the input reads as it did. -/
def fnHoweverUptoRow : OpenClaim := { program := "ytaccphdkapmdhaagreat", sum := "5db7d9f9839c1f545ae49e083eac60e839be71c00b9df8c2d02918b1f63afc85", func := "loop.example/pub-g03443/laws.FnHowever", spec := "fnHowever", unfollowed := true, recurses := true, apart := false, narrowed := true }
def FnHoweverUptoSaid : Prop := fnHoweverUptoRow.holds Tryz.pinned (OpenSpec.upto fnHoweverSpec)

/-- 'laws.FnLonger', WHERE WHAT IT READS IS OF BULK AT MOST 1048576: true; the input reads as it did. -/
def fnLongerUptoRow : OpenClaim := { program := "ytaccphdkapmdhaagreat", sum := "5db7d9f9839c1f545ae49e083eac60e839be71c00b9df8c2d02918b1f63afc85", func := "loop.example/pub-g03443/laws.FnLonger", spec := "fnLonger", unfollowed := true, recurses := true, apart := false, narrowed := true }
def FnLongerUptoSaid : Prop := fnLongerUptoRow.holds Tryz.pinned (OpenSpec.upto fnLongerSpec)

/-- 'laws.FnMeans', WHERE WHAT IT READS IS OF BULK AT MOST 1048576: true; the input reads as it did. -/
def fnMeansUptoRow : OpenClaim := { program := "ytaccphdkapmdhaagreat", sum := "5db7d9f9839c1f545ae49e083eac60e839be71c00b9df8c2d02918b1f63afc85", func := "loop.example/pub-g03443/laws.FnMeans", spec := "fnMeans", unfollowed := true, recurses := true, apart := false, narrowed := true }
def FnMeansUptoSaid : Prop := fnMeansUptoRow.holds Tryz.pinned (OpenSpec.upto fnMeansSpec)

end Rows
end Go.Proofs.YtaccphdkapmdhaaGreat
