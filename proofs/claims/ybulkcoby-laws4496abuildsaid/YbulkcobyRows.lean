/-
  No cell of these rows narrows 'for every input' (looked for: loops, veiled, ifaces, maps, wideKeys, modest, calm, conditions, laid).
  DERIVED. THE GIVEN ROWS OF THIS SEAT. 2 by the template 'for every input the law returns true; each argument reads behind the call as it read before'; 0 by the template 'total and deterministic' (their statements: YbulkcobyTotals.lean).
  GIVEN WITH THE SEED: the statements are not yours to turn. If you find one false, say at which input.
  Laid BY PROGRAM, IN A SANDBOX (cutbox-rows.mjs): the forced cells as the released guide's own fill.sh prints them over the translation 24212c59bb7f750f… (all of the seat's roots in one cut). By AI agents, Wed Nov 11 2026. No macro, syntax, notation, axiom, sorry.
-/
import Derived.Test.YbulkcobyChecked
import GoSem.Claim
import GoSem.ClaimJoined
import GoSem.ClaimMapViews
import Derived.JoinedTies
import Derived.KernelRfl
namespace Go.Proofs.Ybulkcoby
/- THE CELL 'sum', in the pinned program and in every row, IS THE sha256 OF THE DUMP (.gsa) THAT YbulkcobyProg.lean LOADS. Nothing in Lean hashes anything: it is a label: what it is worth is what the hold of that sum in a sandbox is worth. -/
noncomputable def Yba.pinned : Pinned := { name := "ybulkcoby", sum := "24212c59bb7f750ff842e8bda6841f32eaf97319a08483062feb8d7b02af444a", checked := Yba.checked }
namespace Rows
def none {H : Type} : Left H := { results := [], args := [] }

/-- 'tallyfold.LawS4496ABuild': WHATEVER THE INPUT: true; the input reads as it did. -/
def lawS4496ABuildSpec : ChangeSpec := { name := "lawS4496ABuild", fn := fun _ => fun
  | [d1, d2, d3, d4] => { results := [.lit (.bool true)], args := [d1, d2, d3, d4] }
  | _ => none }
def lawS4496ABuildRow : OpenClaim := { program := "ybulkcoby", sum := "24212c59bb7f750ff842e8bda6841f32eaf97319a08483062feb8d7b02af444a", func := "example.com/tallyfold/tallyfold.LawS4496ABuild", spec := "lawS4496ABuild", unfollowed := true, recurses := true, apart := false }
def LawS4496ABuildSaid : Prop := lawS4496ABuildRow.holds Yba.pinned (OpenSpec.ofChange lawS4496ABuildSpec)

/-- ITS FALSE NEIGHBOUR: 'it returns false'. Refute it at one input. -/
def lawS4496ABuildWrong : ChangeSpec := { name := "lawS4496ABuild", fn := fun _ => fun
  | [d1, d2, d3, d4] => { results := [.lit (.bool false)], args := [d1, d2, d3, d4] }
  | _ => none }
def LawS4496ABuildWrongFalsely : Prop := lawS4496ABuildRow.holds Yba.pinned (OpenSpec.ofChange lawS4496ABuildWrong)

/-- 'tallyfold.LawS4496AArity': WHATEVER THE INPUT: true; the input reads as it did. -/
def lawS4496AAritySpec : ChangeSpec := { name := "lawS4496AArity", fn := fun _ => fun
  | [d1, d2, d3, d4] => { results := [.lit (.bool true)], args := [d1, d2, d3, d4] }
  | _ => none }
def lawS4496AArityRow : OpenClaim := { program := "ybulkcoby", sum := "24212c59bb7f750ff842e8bda6841f32eaf97319a08483062feb8d7b02af444a", func := "example.com/tallyfold/tallyfold.LawS4496AArity", spec := "lawS4496AArity", apart := false }
def LawS4496AAritySaid : Prop := lawS4496AArityRow.holds Yba.pinned (OpenSpec.ofChange lawS4496AAritySpec)

/-- ITS FALSE NEIGHBOUR: 'it returns false'. Refute it at one input. -/
def lawS4496AArityWrong : ChangeSpec := { name := "lawS4496AArity", fn := fun _ => fun
  | [d1, d2, d3, d4] => { results := [.lit (.bool false)], args := [d1, d2, d3, d4] }
  | _ => none }
def LawS4496AArityWrongFalsely : Prop := lawS4496AArityRow.holds Yba.pinned (OpenSpec.ofChange lawS4496AArityWrong)

end Rows
end Go.Proofs.Ybulkcoby
