/-
  No cell of these rows narrows 'for every input' (looked for: loops, veiled, ifaces, maps, wideKeys, modest, calm, conditions, laid).
  DERIVED. THE GIVEN ROWS OF THIS SEAT. 2 by the template 'for every input the law returns true; each argument reads behind the call as it read before'; 0 by the template 'total and deterministic' (their statements: Qxb6612206aTotals.lean).
  GIVEN WITH THE SEED: the statements are not yours to turn. If you find one false, say at which input.
  Laid BY PROGRAM, IN A SANDBOX (cutbox-rows.mjs): the forced cells as the released guide's own fill.sh prints them over the translation d298a14bf9a37a5d… (all of the seat's roots in one cut). By AI agents, Wed Nov 11 2026. No macro, syntax, notation, axiom, sorry.
-/
import Derived.Test.Qxb6612206aChecked
import GoSem.Claim
import GoSem.ClaimJoined
import GoSem.ClaimMapViews
import Derived.JoinedTies
import Derived.KernelRfl
namespace Go.Proofs.Qxb6612206a
/- THE CELL 'sum', in the pinned program and in every row, IS THE sha256 OF THE DUMP (.gsa) THAT Qxb6612206aProg.lean LOADS. Nothing in Lean hashes anything: it is a label: what it is worth is what the hold of that sum in a sandbox is worth. -/
noncomputable def Try.pinned : Pinned := { name := "qxb6612206a", sum := "d298a14bf9a37a5de9bb7e4d3289f0798d05c5051ceae1e661bceae54ecc1de1", checked := Try.checked }
namespace Rows
def none {H : Type} : Left H := { results := [], args := [] }

/-- 'zzlaws_internal_book_b1.FnPositionFindsExactlyItsKey': WHATEVER THE INPUT: true; the input reads as it did. -/
def fnPositionFindsExactlyItsKeySpec : ChangeSpec := { name := "fnPositionFindsExactlyItsKey", fn := fun _ => fun
  | [d1, d2, d3, d4, d5] => { results := [.lit (.bool true)], args := [d1, d2, d3, d4, d5] }
  | _ => none }
def fnPositionFindsExactlyItsKeyRow : OpenClaim := { program := "qxb6612206a", sum := "d298a14bf9a37a5de9bb7e4d3289f0798d05c5051ceae1e661bceae54ecc1de1", func := "example.com/taelbook/taelbook/zzlaws_internal_book_b1.FnPositionFindsExactlyItsKey", spec := "fnPositionFindsExactlyItsKey", unfollowed := true, recurses := true, plainKeys := false, apart := false }
def FnPositionFindsExactlyItsKeySaid : Prop := fnPositionFindsExactlyItsKeyRow.holds Try.pinned (OpenSpec.ofChange fnPositionFindsExactlyItsKeySpec)

/-- ITS FALSE NEIGHBOUR: 'it returns false'. Refute it at one input. -/
def fnPositionFindsExactlyItsKeyWrong : ChangeSpec := { name := "fnPositionFindsExactlyItsKey", fn := fun _ => fun
  | [d1, d2, d3, d4, d5] => { results := [.lit (.bool false)], args := [d1, d2, d3, d4, d5] }
  | _ => none }
def FnPositionFindsExactlyItsKeyWrongFalsely : Prop := fnPositionFindsExactlyItsKeyRow.holds Try.pinned (OpenSpec.ofChange fnPositionFindsExactlyItsKeyWrong)

/-- 'zzlaws_internal_book_b1.FnPositionFindsEveryHeldOneAndNoNeighbour': WHATEVER THE INPUT: true; the input reads as it did. -/
def fnPositionFindsEveryHeldOneAndNoNeighbourSpec : ChangeSpec := { name := "fnPositionFindsEveryHeldOneAndNoNeighbour", fn := fun _ => fun
  | [d1, d2, d3] => { results := [.lit (.bool true)], args := [d1, d2, d3] }
  | _ => none }
def fnPositionFindsEveryHeldOneAndNoNeighbourRow : OpenClaim := { program := "qxb6612206a", sum := "d298a14bf9a37a5de9bb7e4d3289f0798d05c5051ceae1e661bceae54ecc1de1", func := "example.com/taelbook/taelbook/zzlaws_internal_book_b1.FnPositionFindsEveryHeldOneAndNoNeighbour", spec := "fnPositionFindsEveryHeldOneAndNoNeighbour", unfollowed := true, recurses := true, plainKeys := false, apart := false }
def FnPositionFindsEveryHeldOneAndNoNeighbourSaid : Prop := fnPositionFindsEveryHeldOneAndNoNeighbourRow.holds Try.pinned (OpenSpec.ofChange fnPositionFindsEveryHeldOneAndNoNeighbourSpec)

/-- ITS FALSE NEIGHBOUR: 'it returns false'. Refute it at one input. -/
def fnPositionFindsEveryHeldOneAndNoNeighbourWrong : ChangeSpec := { name := "fnPositionFindsEveryHeldOneAndNoNeighbour", fn := fun _ => fun
  | [d1, d2, d3] => { results := [.lit (.bool false)], args := [d1, d2, d3] }
  | _ => none }
def FnPositionFindsEveryHeldOneAndNoNeighbourWrongFalsely : Prop := fnPositionFindsEveryHeldOneAndNoNeighbourRow.holds Try.pinned (OpenSpec.ofChange fnPositionFindsEveryHeldOneAndNoNeighbourWrong)

end Rows
end Go.Proofs.Qxb6612206a
