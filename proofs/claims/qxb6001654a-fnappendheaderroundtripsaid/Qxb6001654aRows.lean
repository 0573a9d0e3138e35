/-
  No cell of these rows narrows 'for every input' (looked for: loops, veiled, ifaces, maps, wideKeys, modest, calm, conditions, laid).
  DERIVED. THE GIVEN ROWS OF THIS SEAT. 3 by the template 'for every input the law returns true; each argument reads behind the call as it read before'; 0 by the template 'total and deterministic' (their statements: Qxb6001654aTotals.lean).
  GIVEN WITH THE SEED: the statements are not yours to turn. If you find one false, say at which input.
  Laid BY PROGRAM, IN A SANDBOX (cutbox-rows.mjs): the forced cells as the released guide's own fill.sh prints them over the translation c3a92f277306583a… (all of the seat's roots in one cut). By AI agents, Wed Nov 11 2026. No macro, syntax, notation, axiom, sorry.
-/
import Derived.Test.Qxb6001654aChecked
import GoSem.Claim
import GoSem.ClaimJoined
import GoSem.ClaimMapViews
import Derived.JoinedTies
import Derived.KernelRfl
namespace Go.Proofs.Qxb6001654a
/- THE CELL 'sum', in the pinned program and in every row, IS THE sha256 OF THE DUMP (.gsa) THAT Qxb6001654aProg.lean LOADS. Nothing in Lean hashes anything: it is a label: what it is worth is what the hold of that sum in a sandbox is worth. -/
noncomputable def Try.pinned : Pinned := { name := "qxb6001654a", sum := "c3a92f277306583abf6e5fbbfc06f2f23dda928420aae9f50986fdc9a7b0e85b", checked := Try.checked }
namespace Rows
def none {H : Type} : Left H := { results := [], args := [] }

/-- 'zzlaws_rlp_b1.FnAppendHeaderRoundTrip': WHATEVER THE INPUT: true; the input reads as it did. -/
def fnAppendHeaderRoundTripSpec : ChangeSpec := { name := "fnAppendHeaderRoundTrip", fn := fun _ => fun
  | [d1, d2, d3] => { results := [.lit (.bool true)], args := [d1, d2, d3] }
  | _ => none }
def fnAppendHeaderRoundTripRow : OpenClaim := { program := "qxb6001654a", sum := "c3a92f277306583abf6e5fbbfc06f2f23dda928420aae9f50986fdc9a7b0e85b", func := "example.com/nibbleroot/nibbleroot/zzlaws_rlp_b1.FnAppendHeaderRoundTrip", spec := "fnAppendHeaderRoundTrip", apart := false }
def FnAppendHeaderRoundTripSaid : Prop := fnAppendHeaderRoundTripRow.holds Try.pinned (OpenSpec.ofChange fnAppendHeaderRoundTripSpec)

/-- ITS FALSE NEIGHBOUR: 'it returns false'. Refute it at one input. -/
def fnAppendHeaderRoundTripWrong : ChangeSpec := { name := "fnAppendHeaderRoundTrip", fn := fun _ => fun
  | [d1, d2, d3] => { results := [.lit (.bool false)], args := [d1, d2, d3] }
  | _ => none }
def FnAppendHeaderRoundTripWrongFalsely : Prop := fnAppendHeaderRoundTripRow.holds Try.pinned (OpenSpec.ofChange fnAppendHeaderRoundTripWrong)

/-- 'zzlaws_rlp_b1.FnAppendHeaderLengthIsHeaderSize': WHATEVER THE INPUT: true; the input reads as it did. -/
def fnAppendHeaderLengthIsHeaderSizeSpec : ChangeSpec := { name := "fnAppendHeaderLengthIsHeaderSize", fn := fun _ => fun
  | [d1, d2, d3] => { results := [.lit (.bool true)], args := [d1, d2, d3] }
  | _ => none }
def fnAppendHeaderLengthIsHeaderSizeRow : OpenClaim := { program := "qxb6001654a", sum := "c3a92f277306583abf6e5fbbfc06f2f23dda928420aae9f50986fdc9a7b0e85b", func := "example.com/nibbleroot/nibbleroot/zzlaws_rlp_b1.FnAppendHeaderLengthIsHeaderSize", spec := "fnAppendHeaderLengthIsHeaderSize", apart := false }
def FnAppendHeaderLengthIsHeaderSizeSaid : Prop := fnAppendHeaderLengthIsHeaderSizeRow.holds Try.pinned (OpenSpec.ofChange fnAppendHeaderLengthIsHeaderSizeSpec)

/-- ITS FALSE NEIGHBOUR: 'it returns false'. Refute it at one input. -/
def fnAppendHeaderLengthIsHeaderSizeWrong : ChangeSpec := { name := "fnAppendHeaderLengthIsHeaderSize", fn := fun _ => fun
  | [d1, d2, d3] => { results := [.lit (.bool false)], args := [d1, d2, d3] }
  | _ => none }
def FnAppendHeaderLengthIsHeaderSizeWrongFalsely : Prop := fnAppendHeaderLengthIsHeaderSizeRow.holds Try.pinned (OpenSpec.ofChange fnAppendHeaderLengthIsHeaderSizeWrong)

/-- 'zzlaws_rlp_b1.FnAppendHeaderOrderPreserving': WHATEVER THE INPUT: true; the input reads as it did. -/
def fnAppendHeaderOrderPreservingSpec : ChangeSpec := { name := "fnAppendHeaderOrderPreserving", fn := fun _ => fun
  | [d1, d2, d3, d4] => { results := [.lit (.bool true)], args := [d1, d2, d3, d4] }
  | _ => none }
def fnAppendHeaderOrderPreservingRow : OpenClaim := { program := "qxb6001654a", sum := "c3a92f277306583abf6e5fbbfc06f2f23dda928420aae9f50986fdc9a7b0e85b", func := "example.com/nibbleroot/nibbleroot/zzlaws_rlp_b1.FnAppendHeaderOrderPreserving", spec := "fnAppendHeaderOrderPreserving", apart := false }
def FnAppendHeaderOrderPreservingSaid : Prop := fnAppendHeaderOrderPreservingRow.holds Try.pinned (OpenSpec.ofChange fnAppendHeaderOrderPreservingSpec)

/-- ITS FALSE NEIGHBOUR: 'it returns false'. Refute it at one input. -/
def fnAppendHeaderOrderPreservingWrong : ChangeSpec := { name := "fnAppendHeaderOrderPreserving", fn := fun _ => fun
  | [d1, d2, d3, d4] => { results := [.lit (.bool false)], args := [d1, d2, d3, d4] }
  | _ => none }
def FnAppendHeaderOrderPreservingWrongFalsely : Prop := fnAppendHeaderOrderPreservingRow.holds Try.pinned (OpenSpec.ofChange fnAppendHeaderOrderPreservingWrong)

end Rows
end Go.Proofs.Qxb6001654a
