/-
  No cell of these rows narrows 'for every input' (looked for: loops, veiled, ifaces, maps, wideKeys, modest, calm, conditions, laid).
  DERIVED. THE GIVEN ROWS OF THIS SEAT. 7 by the template 'for every input the law returns true; each argument reads behind the call as it read before'; 0 by the template 'total and deterministic' (their statements: Qxb6602287aTotals.lean).
  GIVEN WITH THE SEED: the statements are not yours to turn. If you find one false, say at which input.
  Laid BY PROGRAM, IN A SANDBOX (cutbox-rows.mjs): the forced cells as the released guide's own fill.sh prints them over the translation 1de99436d1db053f… (all of the seat's roots in one cut). By AI agents, Wed Nov 11 2026. No macro, syntax, notation, axiom, sorry.
-/
import Derived.Test.Qxb6602287aChecked
import GoSem.Claim
import GoSem.ClaimJoined
import GoSem.ClaimMapViews
import Derived.JoinedTies
import Derived.KernelRfl
namespace Go.Proofs.Qxb6602287a
/- THE CELL 'sum', in the pinned program and in every row, IS THE sha256 OF THE DUMP (.gsa) THAT Qxb6602287aProg.lean LOADS. Nothing in Lean hashes anything: it is a label: what it is worth is what the hold of that sum in a sandbox is worth. -/
noncomputable def Try.pinned : Pinned := { name := "qxb6602287a", sum := "1de99436d1db053f936a68eab83d594023382baa10a3951cf087dfd7bf85d11e", checked := Try.checked }
namespace Rows
def none {H : Type} : Left H := { results := [], args := [] }

/-- 'zzlaws_challenge_b1.FnIsGateNameSpec': WHATEVER THE INPUT: true; the input reads as it did. -/
def fnIsGateNameSpecSpec : ChangeSpec := { name := "fnIsGateNameSpec", fn := fun _ => fun
  | [d] => { results := [.lit (.bool true)], args := [d] }
  | _ => none }
def fnIsGateNameSpecRow : OpenClaim := { program := "qxb6602287a", sum := "1de99436d1db053f936a68eab83d594023382baa10a3951cf087dfd7bf85d11e", func := "example.com/strict-gate/strict-gate/zzlaws_challenge_b1.FnIsGateNameSpec", spec := "fnIsGateNameSpec", apart := false }
def FnIsGateNameSpecSaid : Prop := fnIsGateNameSpecRow.holds Try.pinned (OpenSpec.ofChange fnIsGateNameSpecSpec)

/-- ITS FALSE NEIGHBOUR: 'it returns false'. Refute it at one input. -/
def fnIsGateNameSpecWrong : ChangeSpec := { name := "fnIsGateNameSpec", fn := fun _ => fun
  | [d] => { results := [.lit (.bool false)], args := [d] }
  | _ => none }
def FnIsGateNameSpecWrongFalsely : Prop := fnIsGateNameSpecRow.holds Try.pinned (OpenSpec.ofChange fnIsGateNameSpecWrong)

/-- 'zzlaws_challenge_b1.FnIsGateNameConcat': WHATEVER THE INPUT: true; the input reads as it did. -/
def fnIsGateNameConcatSpec : ChangeSpec := { name := "fnIsGateNameConcat", fn := fun _ => fun
  | [d1, d2] => { results := [.lit (.bool true)], args := [d1, d2] }
  | _ => none }
def fnIsGateNameConcatRow : OpenClaim := { program := "qxb6602287a", sum := "1de99436d1db053f936a68eab83d594023382baa10a3951cf087dfd7bf85d11e", func := "example.com/strict-gate/strict-gate/zzlaws_challenge_b1.FnIsGateNameConcat", spec := "fnIsGateNameConcat", apart := false }
def FnIsGateNameConcatSaid : Prop := fnIsGateNameConcatRow.holds Try.pinned (OpenSpec.ofChange fnIsGateNameConcatSpec)

/-- ITS FALSE NEIGHBOUR: 'it returns false'. Refute it at one input. -/
def fnIsGateNameConcatWrong : ChangeSpec := { name := "fnIsGateNameConcat", fn := fun _ => fun
  | [d1, d2] => { results := [.lit (.bool false)], args := [d1, d2] }
  | _ => none }
def FnIsGateNameConcatWrongFalsely : Prop := fnIsGateNameConcatRow.holds Try.pinned (OpenSpec.ofChange fnIsGateNameConcatWrong)

/-- 'zzlaws_challenge_b1.FnReadUintSpec': WHATEVER THE INPUT: true; the input reads as it did. -/
def fnReadUintSpecSpec : ChangeSpec := { name := "fnReadUintSpec", fn := fun _ => fun
  | [d] => { results := [.lit (.bool true)], args := [d] }
  | _ => none }
def fnReadUintSpecRow : OpenClaim := { program := "qxb6602287a", sum := "1de99436d1db053f936a68eab83d594023382baa10a3951cf087dfd7bf85d11e", func := "example.com/strict-gate/strict-gate/zzlaws_challenge_b1.FnReadUintSpec", spec := "fnReadUintSpec", apart := false }
def FnReadUintSpecSaid : Prop := fnReadUintSpecRow.holds Try.pinned (OpenSpec.ofChange fnReadUintSpecSpec)

/-- ITS FALSE NEIGHBOUR: 'it returns false'. Refute it at one input. -/
def fnReadUintSpecWrong : ChangeSpec := { name := "fnReadUintSpec", fn := fun _ => fun
  | [d] => { results := [.lit (.bool false)], args := [d] }
  | _ => none }
def FnReadUintSpecWrongFalsely : Prop := fnReadUintSpecRow.holds Try.pinned (OpenSpec.ofChange fnReadUintSpecWrong)

/-- 'zzlaws_challenge_b1.FnReadUintOrder': WHATEVER THE INPUT: true; the input reads as it did. -/
def fnReadUintOrderSpec : ChangeSpec := { name := "fnReadUintOrder", fn := fun _ => fun
  | [d1, d2] => { results := [.lit (.bool true)], args := [d1, d2] }
  | _ => none }
def fnReadUintOrderRow : OpenClaim := { program := "qxb6602287a", sum := "1de99436d1db053f936a68eab83d594023382baa10a3951cf087dfd7bf85d11e", func := "example.com/strict-gate/strict-gate/zzlaws_challenge_b1.FnReadUintOrder", spec := "fnReadUintOrder", apart := false }
def FnReadUintOrderSaid : Prop := fnReadUintOrderRow.holds Try.pinned (OpenSpec.ofChange fnReadUintOrderSpec)

/-- ITS FALSE NEIGHBOUR: 'it returns false'. Refute it at one input. -/
def fnReadUintOrderWrong : ChangeSpec := { name := "fnReadUintOrder", fn := fun _ => fun
  | [d1, d2] => { results := [.lit (.bool false)], args := [d1, d2] }
  | _ => none }
def FnReadUintOrderWrongFalsely : Prop := fnReadUintOrderRow.holds Try.pinned (OpenSpec.ofChange fnReadUintOrderWrong)

/-- 'zzlaws_challenge_b1.FnPutUintSpec': WHATEVER THE INPUT: true; the input reads as it did. -/
def fnPutUintSpecSpec : ChangeSpec := { name := "fnPutUintSpec", fn := fun _ => fun
  | [d1, d2] => { results := [.lit (.bool true)], args := [d1, d2] }
  | _ => none }
def fnPutUintSpecRow : OpenClaim := { program := "qxb6602287a", sum := "1de99436d1db053f936a68eab83d594023382baa10a3951cf087dfd7bf85d11e", func := "example.com/strict-gate/strict-gate/zzlaws_challenge_b1.FnPutUintSpec", spec := "fnPutUintSpec", apart := false }
def FnPutUintSpecSaid : Prop := fnPutUintSpecRow.holds Try.pinned (OpenSpec.ofChange fnPutUintSpecSpec)

/-- ITS FALSE NEIGHBOUR: 'it returns false'. Refute it at one input. -/
def fnPutUintSpecWrong : ChangeSpec := { name := "fnPutUintSpec", fn := fun _ => fun
  | [d1, d2] => { results := [.lit (.bool false)], args := [d1, d2] }
  | _ => none }
def FnPutUintSpecWrongFalsely : Prop := fnPutUintSpecRow.holds Try.pinned (OpenSpec.ofChange fnPutUintSpecWrong)

/-- 'zzlaws_challenge_b1.FnPutThenReadKeepsLowBytes': WHATEVER THE INPUT: true; the input reads as it did. -/
def fnPutThenReadKeepsLowBytesSpec : ChangeSpec := { name := "fnPutThenReadKeepsLowBytes", fn := fun _ => fun
  | [d1, d2] => { results := [.lit (.bool true)], args := [d1, d2] }
  | _ => none }
def fnPutThenReadKeepsLowBytesRow : OpenClaim := { program := "qxb6602287a", sum := "1de99436d1db053f936a68eab83d594023382baa10a3951cf087dfd7bf85d11e", func := "example.com/strict-gate/strict-gate/zzlaws_challenge_b1.FnPutThenReadKeepsLowBytes", spec := "fnPutThenReadKeepsLowBytes", apart := false }
def FnPutThenReadKeepsLowBytesSaid : Prop := fnPutThenReadKeepsLowBytesRow.holds Try.pinned (OpenSpec.ofChange fnPutThenReadKeepsLowBytesSpec)

/-- ITS FALSE NEIGHBOUR: 'it returns false'. Refute it at one input. -/
def fnPutThenReadKeepsLowBytesWrong : ChangeSpec := { name := "fnPutThenReadKeepsLowBytes", fn := fun _ => fun
  | [d1, d2] => { results := [.lit (.bool false)], args := [d1, d2] }
  | _ => none }
def FnPutThenReadKeepsLowBytesWrongFalsely : Prop := fnPutThenReadKeepsLowBytesRow.holds Try.pinned (OpenSpec.ofChange fnPutThenReadKeepsLowBytesWrong)

/-- 'zzlaws_challenge_b1.FnReadThenPutRestores': WHATEVER THE INPUT: true; the input reads as it did. -/
def fnReadThenPutRestoresSpec : ChangeSpec := { name := "fnReadThenPutRestores", fn := fun _ => fun
  | [d] => { results := [.lit (.bool true)], args := [d] }
  | _ => none }
def fnReadThenPutRestoresRow : OpenClaim := { program := "qxb6602287a", sum := "1de99436d1db053f936a68eab83d594023382baa10a3951cf087dfd7bf85d11e", func := "example.com/strict-gate/strict-gate/zzlaws_challenge_b1.FnReadThenPutRestores", spec := "fnReadThenPutRestores", apart := false }
def FnReadThenPutRestoresSaid : Prop := fnReadThenPutRestoresRow.holds Try.pinned (OpenSpec.ofChange fnReadThenPutRestoresSpec)

/-- ITS FALSE NEIGHBOUR: 'it returns false'. Refute it at one input. -/
def fnReadThenPutRestoresWrong : ChangeSpec := { name := "fnReadThenPutRestores", fn := fun _ => fun
  | [d] => { results := [.lit (.bool false)], args := [d] }
  | _ => none }
def FnReadThenPutRestoresWrongFalsely : Prop := fnReadThenPutRestoresRow.holds Try.pinned (OpenSpec.ofChange fnReadThenPutRestoresWrong)

end Rows
end Go.Proofs.Qxb6602287a
