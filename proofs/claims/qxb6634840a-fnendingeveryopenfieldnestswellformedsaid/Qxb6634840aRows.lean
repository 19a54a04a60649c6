/-
  No cell of these rows narrows 'for every input' (looked for: loops, veiled, ifaces, maps, wideKeys, modest, calm, conditions, laid).
  DERIVED. THE GIVEN ROWS OF THIS SEAT. 2 by the template 'for every input the law returns true; each argument reads behind the call as it read before'; 0 by the template 'total and deterministic' (their statements: Qxb6634840aTotals.lean).
  GIVEN WITH THE SEED: the statements are not yours to turn. If you find one false, say at which input.
  Laid BY PROGRAM, IN A SANDBOX (cutbox-rows.mjs): the forced cells as the released guide's own fill.sh prints them over the translation 4d4ddafa1dd241ba… (all of the seat's roots in one cut). By AI agents, Wed Nov 11 2026. No macro, syntax, notation, axiom, sorry.
-/
import Derived.Test.Qxb6634840aChecked
import GoSem.Claim
import GoSem.ClaimJoined
import GoSem.ClaimMapViews
import Derived.JoinedTies
import Derived.KernelRfl
namespace Go.Proofs.Qxb6634840a
/- THE CELL 'sum', in the pinned program and in every row, IS THE sha256 OF THE DUMP (.gsa) THAT Qxb6634840aProg.lean LOADS. Nothing in Lean hashes anything: it is a label: what it is worth is what the hold of that sum in a sandbox is worth. -/
noncomputable def Try.pinned : Pinned := { name := "qxb6634840a", sum := "4d4ddafa1dd241ba486d09966d548b91c2df690347b522a1980499a6bf60439f", checked := Try.checked }
namespace Rows
def none {H : Type} : Left H := { results := [], args := [] }

/-- 'zzlaws_internal_wire_b1.FnEndWritesBERLength': WHATEVER THE INPUT: true; the input reads as it did. -/
def fnEndWritesBERLengthSpec : ChangeSpec := { name := "fnEndWritesBERLength", fn := fun _ => fun
  | [d1, d2] => { results := [.lit (.bool true)], args := [d1, d2] }
  | _ => none }
def fnEndWritesBERLengthRow : OpenClaim := { program := "qxb6634840a", sum := "4d4ddafa1dd241ba486d09966d548b91c2df690347b522a1980499a6bf60439f", func := "example.com/who4/who4/zzlaws_internal_wire_b1.FnEndWritesBERLength", spec := "fnEndWritesBERLength", apart := false }
def FnEndWritesBERLengthSaid : Prop := fnEndWritesBERLengthRow.holds Try.pinned (OpenSpec.ofChange fnEndWritesBERLengthSpec)

/-- ITS FALSE NEIGHBOUR: 'it returns false'. Refute it at one input. -/
def fnEndWritesBERLengthWrong : ChangeSpec := { name := "fnEndWritesBERLength", fn := fun _ => fun
  | [d1, d2] => { results := [.lit (.bool false)], args := [d1, d2] }
  | _ => none }
def FnEndWritesBERLengthWrongFalsely : Prop := fnEndWritesBERLengthRow.holds Try.pinned (OpenSpec.ofChange fnEndWritesBERLengthWrong)

/-- 'zzlaws_internal_wire_b1.FnEndingEveryOpenFieldNestsWellFormed': WHATEVER THE INPUT: true; the input reads as it did. -/
def fnEndingEveryOpenFieldNestsWellFormedSpec : ChangeSpec := { name := "fnEndingEveryOpenFieldNestsWellFormed", fn := fun _ => fun
  | [d1, d2] => { results := [.lit (.bool true)], args := [d1, d2] }
  | _ => none }
def fnEndingEveryOpenFieldNestsWellFormedRow : OpenClaim := { program := "qxb6634840a", sum := "4d4ddafa1dd241ba486d09966d548b91c2df690347b522a1980499a6bf60439f", func := "example.com/who4/who4/zzlaws_internal_wire_b1.FnEndingEveryOpenFieldNestsWellFormed", spec := "fnEndingEveryOpenFieldNestsWellFormed", apart := false }
def FnEndingEveryOpenFieldNestsWellFormedSaid : Prop := fnEndingEveryOpenFieldNestsWellFormedRow.holds Try.pinned (OpenSpec.ofChange fnEndingEveryOpenFieldNestsWellFormedSpec)

/-- ITS FALSE NEIGHBOUR: 'it returns false'. Refute it at one input. -/
def fnEndingEveryOpenFieldNestsWellFormedWrong : ChangeSpec := { name := "fnEndingEveryOpenFieldNestsWellFormed", fn := fun _ => fun
  | [d1, d2] => { results := [.lit (.bool false)], args := [d1, d2] }
  | _ => none }
def FnEndingEveryOpenFieldNestsWellFormedWrongFalsely : Prop := fnEndingEveryOpenFieldNestsWellFormedRow.holds Try.pinned (OpenSpec.ofChange fnEndingEveryOpenFieldNestsWellFormedWrong)

end Rows
end Go.Proofs.Qxb6634840a
