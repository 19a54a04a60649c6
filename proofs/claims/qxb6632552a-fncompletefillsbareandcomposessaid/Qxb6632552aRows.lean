/-
  No cell of these rows narrows 'for every input' (looked for: loops, veiled, ifaces, maps, wideKeys, modest, calm, conditions, laid).
  DERIVED. THE GIVEN ROWS OF THIS SEAT. 2 by the template 'for every input the law returns true; each argument reads behind the call as it read before'; 0 by the template 'total and deterministic' (their statements: Qxb6632552aTotals.lean).
  GIVEN WITH THE SEED: the statements are not yours to turn. If you find one false, say at which input.
  Laid BY PROGRAM, IN A SANDBOX (cutbox-rows.mjs): the forced cells as the released guide's own fill.sh prints them over the translation 9c22b5fea0d4ef92… (all of the seat's roots in one cut). By AI agents, Wed Nov 11 2026. No macro, syntax, notation, axiom, sorry.
-/
import Derived.Test.Qxb6632552aChecked
import GoSem.Claim
import GoSem.ClaimJoined
import GoSem.ClaimMapViews
import Derived.JoinedTies
import Derived.KernelRfl
namespace Go.Proofs.Qxb6632552a
/- THE CELL 'sum', in the pinned program and in every row, IS THE sha256 OF THE DUMP (.gsa) THAT Qxb6632552aProg.lean LOADS. Nothing in Lean hashes anything: it is a label: what it is worth is what the hold of that sum in a sandbox is worth. -/
noncomputable def Try.pinned : Pinned := { name := "qxb6632552a", sum := "9c22b5fea0d4ef928ceb85562bc0b386fc77e59f8c48e5b08e47ed75d8f571a9", checked := Try.checked }
namespace Rows
def none {H : Type} : Left H := { results := [], args := [] }

/-- 'zzlaws_names_b1.FnCompleteFillsBareAndComposes': WHATEVER THE INPUT: true; the input reads as it did. -/
def fnCompleteFillsBareAndComposesSpec : ChangeSpec := { name := "fnCompleteFillsBareAndComposes", fn := fun _ => fun
  | [d1, d2, d3, d4, d5, d6, d7, d8, d9, d10] => { results := [.lit (.bool true)], args := [d1, d2, d3, d4, d5, d6, d7, d8, d9, d10] }
  | _ => none }
def fnCompleteFillsBareAndComposesRow : OpenClaim := { program := "qxb6632552a", sum := "9c22b5fea0d4ef928ceb85562bc0b386fc77e59f8c48e5b08e47ed75d8f571a9", func := "example.com/immutable-zoo/immutable-zoo/zzlaws_names_b1.FnCompleteFillsBareAndComposes", spec := "fnCompleteFillsBareAndComposes", apart := false }
def FnCompleteFillsBareAndComposesSaid : Prop := fnCompleteFillsBareAndComposesRow.holds Try.pinned (OpenSpec.ofChange fnCompleteFillsBareAndComposesSpec)

/-- ITS FALSE NEIGHBOUR: 'it returns false'. Refute it at one input. -/
def fnCompleteFillsBareAndComposesWrong : ChangeSpec := { name := "fnCompleteFillsBareAndComposes", fn := fun _ => fun
  | [d1, d2, d3, d4, d5, d6, d7, d8, d9, d10] => { results := [.lit (.bool false)], args := [d1, d2, d3, d4, d5, d6, d7, d8, d9, d10] }
  | _ => none }
def FnCompleteFillsBareAndComposesWrongFalsely : Prop := fnCompleteFillsBareAndComposesRow.holds Try.pinned (OpenSpec.ofChange fnCompleteFillsBareAndComposesWrong)

/-- 'zzlaws_names_b1.FnCompleteFillsEverySlotAndThenStays': WHATEVER THE INPUT: true; the input reads as it did. -/
def fnCompleteFillsEverySlotAndThenStaysSpec : ChangeSpec := { name := "fnCompleteFillsEverySlotAndThenStays", fn := fun _ => fun
  | [d1, d2, d3, d4, d5, d6, d7, d8, d9, d10] => { results := [.lit (.bool true)], args := [d1, d2, d3, d4, d5, d6, d7, d8, d9, d10] }
  | _ => none }
def fnCompleteFillsEverySlotAndThenStaysRow : OpenClaim := { program := "qxb6632552a", sum := "9c22b5fea0d4ef928ceb85562bc0b386fc77e59f8c48e5b08e47ed75d8f571a9", func := "example.com/immutable-zoo/immutable-zoo/zzlaws_names_b1.FnCompleteFillsEverySlotAndThenStays", spec := "fnCompleteFillsEverySlotAndThenStays", apart := false }
def FnCompleteFillsEverySlotAndThenStaysSaid : Prop := fnCompleteFillsEverySlotAndThenStaysRow.holds Try.pinned (OpenSpec.ofChange fnCompleteFillsEverySlotAndThenStaysSpec)

/-- ITS FALSE NEIGHBOUR: 'it returns false'. Refute it at one input. -/
def fnCompleteFillsEverySlotAndThenStaysWrong : ChangeSpec := { name := "fnCompleteFillsEverySlotAndThenStays", fn := fun _ => fun
  | [d1, d2, d3, d4, d5, d6, d7, d8, d9, d10] => { results := [.lit (.bool false)], args := [d1, d2, d3, d4, d5, d6, d7, d8, d9, d10] }
  | _ => none }
def FnCompleteFillsEverySlotAndThenStaysWrongFalsely : Prop := fnCompleteFillsEverySlotAndThenStaysRow.holds Try.pinned (OpenSpec.ofChange fnCompleteFillsEverySlotAndThenStaysWrong)

end Rows
end Go.Proofs.Qxb6632552a
