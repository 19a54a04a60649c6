/-
  No cell of these rows narrows 'for every input' (looked for: loops, veiled, ifaces, maps, wideKeys, modest, calm, conditions, laid).
  DERIVED. THE GIVEN ROWS OF THIS SEAT. 2 by the template 'for every input the law returns true; each argument reads behind the call as it read before'; 0 by the template 'total and deterministic' (their statements: Qxb6632457aTotals.lean).
  GIVEN WITH THE SEED: the statements are not yours to turn. If you find one false, say at which input.
  Laid BY PROGRAM, IN A SANDBOX (cutbox-rows.mjs): the forced cells as the released guide's own fill.sh prints them over the translation 1d5fe25d8a3218a2… (all of the seat's roots in one cut). By AI agents, Wed Nov 11 2026. No macro, syntax, notation, axiom, sorry.
-/
import Derived.Test.Qxb6632457aChecked
import GoSem.Claim
import GoSem.ClaimJoined
import GoSem.ClaimMapViews
import Derived.JoinedTies
import Derived.KernelRfl
namespace Go.Proofs.Qxb6632457a
/- THE CELL 'sum', in the pinned program and in every row, IS THE sha256 OF THE DUMP (.gsa) THAT Qxb6632457aProg.lean LOADS. Nothing in Lean hashes anything: it is a label: what it is worth is what the hold of that sum in a sandbox is worth. -/
noncomputable def Try.pinned : Pinned := { name := "qxb6632457a", sum := "1d5fe25d8a3218a222fd23e0733c973b15d19c91f94744875bf5b6451a0ac3bd", checked := Try.checked }
namespace Rows
def none {H : Type} : Left H := { results := [], args := [] }

/-- 'zzlaws_expr_b1.FnFoldNameCutAndUpperForm': WHATEVER THE INPUT: true; the input reads as it did. -/
def fnFoldNameCutAndUpperFormSpec : ChangeSpec := { name := "fnFoldNameCutAndUpperForm", fn := fun _ => fun
  | [d1, d2] => { results := [.lit (.bool true)], args := [d1, d2] }
  | _ => none }
def fnFoldNameCutAndUpperFormRow : OpenClaim := { program := "qxb6632457a", sum := "1d5fe25d8a3218a222fd23e0733c973b15d19c91f94744875bf5b6451a0ac3bd", func := "example.com/aeacus/aeacus/zzlaws_expr_b1.FnFoldNameCutAndUpperForm", spec := "fnFoldNameCutAndUpperForm", apart := false }
def FnFoldNameCutAndUpperFormSaid : Prop := fnFoldNameCutAndUpperFormRow.holds Try.pinned (OpenSpec.ofChange fnFoldNameCutAndUpperFormSpec)

/-- ITS FALSE NEIGHBOUR: 'it returns false'. Refute it at one input. -/
def fnFoldNameCutAndUpperFormWrong : ChangeSpec := { name := "fnFoldNameCutAndUpperForm", fn := fun _ => fun
  | [d1, d2] => { results := [.lit (.bool false)], args := [d1, d2] }
  | _ => none }
def FnFoldNameCutAndUpperFormWrongFalsely : Prop := fnFoldNameCutAndUpperFormRow.holds Try.pinned (OpenSpec.ofChange fnFoldNameCutAndUpperFormWrong)

/-- 'zzlaws_expr_b1.FnFoldNameComparesCaseBlind': WHATEVER THE INPUT: true; the input reads as it did. -/
def fnFoldNameComparesCaseBlindSpec : ChangeSpec := { name := "fnFoldNameComparesCaseBlind", fn := fun _ => fun
  | [d1, d2] => { results := [.lit (.bool true)], args := [d1, d2] }
  | _ => none }
def fnFoldNameComparesCaseBlindRow : OpenClaim := { program := "qxb6632457a", sum := "1d5fe25d8a3218a222fd23e0733c973b15d19c91f94744875bf5b6451a0ac3bd", func := "example.com/aeacus/aeacus/zzlaws_expr_b1.FnFoldNameComparesCaseBlind", spec := "fnFoldNameComparesCaseBlind", apart := false }
def FnFoldNameComparesCaseBlindSaid : Prop := fnFoldNameComparesCaseBlindRow.holds Try.pinned (OpenSpec.ofChange fnFoldNameComparesCaseBlindSpec)

/-- ITS FALSE NEIGHBOUR: 'it returns false'. Refute it at one input. -/
def fnFoldNameComparesCaseBlindWrong : ChangeSpec := { name := "fnFoldNameComparesCaseBlind", fn := fun _ => fun
  | [d1, d2] => { results := [.lit (.bool false)], args := [d1, d2] }
  | _ => none }
def FnFoldNameComparesCaseBlindWrongFalsely : Prop := fnFoldNameComparesCaseBlindRow.holds Try.pinned (OpenSpec.ofChange fnFoldNameComparesCaseBlindWrong)

end Rows
end Go.Proofs.Qxb6632457a
