/-
  'Rows.FnCountRisesByWhatOneBucketGainsSaid', proved. The frame is the guide's (proof-skeleton.mjs, howto/template/XProofs.lean), turned to these five parameters.
-/
import Derived.Test.Qxb6632369aRows
import Derived.Test.Qxb6632369aOpen
import Derived.Test.Qxb6632369aWalkA
import Derived.ChangeOld
import Derived.Below
namespace Go.Proofs.Qxb6632369a.fnCountRises
open Go.ChangeShapes Go.WideShapes Go.ChangeAt Go.RowKit
set_option linter.unusedVariables false

theorem walk (a0 : Option Addr) (l0 c0 : Nat) (V0 : Nat → Nat) (a1 : Option Addr) (l1 c1 : Nat) (V1 : Nat → Int) (s : Nat) (i d : Int) (w : World)
    (m0 : l0 ≤ maxLen) (m1 : l1 ≤ maxLen) (r0 : FRow w a0 l0 V0) (r1 : URow w a1 l1 V1) :
    Calls Try.prog 3 #[.slice a0 l0 c0, .slice a1 l1 c1, .float .f64 s, .int .i64 i, .int .u64 d] w fun e w' => e = .returned (.bool true) ∧ Below w.heap.size w w' := by
  by_cases hm : l0 ≤ 65536 ∧ l1 ≤ 65536 ∧ l1 ≤ l0 + 1 ∧ l0 + 1 ≤ l1 ∧ 0 ≤ i ∧ i < (l1 : Int)
  · obtain ⟨h0, h1, e1, e2, i0, i1⟩ := hm
    obtain ⟨j, rfl⟩ : ∃ j : Nat, i = j := ⟨i.toNat, by omega⟩
    rcases r1 with r1 | ⟨b, o, rfl, hc⟩
    · omega
    · exact rises_main a0 l0 c0 V0 b o l1 c1 V1 s j d w h0 h1 e1 e2 (by omega) r0 hc
  · refine (rises_early a0 a1 l0 c0 l1 c1 s i d w m0 m1 (by omega)).mono ?_
    rintro e w' ⟨rfl, rfl⟩
    exact ⟨rfl, Below.refl _ _⟩

set_option maxRecDepth 100000 in
theorem lifted (os : Os) (started : os.Started) (H : Type) (enc : TypeId × Value → H) :
    ReturnsInHanded {} Try.checked os 3 .any (Rows.fnCountRisesByWhatOneBucketGainsSpec.pre6 enc Try.prog Try.f3 Rows.fnCountRisesByWhatOneBucketGainsRow.domain false) (Rows.fnCountRisesByWhatOneBucketGainsSpec.post enc Try.prog Try.f3 false true false false) := by
  refine returnsInHanded_of_change (C := Try.checked) own started (by kernel_rfl) Try.func3
    (ChangeSpec.witness6 (enc := enc) (C := Try.checked) false ⟨#[], #[.slice none 0 0, .slice none 0 0, .float .f64 0, .int .i64 0, .int .u64 0], []⟩ 8 (by kernel_rfl) (by kernel_rfl) (by kernel_rfl) (by kernel_rfl)) ?_
  intro W base args ds gs before hval0 hW hcnd _
  have hval : ∀ (j : Nat) t v, Try.f3.params[j]? = some t → args[j]? = some v → Value.okWide Try.prog W .any base t v := hval0
  have hW' := hW
  obtain ⟨p, q, hA0, hV, rfl, hfz, hnd⟩ := hW
  have hA : DataW.TrodAll enc Try.prog W 0 (fun _ => true) true Try.f3.params.toList args.toList ds p := hA0
  rw [Try.params3] at hA hval
  obtain ⟨v0, vs0, d0, ds0, p0, q0, hargs, rfl, rfl, h0, r0⟩ := trodAll_cons hA
  obtain ⟨v1, vs1, d1, ds1, p1, q1, rfl, rfl, rfl, h1, r1⟩ := trodAll_cons r0
  obtain ⟨v2, vs2, d2, ds2, p2, q2, rfl, rfl, rfl, h2, r2⟩ := trodAll_cons r1
  obtain ⟨v3, vs3, d3, ds3, p3, q3, rfl, rfl, rfl, h3, r3⟩ := trodAll_cons r2
  obtain ⟨v4, vs4, d4, ds4, p4, q4, rfl, rfl, rfl, h4, r4⟩ := trodAll_cons r3
  obtain ⟨rfl, rfl, rfl⟩ := trodAll_nil r4
  obtain rfl : args = #[v0, v1, v2, v3, v4] := by cases args; simp_all
  obtain ⟨rfl, rfl⟩ := trodVars_none hV
  obtain ⟨a0, len0, cap0, rfl⟩ := okWide_slice Try.underlying22 (hval 0 22 v0 rfl rfl)
  have lt0 : ∀ x ∈ p0, x.block < W.heap.size := by obtain ⟨m, hm⟩ := h0; exact DataW.trod_lt m _ _ _ hm
  obtain ⟨z0, m0, w0⟩ := open_floats h0
  obtain ⟨a1, len1, cap1, rfl⟩ := okWide_slice Try.underlying23 (hval 1 23 v1 rfl rfl)
  have lt1 : ∀ x ∈ p1, x.block < W.heap.size := by obtain ⟨m, hm⟩ := h1; exact DataW.trod_lt m _ _ _ hm
  obtain ⟨z1, m1, w1⟩ := open_uints h1
  obtain ⟨s, rfl, rfl, rfl, w2⟩ := open_float Try.underlying24 (hval 2 24 v2 rfl rfl) h2
  obtain ⟨i, rfl, rfl, rfl, w3⟩ := open_int Try.underlying3 (hval 3 3 v3 rfl rfl) h3
  obtain ⟨d, rfl, rfl, rfl, w4⟩ := open_int Try.underlying25 (hval 4 25 v4 rfl rfl) h4
  clear hA0 hval0
  refine (walk a0 len0 cap0 z0 a1 len1 cap1 z1 s i d W m0 m1 w0 w1).mono fun e W' ⟨he, bel⟩ => ?_
  subst he
  exact ⟨_, rfl, _, _, _, [], _, [], hW', trodAll_mk1 (shut_bool Try.underlying4 _), (trodAll_cons_mk (Below.trod laidOut (by kernel_rfl) (of_decide_eq_true (by kernel_rfl)) h0 bel lt0) (trodAll_cons_mk (Below.trod laidOut (by kernel_rfl) (of_decide_eq_true (by kernel_rfl)) h1 bel lt1) (trodAll_cons_mk (shut_float Try.underlying24 w2) (trodAll_cons_mk (shut_int Try.underlying3 w3) (trodAll_cons_mk (shut_int Try.underlying25 w4) trodAll_mk0))))), rfl, bel.frame _, fun h => by cases h⟩

theorem over : Rows.fnCountRisesByWhatOneBucketGainsRow.holds Try.pinned (OpenSpec.ofChange Rows.fnCountRisesByWhatOneBucketGainsSpec) :=
  OpenClaim.holds_of_wide 3 Try.f3 rfl rfl rfl rfl rfl rfl rfl ⟨rfl, rfl, rfl, rfl, rfl⟩ rfl rfl rfl rfl rfl (by kernel_rfl) Try.func3 (by kernel_rfl)
    (of_decide_eq_true (by kernel_rfl)) (by unfold Func.isWrapper; first | (rw [if_pos (by decide +kernel)]; kernel_rfl) | (rw [if_neg (by decide +kernel)]; exact ⟨rfl, rfl⟩))
    (fun os started H enc _ => lifted os started H enc)

theorem proved : Rows.FnCountRisesByWhatOneBucketGainsSaid := over
#print axioms proved
end Go.Proofs.Qxb6632369a.fnCountRises
