/-
  'Rows.FnCountSplitsAtAnyCutSaid', proved. The frame is the guide's (proof-skeleton.mjs, howto/template/XProofs.lean), turned to these four parameters.
-/
import Derived.Test.Qxb6632369aRows
import Derived.Test.Qxb6632369aOpen
import Derived.Test.Qxb6632369aWalkB
import Derived.ChangeOld
import Derived.Below
namespace Go.Proofs.Qxb6632369a.fnCountSplits
open Go.ChangeShapes Go.WideShapes Go.ChangeAt Go.RowKit
set_option linter.unusedVariables false

/-- A []uint64 that came in, with its numbers' bounds. -/
theorem open_uints_bd {H : Type} {enc : TypeId × Value → H} {w : World} {base : Nat} {spare : Nat → Bool} {held : Bool} {a : Option Addr} {len cap : Nat} {d : DataW H} {ps : List MemPlace}
    (h : DataW.Trod enc Try.prog w base spare held 23 (.slice a len cap) d ps) : ∃ V, len ≤ maxLen ∧ URow w a len V ∧ (0 < len → 0 ≤ V 0 ∧ V 0 < 18446744073709551616) := by
  have h' := h
  obtain ⟨V, hm, hr⟩ := open_uints h
  refine ⟨V, hm, hr, fun hp => ?_⟩
  obtain ⟨fuel, hf⟩ := h'
  rcases hr with hr | ⟨b, o, rfl, hc⟩
  · omega
  rcases open_ints Try.underlying23 Try.underlying25 (by kernel_rfl) hf with ⟨hcs, _⟩ | ⟨x, l, c, zs, hcs, _, hl, _, hz, _, hcell, hwz⟩
  · simp [Value.cells] at hcs
  · simp [Value.cells] at hcs
    obtain ⟨rfl, rfl, rfl⟩ := hcs
    have hzl : 0 < zs.length := by rw [hz]; split <;> omega
    have h1 := hcell 0 hzl
    have h2 := hc 0 hp
    rw [show (⟨b, o, none⟩ : Addr).add 0 = ⟨b, o + 0, none⟩ from rfl, h2] at h1
    simp only [Option.some.injEq, Value.int.injEq, true_and] at h1
    rw [h1]
    have h3 := bounds_u64 (hwz (zs.getD 0 0) (by rw [List.getD_eq_getElem?_getD, List.getElem?_eq_getElem hzl]; exact List.getElem_mem hzl))
    omega

theorem walk (a0 : Option Addr) (l0 c0 : Nat) (V0 : Nat → Nat) (a1 : Option Addr) (l1 c1 : Nat) (V1 : Nat → Int) (s : Nat) (i : Int) (w : World)
    (m0 : l0 ≤ maxLen) (m1 : l1 ≤ maxLen) (r0 : FRow w a0 l0 V0) (r1 : URow w a1 l1 V1) (bd : 0 < l1 → 0 ≤ V1 0 ∧ V1 0 < 18446744073709551616) :
    Calls Try.prog 4 #[.slice a0 l0 c0, .slice a1 l1 c1, .float .f64 s, .int .i64 i] w fun e w' => e = .returned (.bool true) ∧ Below w.heap.size w w' := by
  by_cases hm : l0 ≤ 65536 ∧ l1 ≤ 65536 ∧ l1 ≤ l0 + 1 ∧ l0 + 1 ≤ l1 ∧ 1 ≤ i ∧ i < (l1 : Int)
  · obtain ⟨h0, h1, e1, e2, i0, i1⟩ := hm
    obtain ⟨j, rfl⟩ : ∃ j : Nat, i = j := ⟨i.toNat, by omega⟩
    rcases r1 with r1 | ⟨b, o, rfl, hc⟩
    · omega
    rcases r0 with r0 | ⟨b0, o0, rfl, hF⟩
    · omega
    · exact splits_main b0 o0 l0 c0 V0 b o l1 c1 V1 s j w h0 h1 e1 e2 (by omega) (by omega) (bd (by omega)).1 (bd (by omega)).2 hF hc
  · refine (splits_early a0 a1 l0 c0 l1 c1 s i w m0 m1 (by omega)).mono ?_
    rintro e w' ⟨rfl, rfl⟩
    exact ⟨rfl, Below.refl _ _⟩

set_option maxRecDepth 100000 in
theorem lifted (os : Os) (started : os.Started) (H : Type) (enc : TypeId × Value → H) :
    ReturnsInHanded {} Try.checked os 4 .any (Rows.fnCountSplitsAtAnyCutSpec.pre6 enc Try.prog Try.f4 Rows.fnCountSplitsAtAnyCutRow.domain false) (Rows.fnCountSplitsAtAnyCutSpec.post enc Try.prog Try.f4 false true false false) := by
  refine returnsInHanded_of_change (C := Try.checked) own started (by kernel_rfl) Try.func4
    (ChangeSpec.witness6 (enc := enc) (C := Try.checked) false ⟨#[], #[.slice none 0 0, .slice none 0 0, .float .f64 0, .int .i64 0], []⟩ 8 (by kernel_rfl) (by kernel_rfl) (by kernel_rfl) (by kernel_rfl)) ?_
  intro W base args ds gs before hval0 hW hcnd _
  have hval : ∀ (j : Nat) t v, Try.f4.params[j]? = some t → args[j]? = some v → Value.okWide Try.prog W .any base t v := hval0
  have hW' := hW
  obtain ⟨p, q, hA0, hV, rfl, hfz, hnd⟩ := hW
  have hA : DataW.TrodAll enc Try.prog W 0 (fun _ => true) true Try.f4.params.toList args.toList ds p := hA0
  rw [Try.params4] at hA hval
  obtain ⟨v0, vs0, d0, ds0, p0, q0, hargs, rfl, rfl, h0, r0⟩ := trodAll_cons hA
  obtain ⟨v1, vs1, d1, ds1, p1, q1, rfl, rfl, rfl, h1, r1⟩ := trodAll_cons r0
  obtain ⟨v2, vs2, d2, ds2, p2, q2, rfl, rfl, rfl, h2, r2⟩ := trodAll_cons r1
  obtain ⟨v3, vs3, d3, ds3, p3, q3, rfl, rfl, rfl, h3, r3⟩ := trodAll_cons r2
  obtain ⟨rfl, rfl, rfl⟩ := trodAll_nil r3
  obtain rfl : args = #[v0, v1, v2, v3] := by cases args; simp_all
  obtain ⟨rfl, rfl⟩ := trodVars_none hV
  obtain ⟨a0, len0, cap0, rfl⟩ := okWide_slice Try.underlying22 (hval 0 22 v0 rfl rfl)
  have lt0 : ∀ x ∈ p0, x.block < W.heap.size := by obtain ⟨m, hm⟩ := h0; exact DataW.trod_lt m _ _ _ hm
  obtain ⟨z0, m0, w0⟩ := open_floats h0
  obtain ⟨a1, len1, cap1, rfl⟩ := okWide_slice Try.underlying23 (hval 1 23 v1 rfl rfl)
  have lt1 : ∀ x ∈ p1, x.block < W.heap.size := by obtain ⟨m, hm⟩ := h1; exact DataW.trod_lt m _ _ _ hm
  obtain ⟨z1, m1, w1, bd1⟩ := open_uints_bd h1
  obtain ⟨s, rfl, rfl, rfl, w2⟩ := open_float Try.underlying24 (hval 2 24 v2 rfl rfl) h2
  obtain ⟨i, rfl, rfl, rfl, w3⟩ := open_int Try.underlying3 (hval 3 3 v3 rfl rfl) h3
  clear hA0 hval0
  refine (walk a0 len0 cap0 z0 a1 len1 cap1 z1 s i W m0 m1 w0 w1 bd1).mono fun e W' ⟨he, bel⟩ => ?_
  subst he
  exact ⟨_, rfl, _, _, _, [], _, [], hW', trodAll_mk1 (shut_bool Try.underlying4 _), (trodAll_cons_mk (Below.trod laidOut (by kernel_rfl) (of_decide_eq_true (by kernel_rfl)) h0 bel lt0) (trodAll_cons_mk (Below.trod laidOut (by kernel_rfl) (of_decide_eq_true (by kernel_rfl)) h1 bel lt1) (trodAll_cons_mk (shut_float Try.underlying24 w2) (trodAll_cons_mk (shut_int Try.underlying3 w3) trodAll_mk0)))), rfl, bel.frame _, fun h => by cases h⟩

theorem over : Rows.fnCountSplitsAtAnyCutRow.holds Try.pinned (OpenSpec.ofChange Rows.fnCountSplitsAtAnyCutSpec) :=
  OpenClaim.holds_of_wide 4 Try.f4 rfl rfl rfl rfl rfl rfl rfl ⟨rfl, rfl, rfl, rfl, rfl⟩ rfl rfl rfl rfl rfl (by kernel_rfl) Try.func4 (by kernel_rfl)
    (of_decide_eq_true (by kernel_rfl)) (by unfold Func.isWrapper; first | (rw [if_pos (by decide +kernel)]; kernel_rfl) | (rw [if_neg (by decide +kernel)]; exact ⟨rfl, rfl⟩))
    (fun os started H enc _ => lifted os started H enc)

theorem proved : Rows.FnCountSplitsAtAnyCutSaid := over
#print axioms proved
end Go.Proofs.Qxb6632369a.fnCountSplits
