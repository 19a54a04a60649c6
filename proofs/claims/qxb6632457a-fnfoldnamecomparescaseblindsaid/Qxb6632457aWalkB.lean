/-
  THE WALK of FnFoldNameComparesCaseBlind.
-/
import Derived.Test.Qxb6632457aEqual
namespace Go.Proofs.Qxb6632457a
open Go.RowKit

set_option maxHeartbeats 800000 in
theorem blindWalk (a b : ByteArray) (w0 : a.size ≤ maxLen) (w1 : b.size ≤ maxLen) (w : World) :
    Calls Try.prog 4 #[.string a, .string b] w fun e w' => e = .returned (.bool true) ∧ Below w.heap.size w w' := by
  have m0 := w0
  have m1 := w1
  unfold maxLen at m0 m1
  by_cases ha : a.size ≤ 524288
  · by_cases hb : b.size ≤ 524288
    · have t1 : ((fold (fold a)).toList == (fold a).toList) = true := by rw [fold_fold]; simp
      go_enter Try.func4, Try.ntmps4
      go_wp2_with fail
      refine (bytes9 _ _ _ w0 w1).mono ?_
      rintro e w' ⟨r, rfl, rfl⟩
      cases r
      · go_wp2
        go_ret
        exact ⟨rfl, Below.refl _ _⟩
      go_wp2_with fail
      refine (foldName a _ w0).mono ?_
      rintro e w2 ⟨rfl, hb2⟩
      have HB2 : Hid (Below w.heap.size w w2) := hb2
      clear hb2
      go_wp2_with fail
      refine (foldName b _ w1).mono ?_
      rintro e w3 ⟨rfl, hb3⟩
      have HB3 : Hid (Below w.heap.size w w3) := HB2.out.trans (hb3.mono HB2.out.size)
      clear hb3
      go_wp2_with fail
      refine (foldName (fold a) _ (by rw [fold_size]; exact w0)).mono ?_
      rintro e w4 ⟨rfl, hb4⟩
      have HB4 : Hid (Below w.heap.size w w4) := HB3.out.trans (hb4.mono HB3.out.size)
      clear hb4 HB2 HB3
      go_wp2_with fail
      refine (equalFold a b _ ha hb).mono ?_
      rintro e w5 ⟨rfl, rfl⟩
      go_wp2
      go_ret
      exact ⟨ret_bool (by simp), HB4.out⟩
    · go_enter Try.func4, Try.ntmps4
      go_wp2_with (go_at_call 9; refine (bytes9 _ _ _ w0 w1).mono ?_; rintro e w' ⟨r, rfl, rfl⟩)
      all_goals (go_ret; exact ⟨rfl, Below.refl _ _⟩)
  · go_enter Try.func4, Try.ntmps4
    go_wp2_with (go_at_call 9; refine (bytes9 _ _ _ w0 w1).mono ?_; rintro e w' ⟨r, rfl, rfl⟩)
    all_goals (go_ret; exact ⟨rfl, Below.refl _ _⟩)
end Go.Proofs.Qxb6632457a
