/-
  THE WALK of FnFoldNameCutAndUpperForm.
-/
import Derived.Test.Qxb6632457aLeaves
namespace Go.Proofs.Qxb6632457a
open Go.RowKit

set_option maxHeartbeats 800000 in
theorem cutWalk (a b : ByteArray) (w0 : a.size ≤ maxLen) (w1 : b.size ≤ maxLen) (w : World) :
    Calls Try.prog 3 #[.string a, .string b] w fun e w' => e = .returned (.bool true) ∧ Below w.heap.size w w' := by
  have m0 := w0
  have m1 := w1
  unfold maxLen at m0 m1
  by_cases ha : a.size ≤ 524288
  · by_cases hb : b.size ≤ 524288
    · go_enter Try.func3, Try.ntmps3
      go_wp2_with fail
      refine (bytes5 _ _ _ w0 w1).mono ?_
      rintro e w' ⟨r, rfl, rfl⟩
      cases r
      · go_wp2
        go_ret
        exact ⟨rfl, Below.refl _ _⟩
      go_wp2_with fail
      have hsz : (a ++ b).size ≤ 1048576 := by rw [ByteArray.size_append]; omega
      obtain ⟨r, hr⟩ : ∃ r, r = fold (a ++ b) := ⟨_, rfl⟩
      refine (foldName (a ++ b) _ (by unfold maxLen; omega)).mono ?_
      rintro e w2 ⟨he, hb2⟩
      rw [← hr] at he
      subst he
      have HB2 : Hid (Below w.heap.size w w2) := hb2
      have t1 : (r.toList == (fold a ++ fold b).toList) = true := by rw [hr, fold_append]; simp
      have hrs : r.size ≤ 1048576 := by rw [hr, fold_size]; exact hsz
      have t2 : ((r.size : Int) != (a.size : Int) + (b.size : Int)) = false := by rw [hr, fold_size, ByteArray.size_append]; simp
      have T3 : Hid (∀ (k : Nat) (h : k < r.size), upB ((r[k]).toNat : Int) = false) := by
        subst hr
        intro k h
        rw [fold_get]
        exact upB_low _
      have t4 : ((upper r).toList == (upper (a ++ b)).toList) = true := by rw [hr, upper_fold]; simp
      have t5 : (fold a).size + (fold b).size ≤ 1048576 := by rw [fold_size, fold_size]; omega
      clear hb2 hr
      go_wp2_with fail
      refine (foldName a _ w0).mono ?_
      rintro e w3 ⟨rfl, hb3⟩
      have HB3 : Hid (Below w.heap.size w w3) := HB2.out.trans (hb3.mono HB2.out.size)
      clear hb3
      go_wp2_with fail
      refine (foldName b _ w1).mono ?_
      rintro e w4 ⟨rfl, hb4⟩
      have HB4 : Hid (Below w.heap.size w w4) := HB3.out.trans (hb4.mono HB3.out.size)
      clear hb4 HB2 HB3
      go_wp2_with fail
      go_loop [7] (fun i => ∃ k : Nat, k ≤ r.size ∧ i = .int .i64 k) (fun i => r.size - (intOf i).toNat)
      case atStart => exact ⟨0, Nat.zero_le _, rfl⟩
      case round =>
        obtain ⟨k, hk, rfl⟩ := hrel
        by_cases hlt : k < r.size
        · have hu := T3.out k hlt
          go_wp2_with (go_at_call 7; refine (isUpper7 _ _).mono ?_; rintro e w' ⟨rfl, rfl⟩)
          go_round
          case rel => exact ⟨k + 1, by omega, by go_num⟩
          case measure => simp [intOf]; omega
        · go_wp2_with fail
          refine (upperB1 r _ hrs).mono ?_
          rintro e w5 ⟨rfl, hb5⟩
          have HB5 : Hid (Below w.heap.size w w5) := HB4.out.trans (hb5.mono HB4.out.size)
          clear hb5
          go_wp2_with fail
          refine (upperB1 (a ++ b) _ hsz).mono ?_
          rintro e w6 ⟨rfl, hb6⟩
          have HB6 : Hid (Below w.heap.size w w6) := HB5.out.trans (hb6.mono HB5.out.size)
          clear hb6
          go_wp2
          go_ret
          exact ⟨rfl, HB6.out⟩
    · go_enter Try.func3, Try.ntmps3
      go_wp2_with (go_at_call 5; refine (bytes5 _ _ _ w0 w1).mono ?_; rintro e w' ⟨r, rfl, rfl⟩)
      all_goals (go_ret; exact ⟨rfl, Below.refl _ _⟩)
  · go_enter Try.func3, Try.ntmps3
    go_wp2_with (go_at_call 5; refine (bytes5 _ _ _ w0 w1).mono ?_; rintro e w' ⟨r, rfl, rfl⟩)
    all_goals (go_ret; exact ⟨rfl, Below.refl _ _⟩)
end Go.Proofs.Qxb6632457a
