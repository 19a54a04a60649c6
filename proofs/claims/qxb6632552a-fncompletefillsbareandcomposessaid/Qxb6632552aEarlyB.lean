/-
  THE WAYS THAT LEAVE EARLY of FnCompleteFillsBareAndComposes.
-/
import Derived.Test.Qxb6632552aLeaves
namespace Go.Proofs.Qxb6632552a
open Go.RowKit

set_option maxRecDepth 100000 in
set_option maxHeartbeats 4000000 in
theorem bare_early1 (a0 a1 a2 a3 a4 a5 a6 a7 a8 a9 : ByteArray) (w : World) (h0 : a0.size ≤ maxLen) (h1 : a1.size ≤ maxLen) (h2 : a2.size ≤ maxLen) (h3 : a3.size ≤ maxLen) (h4 : a4.size ≤ maxLen) (h5 : a5.size ≤ maxLen) (h6 : a6.size ≤ maxLen) (h7 : a7.size ≤ maxLen) (h8 : a8.size ≤ maxLen) (h9 : a9.size ≤ maxLen)
    (h : (1048576 < a0.size) ∨ (a0.size ≤ 1048576 ∧ 1048576 < a1.size) ∨ (a0.size ≤ 1048576 ∧ a1.size ≤ 1048576 ∧ 1048576 < a2.size) ∨ (a0.size ≤ 1048576 ∧ a1.size ≤ 1048576 ∧ a2.size ≤ 1048576 ∧ 1048576 < a3.size) ∨ (a0.size ≤ 1048576 ∧ a1.size ≤ 1048576 ∧ a2.size ≤ 1048576 ∧ a3.size ≤ 1048576 ∧ 1048576 < a4.size) ∨ (a0.size ≤ 1048576 ∧ a1.size ≤ 1048576 ∧ a2.size ≤ 1048576 ∧ a3.size ≤ 1048576 ∧ a4.size ≤ 1048576 ∧ 1048576 < a5.size)) :
    Calls Try.prog 3 #[.string a0, .string a1, .string a2, .string a3, .string a4, .string a5, .string a6, .string a7, .string a8, .string a9] w fun e w' => e = .returned (.bool true) ∧ w = w' := by
  have k0 := h0; have k1 := h1; have k2 := h2; have k3 := h3; have k4 := h4; have k5 := h5; have k6 := h6; have k7 := h7; have k8 := h8; have k9 := h9
  unfold maxLen at k0 k1 k2 k3 k4 k5 k6 k7 k8 k9
  rcases h with q | ⟨q0, q⟩ | ⟨q0, q1, q⟩ | ⟨q0, q1, q2, q⟩ | ⟨q0, q1, q2, q3, q⟩ | ⟨q0, q1, q2, q3, q4, q⟩
  all_goals
    go_enter Try.func3, Try.ntmps3
    go_wp2_with (go_at_call 5; refine (bytes5 _ _ _ _ _ _ _ _ _ _ _ h0 h1 h2 h3 h4 h5 h6 h7 h8 h9).mono ?_; rintro e w' ⟨r, rfl, rfl⟩)
    all_goals (go_ret; exact ⟨rfl, rfl⟩)

set_option maxRecDepth 100000 in
set_option maxHeartbeats 4000000 in
theorem bare_early2 (a0 a1 a2 a3 a4 a5 a6 a7 a8 a9 : ByteArray) (w : World) (h0 : a0.size ≤ maxLen) (h1 : a1.size ≤ maxLen) (h2 : a2.size ≤ maxLen) (h3 : a3.size ≤ maxLen) (h4 : a4.size ≤ maxLen) (h5 : a5.size ≤ maxLen) (h6 : a6.size ≤ maxLen) (h7 : a7.size ≤ maxLen) (h8 : a8.size ≤ maxLen) (h9 : a9.size ≤ maxLen)
    (h : (a0.size ≤ 1048576 ∧ a1.size ≤ 1048576 ∧ a2.size ≤ 1048576 ∧ a3.size ≤ 1048576 ∧ a4.size ≤ 1048576 ∧ a5.size ≤ 1048576 ∧ 1048576 < a6.size) ∨ (a0.size ≤ 1048576 ∧ a1.size ≤ 1048576 ∧ a2.size ≤ 1048576 ∧ a3.size ≤ 1048576 ∧ a4.size ≤ 1048576 ∧ a5.size ≤ 1048576 ∧ a6.size ≤ 1048576 ∧ 1048576 < a7.size) ∨ (a0.size ≤ 1048576 ∧ a1.size ≤ 1048576 ∧ a2.size ≤ 1048576 ∧ a3.size ≤ 1048576 ∧ a4.size ≤ 1048576 ∧ a5.size ≤ 1048576 ∧ a6.size ≤ 1048576 ∧ a7.size ≤ 1048576 ∧ 1048576 < a8.size) ∨ (a0.size ≤ 1048576 ∧ a1.size ≤ 1048576 ∧ a2.size ≤ 1048576 ∧ a3.size ≤ 1048576 ∧ a4.size ≤ 1048576 ∧ a5.size ≤ 1048576 ∧ a6.size ≤ 1048576 ∧ a7.size ≤ 1048576 ∧ a8.size ≤ 1048576 ∧ 1048576 < a9.size) ∨ (a0.size ≤ 1048576 ∧ a1.size ≤ 1048576 ∧ a2.size ≤ 1048576 ∧ a3.size ≤ 1048576 ∧ a4.size ≤ 1048576 ∧ a5.size ≤ 1048576 ∧ a6.size ≤ 1048576 ∧ a7.size ≤ 1048576 ∧ a8.size ≤ 1048576 ∧ a9.size ≤ 1048576 ∧ 1048576 < a0.size + a1.size + a2.size + a3.size + a4.size + a5.size + a6.size + a7.size + a8.size + a9.size)) :
    Calls Try.prog 3 #[.string a0, .string a1, .string a2, .string a3, .string a4, .string a5, .string a6, .string a7, .string a8, .string a9] w fun e w' => e = .returned (.bool true) ∧ w = w' := by
  have k0 := h0; have k1 := h1; have k2 := h2; have k3 := h3; have k4 := h4; have k5 := h5; have k6 := h6; have k7 := h7; have k8 := h8; have k9 := h9
  unfold maxLen at k0 k1 k2 k3 k4 k5 k6 k7 k8 k9
  rcases h with ⟨q0, q1, q2, q3, q4, q5, q⟩ | ⟨q0, q1, q2, q3, q4, q5, q6, q⟩ | ⟨q0, q1, q2, q3, q4, q5, q6, q7, q⟩ | ⟨q0, q1, q2, q3, q4, q5, q6, q7, q8, q⟩ | ⟨q0, q1, q2, q3, q4, q5, q6, q7, q8, q9, q⟩
  all_goals
    go_enter Try.func3, Try.ntmps3
    go_wp2_with (go_at_call 5; refine (bytes5 _ _ _ _ _ _ _ _ _ _ _ h0 h1 h2 h3 h4 h5 h6 h7 h8 h9).mono ?_; rintro e w' ⟨r, rfl, rfl⟩)
    all_goals (go_ret; exact ⟨rfl, rfl⟩)

end Go.Proofs.Qxb6632552a
