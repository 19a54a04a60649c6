/-
  THE LEAVES' CONTRACTS: zzBytes_.., firstSet, (ZooName).Complete.
-/
import Derived.Test.Qxb6632552aProg
import Derived.WalkKit
import Derived.WalkSpells
import Derived.WalkLawsBesides
namespace Go.Proofs.Qxb6632552a
open Go.RowKit

/-- a where a is not empty, else b. -/
def fs (a b : ByteArray) : ByteArray := if a.toList.isEmpty then b else a

theorem fs_yes {a b : ByteArray} (h : a.toList.isEmpty = true) : fs a b = b := by simp [fs, h]
theorem fs_no {a b : ByteArray} (h : a.toList.isEmpty = false) : fs a b = a := by simp [fs, h]

theorem ret_string {a b : ByteArray} (h : a = b) : Ending.returned (.string a) = .returned (.string b) := by rw [h]

set_option maxHeartbeats 400000 in
theorem firstSet (a b : ByteArray) (w : World) : Calls Try.prog 7 #[.string a, .string b] w fun e w' => e = .returned (.string (fs a b)) ∧ w = w' := by
  cases h : a.toList.isEmpty
  · go_enter Try.func7, Try.ntmps7
    go_wp2
    go_ret
    exact ⟨ret_string (fs_no h).symm, rfl⟩
  · go_enter Try.func7, Try.ntmps7
    go_wp2
    go_ret
    exact ⟨ret_string (fs_yes h).symm, rfl⟩

set_option maxHeartbeats 1000000 in
/-- Complete: each slot the first that is set; two new blocks. -/
theorem complete (a b c d z p u : ByteArray) (w : World) :
    Calls Try.prog 6 #[.agg #[.string a, .string b, .string c, .string d], .string z, .string p, .string u] w fun e w' =>
      e = .returned (.agg #[.string (fs a z), .string (fs b p), .string (fs c u), .string d]) ∧
      w' = (w.alloc (.cells #[.string (fs a z), .string (fs b p), .string (fs c u), .string d] 25)).alloc (.cells #[.string (fs a z), .string (fs b p), .string (fs c u), .string d] 25) := by
  cases ha : a.toList.isEmpty <;> cases hb : b.toList.isEmpty <;> cases hc : c.toList.isEmpty
  · have e1 : fs a z = a := fs_no ha
    have e2 : fs b p = b := fs_no hb
    have e3 : fs c u = c := fs_no hc
    simp only [e1, e2, e3]
    clear e1 e2 e3
    go_enter Try.func6, Try.ntmps6
    go_wp2
    exact bodyPost_ret (v := .agg #[.string a, .string b, .string c, .string d]) (by simp [results, Try.results6, go_sem]) rfl ⟨rfl, rfl⟩
  · have e1 : fs a z = a := fs_no ha
    have e2 : fs b p = b := fs_no hb
    have e3 : fs c u = u := fs_yes hc
    simp only [e1, e2, e3]
    clear e1 e2 e3
    go_enter Try.func6, Try.ntmps6
    go_wp2
    exact bodyPost_ret (v := .agg #[.string a, .string b, .string u, .string d]) (by simp [results, Try.results6, go_sem]) rfl ⟨rfl, rfl⟩
  · have e1 : fs a z = a := fs_no ha
    have e2 : fs b p = p := fs_yes hb
    have e3 : fs c u = c := fs_no hc
    simp only [e1, e2, e3]
    clear e1 e2 e3
    go_enter Try.func6, Try.ntmps6
    go_wp2
    exact bodyPost_ret (v := .agg #[.string a, .string p, .string c, .string d]) (by simp [results, Try.results6, go_sem]) rfl ⟨rfl, rfl⟩
  · have e1 : fs a z = a := fs_no ha
    have e2 : fs b p = p := fs_yes hb
    have e3 : fs c u = u := fs_yes hc
    simp only [e1, e2, e3]
    clear e1 e2 e3
    go_enter Try.func6, Try.ntmps6
    go_wp2
    exact bodyPost_ret (v := .agg #[.string a, .string p, .string u, .string d]) (by simp [results, Try.results6, go_sem]) rfl ⟨rfl, rfl⟩
  · have e1 : fs a z = z := fs_yes ha
    have e2 : fs b p = b := fs_no hb
    have e3 : fs c u = c := fs_no hc
    simp only [e1, e2, e3]
    clear e1 e2 e3
    go_enter Try.func6, Try.ntmps6
    go_wp2
    exact bodyPost_ret (v := .agg #[.string z, .string b, .string c, .string d]) (by simp [results, Try.results6, go_sem]) rfl ⟨rfl, rfl⟩
  · have e1 : fs a z = z := fs_yes ha
    have e2 : fs b p = b := fs_no hb
    have e3 : fs c u = u := fs_yes hc
    simp only [e1, e2, e3]
    clear e1 e2 e3
    go_enter Try.func6, Try.ntmps6
    go_wp2
    exact bodyPost_ret (v := .agg #[.string z, .string b, .string u, .string d]) (by simp [results, Try.results6, go_sem]) rfl ⟨rfl, rfl⟩
  · have e1 : fs a z = z := fs_yes ha
    have e2 : fs b p = p := fs_yes hb
    have e3 : fs c u = c := fs_no hc
    simp only [e1, e2, e3]
    clear e1 e2 e3
    go_enter Try.func6, Try.ntmps6
    go_wp2
    exact bodyPost_ret (v := .agg #[.string z, .string p, .string c, .string d]) (by simp [results, Try.results6, go_sem]) rfl ⟨rfl, rfl⟩
  · have e1 : fs a z = z := fs_yes ha
    have e2 : fs b p = p := fs_yes hb
    have e3 : fs c u = u := fs_yes hc
    simp only [e1, e2, e3]
    clear e1 e2 e3
    go_enter Try.func6, Try.ntmps6
    go_wp2
    exact bodyPost_ret (v := .agg #[.string z, .string p, .string u, .string d]) (by simp [results, Try.results6, go_sem]) rfl ⟨rfl, rfl⟩

set_option maxHeartbeats 2000000 in
theorem bytes5 (a0 a1 a2 a3 a4 a5 a6 a7 a8 a9 : ByteArray) (w : World) (h0 : a0.size ≤ maxLen) (h1 : a1.size ≤ maxLen) (h2 : a2.size ≤ maxLen) (h3 : a3.size ≤ maxLen) (h4 : a4.size ≤ maxLen)
    (h5 : a5.size ≤ maxLen) (h6 : a6.size ≤ maxLen) (h7 : a7.size ≤ maxLen) (h8 : a8.size ≤ maxLen) (h9 : a9.size ≤ maxLen) :
    Calls Try.prog 5 #[.string a0, .string a1, .string a2, .string a3, .string a4, .string a5, .string a6, .string a7, .string a8, .string a9] w fun e w' => ∃ r, e = .returned (.bool r) ∧ w = w' := by
  unfold maxLen at h0 h1 h2 h3 h4 h5 h6 h7 h8 h9
  go_enter Try.func5, Try.ntmps5
  go_wp2
  all_goals (go_ret; exact ⟨_, rfl, rfl⟩)

set_option maxHeartbeats 2000000 in
theorem bytes8 (a0 a1 a2 a3 a4 a5 a6 a7 a8 a9 : ByteArray) (w : World) (h0 : a0.size ≤ maxLen) (h1 : a1.size ≤ maxLen) (h2 : a2.size ≤ maxLen) (h3 : a3.size ≤ maxLen) (h4 : a4.size ≤ maxLen)
    (h5 : a5.size ≤ maxLen) (h6 : a6.size ≤ maxLen) (h7 : a7.size ≤ maxLen) (h8 : a8.size ≤ maxLen) (h9 : a9.size ≤ maxLen) :
    Calls Try.prog 8 #[.string a0, .string a1, .string a2, .string a3, .string a4, .string a5, .string a6, .string a7, .string a8, .string a9] w fun e w' => ∃ r, e = .returned (.bool r) ∧ w = w' := by
  unfold maxLen at h0 h1 h2 h3 h4 h5 h6 h7 h8 h9
  go_enter Try.func8, Try.ntmps8
  go_wp2
  all_goals (go_ret; exact ⟨_, rfl, rfl⟩)
end Go.Proofs.Qxb6632552a
