/-
  THE WALK of FnCompleteFillsEverySlotAndThenStays, its main way.
-/
import Derived.Test.Qxb6632552aLeaves
import Derived.Deep.RegionHeld3
namespace Go.Proofs.Qxb6632552a
open Go.RowKit

theorem fs_set {a b : ByteArray} (h : b.toList.isEmpty = false) : (fs a b).toList.isEmpty = false := by
  unfold fs
  cases h' : a.toList.isEmpty
  · simp only [Bool.false_eq_true, if_false]; exact h'
  · simp only [if_true]; exact h

set_option maxRecDepth 100000 in
set_option maxHeartbeats 4000000 in
theorem stays_main (a0 a1 a2 a3 a4 a5 a6 a7 a8 a9 : ByteArray) (w : World)
    (q0 : a0.size ≤ 1048576) (q1 : a1.size ≤ 1048576) (q2 : a2.size ≤ 1048576) (q3 : a3.size ≤ 1048576) (q4 : a4.size ≤ 1048576) (q5 : a5.size ≤ 1048576) (q6 : a6.size ≤ 1048576) (q7 : a7.size ≤ 1048576) (q8 : a8.size ≤ 1048576) (q9 : a9.size ≤ 1048576) (q : a0.size + a1.size + a2.size + a3.size + a4.size + a5.size + a6.size + a7.size + a8.size + a9.size ≤ 1048576)
    (e4 : a4.toList.isEmpty = false) (e5 : a5.toList.isEmpty = false) (e6 : a6.toList.isEmpty = false) :
    Calls Try.prog 4 #[.string a0, .string a1, .string a2, .string a3, .string a4, .string a5, .string a6, .string a7, .string a8, .string a9] w fun e w' => e = .returned (.bool true) ∧ Below w.heap.size w w' := by
  have h : ∀ n : Nat, n ≤ 1048576 → n ≤ maxLen := fun n hn => by unfold maxLen; omega
  go_enter Try.func4, Try.ntmps4
  go_wp2_with fail
  refine (bytes8 _ _ _ _ _ _ _ _ _ _ _ (h _ q0) (h _ q1) (h _ q2) (h _ q3) (h _ q4) (h _ q5) (h _ q6) (h _ q7) (h _ q8) (h _ q9)).mono ?_
  rintro e w' ⟨r, rfl, rfl⟩
  clear h
  cases r
  · go_wp2
    go_ret
    exact ⟨rfl, Below.refl _ _⟩
  go_wp2_with fail
  refine (complete a0 a1 a2 a3 a4 a5 a6 _).mono ?_
  rintro e w2 ⟨rfl, rfl⟩
  have f0 : (fs a0 a4).toList.isEmpty = false := fs_set e4
  have f1 : (fs a1 a5).toList.isEmpty = false := fs_set e5
  have f2 : (fs a2 a6).toList.isEmpty = false := fs_set e6
  obtain ⟨x0, hx0⟩ : ∃ x, x = fs a0 a4 := ⟨_, rfl⟩
  obtain ⟨x1, hx1⟩ : ∃ x, x = fs a1 a5 := ⟨_, rfl⟩
  obtain ⟨x2, hx2⟩ : ∃ x, x = fs a2 a6 := ⟨_, rfl⟩
  rw [← hx0] at f0 ⊢
  rw [← hx1] at f1 ⊢
  rw [← hx2] at f2 ⊢
  clear hx0 hx1 hx2
  go_wp2_with fail
  generalize hW : (((w.alloc (.cells #[.string a0, .string a1, .string a2, .string a3] 25)).alloc (.cells #[.string x0, .string x1, .string x2, .string a3] 25)).alloc (.cells #[.string x0, .string x1, .string x2, .string a3] 25)).alloc (.cells #[.string x0, .string x1, .string x2, .string a3] 25) = W
  have c0 : W.cell? ⟨w.heap.size + 1 + 1 + 1, 0, none⟩ = some (.string x0) := by rw [← hW, World.cell?_alloc_at _ _ _ _ (by simp)]; rfl
  have c1 : W.cell? ⟨w.heap.size + 1 + 1 + 1, 1, none⟩ = some (.string x1) := by rw [← hW, World.cell?_alloc_at _ _ _ _ (by simp)]; rfl
  have c2 : W.cell? ⟨w.heap.size + 1 + 1 + 1, 2, none⟩ = some (.string x2) := by rw [← hW, World.cell?_alloc_at _ _ _ _ (by simp)]; rfl
  have c3 : W.cell? ⟨w.heap.size + 1 + 1 + 1, 3, none⟩ = some (.string a3) := by rw [← hW, World.cell?_alloc_at _ _ _ _ (by simp)]; rfl
  have hs : w.heap.size + 1 + 1 + 1 < W.heap.size := by rw [← hW]; simp
  have HB : Hid (Below w.heap.size w W) := by
    rw [← hW]
    exact ((((Below.refl _ _).alloc (Nat.le_refl _) _).alloc (by simp) _).alloc (by simp; omega) _).alloc (by simp; omega) _
  clear hW
  have g0 : fs x0 a7 = x0 := fs_no f0
  have g1 : fs x1 a8 = x1 := fs_no f1
  have g2 : fs x2 a9 = x2 := fs_no f2
  go_region_held3 (fun w' => w'.cell? ⟨w.heap.size + 1 + 1 + 1, 0, none⟩ = some (.string x0) ∧ w'.cell? ⟨w.heap.size + 1 + 1 + 1, 1, none⟩ = some (.string x1) ∧ w'.cell? ⟨w.heap.size + 1 + 1 + 1, 2, none⟩ = some (.string x2) ∧ w'.cell? ⟨w.heap.size + 1 + 1 + 1, 3, none⟩ = some (.string a3)) (go_keep)
    (first | (go_at_call 6; refine (complete x0 x1 x2 a3 a7 a8 a9 _).mono ?_; rintro e w' ⟨rfl, rfl⟩))
  go_wp2
  go_ret
  exact ⟨rfl, (((HB.out.alloc (by omega) _).alloc (by simp; omega) _).drew)⟩
end Go.Proofs.Qxb6632552a
