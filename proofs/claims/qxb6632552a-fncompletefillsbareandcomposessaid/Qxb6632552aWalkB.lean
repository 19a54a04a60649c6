/-
  THE WALK of FnCompleteFillsBareAndComposes, its main way.
-/
import Derived.Test.Qxb6632552aLeaves
import Derived.Deep.RegionHeld3
namespace Go.Proofs.Qxb6632552a
open Go.RowKit

theorem fs_fs (a b c : ByteArray) : fs (fs a b) c = fs a (fs b c) := by
  unfold fs
  cases h : a.toList.isEmpty
  · simp [h]
  · simp

set_option maxRecDepth 100000 in
set_option maxHeartbeats 4000000 in
theorem bare_main (a0 a1 a2 a3 a4 a5 a6 a7 a8 a9 : ByteArray) (w : World)
    (q0 : a0.size ≤ 1048576) (q1 : a1.size ≤ 1048576) (q2 : a2.size ≤ 1048576) (q3 : a3.size ≤ 1048576) (q4 : a4.size ≤ 1048576) (q5 : a5.size ≤ 1048576) (q6 : a6.size ≤ 1048576) (q7 : a7.size ≤ 1048576) (q8 : a8.size ≤ 1048576) (q9 : a9.size ≤ 1048576) (q : a0.size + a1.size + a2.size + a3.size + a4.size + a5.size + a6.size + a7.size + a8.size + a9.size ≤ 1048576) :
    Calls Try.prog 3 #[.string a0, .string a1, .string a2, .string a3, .string a4, .string a5, .string a6, .string a7, .string a8, .string a9] w fun e w' => e = .returned (.bool true) ∧ Below w.heap.size w w' := by
  have h : ∀ n : Nat, n ≤ 1048576 → n ≤ maxLen := fun n hn => by unfold maxLen; omega
  have z : ∀ x, fs ⟨#[]⟩ x = x := fun x => fs_yes (by rw [ByteArray.toList_eq]; rfl)
  go_enter Try.func3, Try.ntmps3
  go_wp2_with fail
  refine (bytes5 _ _ _ _ _ _ _ _ _ _ _ (h _ q0) (h _ q1) (h _ q2) (h _ q3) (h _ q4) (h _ q5) (h _ q6) (h _ q7) (h _ q8) (h _ q9)).mono ?_
  rintro e w' ⟨r, rfl, rfl⟩
  clear h
  cases r
  · go_wp2
    go_ret
    exact ⟨rfl, Below.refl _ _⟩
  go_wp2_with fail
  refine (complete ⟨#[]⟩ ⟨#[]⟩ ⟨#[]⟩ a3 a4 a5 a6 _).mono ?_
  rintro e w2 ⟨rfl, rfl⟩
  simp only [z]
  go_wp2_with fail
  refine (complete a0 a1 a2 a3 a4 a5 a6 _).mono ?_
  rintro e w2 ⟨rfl, rfl⟩
  go_wp2_with fail
  refine (complete (fs a0 a4) (fs a1 a5) (fs a2 a6) a3 a7 a8 a9 _).mono ?_
  rintro e w2 ⟨rfl, rfl⟩
  go_wp2_with fail
  generalize hW : (((((((((((w.alloc (.cells #[.string a0, .string a1, .string a2, .string a3] 25)).alloc (.cells #[.string ⟨#[]⟩, .string ⟨#[]⟩, .string ⟨#[]⟩, .string a3] 25)).alloc (.cells #[.string a4, .string a5, .string a6, .string a3] 25)).alloc (.cells #[.string a4, .string a5, .string a6, .string a3] 25)).alloc (.cells #[.string a4, .string a5, .string a6, .string a3] 25)).alloc (.cells #[.string a4, .string a5, .string a6, .string a3] 25)).alloc (.cells #[.string (fs a0 a4), .string (fs a1 a5), .string (fs a2 a6), .string a3] 25)).alloc (.cells #[.string (fs a0 a4), .string (fs a1 a5), .string (fs a2 a6), .string a3] 25)).alloc (.cells #[.string (fs (fs a0 a4) a7), .string (fs (fs a1 a5) a8), .string (fs (fs a2 a6) a9), .string a3] 25)).alloc (.cells #[.string (fs (fs a0 a4) a7), .string (fs (fs a1 a5) a8), .string (fs (fs a2 a6) a9), .string a3] 25)).alloc (.cells #[.string (fs (fs a0 a4) a7), .string (fs (fs a1 a5) a8), .string (fs (fs a2 a6) a9), .string a3] 25)) = W
  have c0 : W.cell? ⟨w.heap.size, 0, none⟩ = some (.string a0) := by rw [← hW]; simp [go_sem]
  have c1 : W.cell? ⟨w.heap.size, 1, none⟩ = some (.string a1) := by rw [← hW]; simp [go_sem]
  have c2 : W.cell? ⟨w.heap.size, 2, none⟩ = some (.string a2) := by rw [← hW]; simp [go_sem]
  have c3 : W.cell? ⟨w.heap.size, 3, none⟩ = some (.string a3) := by rw [← hW]; simp [go_sem]
  have t0 : W.cell? ⟨w.heap.size + 1 + 1 + 1 + 1 + 1 + 1 + 1 + 1 + 1 + 1, 0, none⟩ = some (.string (fs a0 (fs a4 a7))) := by rw [← hW, ← fs_fs]; simp [go_sem]
  have t1 : W.cell? ⟨w.heap.size + 1 + 1 + 1 + 1 + 1 + 1 + 1 + 1 + 1 + 1, 1, none⟩ = some (.string (fs a1 (fs a5 a8))) := by rw [← hW, ← fs_fs]; simp [go_sem]
  have t2 : W.cell? ⟨w.heap.size + 1 + 1 + 1 + 1 + 1 + 1 + 1 + 1 + 1 + 1, 2, none⟩ = some (.string (fs a2 (fs a6 a9))) := by rw [← hW, ← fs_fs]; simp [go_sem]
  have t3 : W.cell? ⟨w.heap.size + 1 + 1 + 1 + 1 + 1 + 1 + 1 + 1 + 1 + 1, 3, none⟩ = some (.string a3) := by rw [← hW]; simp [go_sem]
  have hs : w.heap.size + 1 + 1 + 1 + 1 + 1 + 1 + 1 + 1 + 1 + 1 < W.heap.size := by rw [← hW]; simp
  have HB : Hid (Below w.heap.size w W) := by
    rw [← hW]
    exact ((((((((((((Below.refl _ _).alloc (by simp; try omega) _).alloc (by simp; try omega) _).alloc (by simp; try omega) _).alloc (by simp; try omega) _).alloc (by simp; try omega) _).alloc (by simp; try omega) _).alloc (by simp; try omega) _).alloc (by simp; try omega) _).alloc (by simp; try omega) _).alloc (by simp; try omega) _).alloc (by simp; try omega) _)
  clear hW
  have hs0 : w.heap.size < W.heap.size := by omega
  have k1 : ∀ (o : Obj) (i : Nat), (W.alloc o).cell? ⟨w.heap.size, i, none⟩ = W.cell? ⟨w.heap.size, i, none⟩ := fun o i => World.cell?_alloc_past _ _ _ hs0
  have k2 : ∀ (o o' : Obj) (i : Nat), ((W.alloc o).alloc o').cell? ⟨w.heap.size, i, none⟩ = W.cell? ⟨w.heap.size, i, none⟩ := fun o o' i => by rw [World.cell?_alloc_past _ _ _ (by simp; omega), k1]
  have k3 : ∀ (o o' o'' : Obj) (i : Nat), (((W.alloc o).alloc o').alloc o'').cell? ⟨w.heap.size, i, none⟩ = W.cell? ⟨w.heap.size, i, none⟩ := fun o o' o'' i => by rw [World.cell?_alloc_past _ _ _ (by simp; omega), k2]
  have m1 : ∀ (o : Obj) (i : Nat), (W.alloc o).cell? ⟨w.heap.size + 1 + 1 + 1 + 1 + 1 + 1 + 1 + 1 + 1 + 1, i, none⟩ = W.cell? ⟨w.heap.size + 1 + 1 + 1 + 1 + 1 + 1 + 1 + 1 + 1 + 1, i, none⟩ := fun o i => World.cell?_alloc_past _ _ _ hs
  have m2 : ∀ (o o' : Obj) (i : Nat), ((W.alloc o).alloc o').cell? ⟨w.heap.size + 1 + 1 + 1 + 1 + 1 + 1 + 1 + 1 + 1 + 1, i, none⟩ = W.cell? ⟨w.heap.size + 1 + 1 + 1 + 1 + 1 + 1 + 1 + 1 + 1 + 1, i, none⟩ := fun o o' i => by rw [World.cell?_alloc_past _ _ _ (by simp; omega), m1]
  have m3 : ∀ (o o' o'' : Obj) (i : Nat), (((W.alloc o).alloc o').alloc o'').cell? ⟨w.heap.size + 1 + 1 + 1 + 1 + 1 + 1 + 1 + 1 + 1 + 1, i, none⟩ = W.cell? ⟨w.heap.size + 1 + 1 + 1 + 1 + 1 + 1 + 1 + 1 + 1 + 1, i, none⟩ := fun o o' o'' i => by rw [World.cell?_alloc_past _ _ _ (by simp; omega), m2]
  go_region_held3 (fun w' => w'.cell? ⟨w.heap.size, 0, none⟩ = some (.string a0) ∧ w'.cell? ⟨w.heap.size, 1, none⟩ = some (.string a1) ∧ w'.cell? ⟨w.heap.size, 2, none⟩ = some (.string a2) ∧ w'.cell? ⟨w.heap.size, 3, none⟩ = some (.string a3)) (go_keep)
    (first | (go_at_call 7; refine (firstSet _ _ _).mono ?_; rintro e w' ⟨rfl, rfl⟩) | (go_at_call 6; refine (complete a0 a1 a2 a3 (fs a4 a7) (fs a5 a8) (fs a6 a9) _).mono ?_; rintro e w' ⟨rfl, rfl⟩))
  all_goals
    go_wp2
    go_ret
    exact ⟨rfl, ((((HB.out.alloc (by omega) _).alloc (by simp; omega) _).alloc (by simp; omega) _).drew)⟩
end Go.Proofs.Qxb6632552a
