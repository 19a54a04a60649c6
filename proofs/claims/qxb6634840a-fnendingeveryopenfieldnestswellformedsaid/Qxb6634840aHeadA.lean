/-
  What both laws' walks share: the ways that leave early; what the clones are.
-/
import Derived.Test.Qxb6634840aEnd
namespace Go.Proofs.Qxb6634840a
open Go.RowKit

set_option maxHeartbeats 400000 in
/-- zzOpenReachable, no field open. -/
theorem reachable0 (a0 a1 : Option Addr) (l0 c0 c1 : Nat) (w : World) :
    Calls Try.prog 6 #[.slice a0 l0 c0, .slice a1 0 c1] w fun e w' => e = .returned (.bool false) ∧ w = w' := by
  go_enter Try.func6, Try.ntmps6
  go_wp2
  go_ret
  exact ⟨rfl, rfl⟩

set_option maxRecDepth 100000 in
set_option maxHeartbeats 1000000 in
theorem early3 (a0 a1 : Option Addr) (l0 c0 l1 c1 : Nat) (w : World) (m0 : l0 ≤ maxLen) (m1 : l1 ≤ maxLen)
    (h : 1048576 < l0 ∨ (l0 ≤ 1048576 ∧ 131072 < l1) ∨ (l0 ≤ 1048576 ∧ l1 ≤ 131072 ∧ 1048576 < l0 + 8 * l1)) :
    Calls Try.prog 3 #[.slice a0 l0 c0, .slice a1 l1 c1] w fun e w' => e = .returned (.bool true) ∧ w = w' := by
  have m0' := m0
  have m1' := m1
  unfold maxLen at m0' m1'
  rcases h with h | ⟨h, h'⟩ | ⟨h, h', h''⟩
  all_goals
    go_enter Try.func3, Try.ntmps3
    go_wp2_with (go_at_call 5; refine (bytes5 _ _ _ _ _ _ _ m0 m1).mono ?_; rintro e w' ⟨b, rfl, rfl⟩)
    all_goals (go_ret; exact ⟨rfl, rfl⟩)

set_option maxRecDepth 100000 in
set_option maxHeartbeats 1000000 in
theorem none3 (a0 a1 : Option Addr) (l0 c0 c1 : Nat) (w : World) (m0 : l0 ≤ maxLen) (h : l0 ≤ 1048576) :
    Calls Try.prog 3 #[.slice a0 l0 c0, .slice a1 0 c1] w fun e w' => e = .returned (.bool true) ∧ w = w' := by
  have m1 : 0 ≤ maxLen := Nat.zero_le _
  go_enter Try.func3, Try.ntmps3
  go_wp2_with (first | (go_at_call 5; refine (bytes5 _ _ _ _ _ _ _ m0 m1).mono ?_; rintro e w' ⟨b, rfl, rfl⟩) | (go_at_call 6; refine (reachable0 _ _ _ _ _ _).mono ?_; rintro e w' ⟨rfl, rfl⟩))
  all_goals (go_ret; exact ⟨rfl, rfl⟩)

/-- The clones: block G holds the bytes, block G + 1 the offsets. -/
def Cl (G L M : Nat) (V O : Nat → Int) (W : World) : Prop :=
  (∀ i, i < L → W.cell? ⟨G, i, none⟩ = some (.int .u8 (V i))) ∧ (∀ i, i < M → W.cell? ⟨G + 1, i, none⟩ = some (.int .i64 (O i))) ∧ G + 1 < W.heap.size

theorem Cl.below {G L M : Nat} {V O : Nat → Int} {W W' : World} (h : Cl G L M V O W) (hb : Below W.heap.size W W') : Cl G L M V O W' := by
  have hs := h.2.2
  refine ⟨fun i hi => ?_, fun i hi => ?_, Nat.lt_of_lt_of_le hs hb.size⟩
  · rw [hb.cell (p := ⟨G, i, none⟩) (by show G < _; omega)]; exact h.1 i hi
  · rw [hb.cell (p := ⟨G + 1, i, none⟩) (by show G + 1 < _; omega)]; exact h.2.1 i hi

theorem Cl.made (w : World) (L M : Nat) (V O : Nat → Int) :
    Cl w.heap.size L M V O ((w.alloc (.cells (Cp (.int .u8 0) (fun i => .int .u8 (V i)) L L) 5)).alloc (.cells (Cp (.int .i64 0) (fun i => .int .i64 (O i)) M M) 3)) := by
  refine ⟨fun i hi => ?_, fun i hi => ?_, by simp⟩
  · rw [World.cell?_alloc_past _ _ _ (by simp), World.cell?_alloc_at _ _ _ _ rfl, Cp_get _ _ _ _ _ hi, if_pos hi]
  · rw [World.cell?_alloc_at _ _ _ _ (by simp), Cp_get _ _ _ _ _ hi, if_pos hi]

/-- The bytes as a list. -/
def lst (V : Nat → Int) (L : Nat) : List Int := (List.range L).map V
theorem lst_length (V : Nat → Int) (L : Nat) : (lst V L).length = L := by simp [lst]
theorem lst_get (V : Nat → Int) (L i : Nat) (h : i < L) : (lst V L).getD i 0 = V i := by simp [lst, h]
theorem lst_take (V : Nat → Int) (L j : Nat) (h : j < L) : (lst V L).take (j + 1) = (lst V L).take j ++ [V j] := by
  rw [List.take_succ_eq_append_getElem (by rw [lst_length]; exact h)]
  simp [lst]
theorem lst_drop (V : Nat → Int) (L s j : Nat) (h : s + j < L) : ((lst V L).drop s).take (j + 1) = ((lst V L).drop s).take j ++ [V (s + j)] := by
  rw [List.take_succ_eq_append_getElem (by rw [List.length_drop, lst_length]; omega)]
  simp [lst]
theorem lst_cells (V : Nat → Int) (L : Nat) : (Cp (.int .u8 0) (fun i => .int .u8 (V i)) L L).toList = u8s (lst V L) := by
  rw [Cp_list, u8s, lst, List.map_map]; rfl

/-- The encoder that the law makes: three new blocks. -/
theorem Enc.made (w : World) (L M : Nat) (V O : Nat → Int) (hL : L ≤ maxLen) :
    Enc w.heap.size (w.heap.size + 1 + 1) (w.heap.size + 1)
      (((w.alloc (.cells (Cp (.int .u8 0) (fun i => .int .u8 (V i)) L L) 5)).alloc (.cells (Cp (.int .i64 0) (fun i => .int .i64 (O i)) M M) 3)).alloc (.cells #[.slice (some ⟨w.heap.size, 0, none⟩) L L, .slice (some ⟨w.heap.size + 1, 0, none⟩) M M] 35))
      (((w.alloc (.cells (Cp (.int .u8 0) (fun i => .int .u8 (V i)) L L) 5)).alloc (.cells (Cp (.int .i64 0) (fun i => .int .i64 (O i)) M M) 3)).alloc (.cells #[.slice (some ⟨w.heap.size, 0, none⟩) L L, .slice (some ⟨w.heap.size + 1, 0, none⟩) M M] 35))
      w.heap.size L (lst V L) M M := by
  refine ⟨?_, ?_, rfl, Below.refl _ _⟩
  · rw [lst_length]
    have := heap_alloc_new ((w.alloc (.cells (Cp (.int .u8 0) (fun i => .int .u8 (V i)) L L) 5)).alloc (.cells (Cp (.int .i64 0) (fun i => .int .i64 (O i)) M M) 3)) (.cells #[.slice (some ⟨w.heap.size, 0, none⟩) L L, .slice (some ⟨w.heap.size + 1, 0, none⟩) M M] 35)
    simpa using this
  · rw [lst_length, ← lst_cells]
    exact ((World.ownsRow_lit w (Cp (.int .u8 0) (fun i => .int .u8 (V i)) L L) L (Nat.le_refl _) hL (by rw [Cp_size, Nat.mul_one])).alloc _).alloc _

theorem made_open (w : World) (L M : Nat) (V O : Nat → Int) (ob : Obj) :
    (((w.alloc (.cells (Cp (.int .u8 0) (fun i => .int .u8 (V i)) L L) 5)).alloc (.cells (Cp (.int .i64 0) (fun i => .int .i64 (O i)) M M) 3)).alloc ob).heap[w.heap.size + 1]? = some (.cells (Cp (.int .i64 0) (fun i => .int .i64 (O i)) M M) 3 (0, 0)) := by
  rw [Below.heap_alloc _ _ _ (by simp)]
  have := heap_alloc_new (w.alloc (.cells (Cp (.int .u8 0) (fun i => .int .u8 (V i)) L L) 5)) (.cells (Cp (.int .i64 0) (fun i => .int .i64 (O i)) M M) 3)
  simpa using this
end Go.Proofs.Qxb6634840a
