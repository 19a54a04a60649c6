/-
  THE WALK of FnCountRisesByWhatOneBucketGains.
-/
import Derived.Test.Qxb6632369aHist
namespace Go.Proofs.Qxb6632369a
open Go.RowKit Go.MuLone

theorem ret_bool {a b : Bool} (h : a = b) : Ending.returned (.bool a) = .returned (.bool b) := by rw [h]

set_option maxHeartbeats 1000000 in
/-- The ways that leave early. -/
theorem rises_early (a0 a1 : Option Addr) (l0 c0 l1 c1 s : Nat) (i d : Int) (w : World) (m0 : l0 ≤ maxLen) (m1 : l1 ≤ maxLen)
    (h : 65536 < l0 ∨ (l0 ≤ 65536 ∧ 65536 < l1) ∨ (l0 ≤ 65536 ∧ l1 ≤ 65536 ∧ l1 < l0 + 1) ∨ (l0 ≤ 65536 ∧ l1 ≤ 65536 ∧ l0 + 1 < l1) ∨ (l0 ≤ 65536 ∧ l1 ≤ 65536 ∧ l1 ≤ l0 + 1 ∧ l0 + 1 ≤ l1 ∧ i < 0) ∨ (l0 ≤ 65536 ∧ l1 ≤ 65536 ∧ l1 ≤ l0 + 1 ∧ l0 + 1 ≤ l1 ∧ 0 ≤ i ∧ (l1 : Int) ≤ i)) :
    Calls Try.prog 3 #[.slice a0 l0 c0, .slice a1 l1 c1, .float .f64 s, .int .i64 i, .int .u64 d] w fun e w' => e = .returned (.bool true) ∧ w = w' := by
  have m0' := m0
  have m1' := m1
  unfold maxLen at m0' m1'
  rcases h with h | ⟨h, h'⟩ | ⟨h, h', h''⟩ | ⟨h, h', h''⟩ | ⟨h, h', h1, h2, h''⟩ | ⟨h, h', h1, h2, h3, h''⟩
  all_goals
    go_enter Try.func3, Try.ntmps3
    go_wp2_with (go_at_call 5; refine (bytes5 _ _ _ _ _ _ _ _ _ _ m0 m1).mono ?_; rintro e w' ⟨b, rfl, rfl⟩)
    all_goals (go_ret; exact ⟨rfl, rfl⟩)

set_option maxHeartbeats 1000000 in
theorem rises_main (a0 : Option Addr) (l0 c0 : Nat) (V0 : Nat → Nat) (b o l1 c1 : Nat) (V : Nat → Int) (s j : Nat) (d : Int) (w : World)
    (m0 : l0 ≤ 65536) (m1 : l1 ≤ 65536) (e1 : l1 ≤ l0 + 1) (e2 : l0 + 1 ≤ l1) (hj : j < l1) (hF : FRow w a0 l0 V0)
    (hc : ∀ i, i < l1 → w.cell? ⟨b, o + i, none⟩ = some (.int .u64 (V i))) :
    Calls Try.prog 3 #[.slice a0 l0 c0, .slice (some ⟨b, o, none⟩) l1 c1, .float .f64 s, .int .i64 j, .int .u64 d] w fun e w' => e = .returned (.bool true) ∧ Below w.heap.size w w' := by
  have hb : b < w.heap.size := World.block_lt_of_cell? _ _ (hc j hj)
  have n0 : l0 ≤ maxLen := by unfold maxLen; omega
  have n1 : l1 ≤ maxLen := by unfold maxLen; omega
  have HC : Hid (∀ i, i < l1 → w.cell? ⟨b, o + i, none⟩ = some (.int .u64 (V i))) := hc
  have HF : Hid (FRow w a0 l0 V0) := hF
  clear hc hF
  go_enter Try.func3, Try.ntmps3
  go_wp2_with fail
  refine (bytes5 _ _ _ _ _ _ _ _ _ _ n0 n1).mono ?_
  rintro e w' ⟨r, rfl, rfl⟩
  cases r
  · go_wp2
    go_ret
    exact ⟨rfl, Below.refl _ _⟩
  go_wp2_with fail
  refine (ascending a0 l0 c0 V0 _ m0 (by exact HF.out)).mono ?_
  rintro e w' ⟨r, q, rfl, rfl⟩
  cases r
  · go_wp2
    go_ret
    exact ⟨rfl, ⟨rfl, rfl, rfl, Nat.le_refl _, fun _ _ => rfl⟩⟩
  go_wp2_with fail
  refine (cloneF_any a0 l0 c0 V0 _ m0 (by exact HF.out)).mono ?_
  rintro e w1 ⟨a', rfl, _, hbel⟩
  have hsz : w.heap.size ≤ w1.heap.size := hbel.size
  have Hbel : Hid (Below w.heap.size w w1) := ⟨hbel.os, hbel.tape, hbel.output, hbel.size, hbel.block⟩
  have HC1 : Hid (∀ i, i < l1 → w1.cell? ⟨b, o + i, none⟩ = some (.int .u64 (V i))) := fun i hi => (Hbel.out.cell hb).trans (HC.out i hi)
  clear hbel
  go_wp2_with fail
  refine (cloneU b o l1 c1 V _ m1 (by omega) HC1.out).mono ?_
  rintro e w2 ⟨rfl, rfl⟩
  go_wp2_with fail
  refine (newHist _ _ _ _ _ _ _ _).mono ?_
  rintro e w2 ⟨rfl, rfl⟩
  go_wp2_with fail
  refine (count_new (w1.heap.size + 1) a' l0 l0 w1.heap.size 0 l1 l1 s V (w1.alloc (.cells (Cp (.int .u64 0) (fun i => .int .u64 (V i)) l1 l1) 25)) m1 (by simp) (by simp) ?_).mono ?_
  · intro i hi
    rw [Nat.zero_add, World.cell?_alloc_at _ _ _ _ rfl]
    exact Cp_get _ _ _ _ hi
  rintro e w2 ⟨rfl, rfl⟩
  go_wp2_with fail
  refine (cloneU w1.heap.size 0 l1 l1 V _ m1 (by omega) ?_).mono ?_
  · intro i hi
    rw [Nat.zero_add, World.cell?_alloc_past _ _ _ (by simp), World.cell?_alloc_at _ _ _ _ rfl]
    exact Cp_get _ _ _ _ hi
  rintro e w2 ⟨rfl, rfl⟩
  have gj : (Cp (.int .u64 0) (fun i => .int .u64 (V i)) l1 l1)[j]? = some (.int .u64 (V j)) := Cp_get _ _ _ _ hj
  go_wp2_with fail
  refine (newHist _ _ _ _ _ _ _ _).mono ?_
  rintro e w2 ⟨rfl, rfl⟩
  go_wp2_with fail
  refine (count_new (w1.heap.size + 1 + 1 + 1) a' l0 l0 (w1.heap.size + 1 + 1) 0 l1 l1 s (upd V j d) (((w1.alloc (.cells (Cp (.int .u64 0) (fun i => .int .u64 (V i)) l1 l1) 25)).alloc (hist a' l0 l0 w1.heap.size 0 l1 l1 s)).alloc (.cells ((Cp (.int .u64 0) (fun i => .int .u64 (V i)) l1 l1).setIfInBounds j (.int .u64 (IntKind.u64.wrap (V j + d)))) 25)) m1 (by simp) (by simp) ?_).mono ?_
  · intro i hi
    rw [Nat.zero_add, World.cell?_alloc_at _ _ _ _ (by simp), Array.getElem?_setIfInBounds]
    by_cases e : j = i
    · subst e
      rw [if_pos rfl, if_pos (by rw [Cp_size]; exact hj), upd, if_pos rfl]
    · rw [if_neg e, Cp_get _ _ _ _ hi, upd, if_neg (Ne.symm e)]
  rintro e w2 ⟨rfl, rfl⟩
  have HR := rises V j d l1 hj
  have ht : (su (upd V j d) l1 == IntKind.u64.wrap (su V l1 + d)) = true := by rw [HR]; simp
  clear HR
  go_wp2
  go_ret
  refine ⟨rfl, ?_⟩
  exact ((((Hbel.out.alloc hsz _).alloc (by simp; omega) _).alloc (by simp; omega) _).alloc (by simp; omega) _)

end Go.Proofs.Qxb6632369a
