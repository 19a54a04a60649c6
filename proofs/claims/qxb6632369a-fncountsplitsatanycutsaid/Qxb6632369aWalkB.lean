/-
  THE WALK of FnCountSplitsAtAnyCut.
-/
import Derived.Test.Qxb6632369aHist
import Derived.Deep.RegionHeld3
namespace Go.Proofs.Qxb6632369a
open Go.RowKit Go.MuLone

set_option maxHeartbeats 1000000 in
/-- The ways that leave early. -/
theorem splits_early (a0 a1 : Option Addr) (l0 c0 l1 c1 s : Nat) (i : Int) (w : World) (m0 : l0 ≤ maxLen) (m1 : l1 ≤ maxLen)
    (h : 65536 < l0 ∨ (l0 ≤ 65536 ∧ 65536 < l1) ∨ (l0 ≤ 65536 ∧ l1 ≤ 65536 ∧ l1 < l0 + 1) ∨ (l0 ≤ 65536 ∧ l1 ≤ 65536 ∧ l0 + 1 < l1) ∨ (l0 ≤ 65536 ∧ l1 ≤ 65536 ∧ l1 ≤ l0 + 1 ∧ l0 + 1 ≤ l1 ∧ i < 1) ∨ (l0 ≤ 65536 ∧ l1 ≤ 65536 ∧ l1 ≤ l0 + 1 ∧ l0 + 1 ≤ l1 ∧ 1 ≤ i ∧ (l1 : Int) ≤ i)) :
    Calls Try.prog 4 #[.slice a0 l0 c0, .slice a1 l1 c1, .float .f64 s, .int .i64 i] w fun e w' => e = .returned (.bool true) ∧ w = w' := by
  have m0' := m0
  have m1' := m1
  unfold maxLen at m0' m1'
  rcases h with h | ⟨h, h'⟩ | ⟨h, h', h''⟩ | ⟨h, h', h''⟩ | ⟨h, h', h1, h2, h''⟩ | ⟨h, h', h1, h2, h3, h''⟩
  all_goals
    go_enter Try.func4, Try.ntmps4
    go_wp2_with (go_at_call 11; refine (bytes11 _ _ _ _ _ _ _ _ _ m0 m1).mono ?_; rintro e w' ⟨b, rfl, rfl⟩)
    all_goals (go_ret; exact ⟨rfl, rfl⟩)

/-- Count behind a draw. -/
theorem count_drew (b : Nat) (a0 : Option Addr) (l0 c0 : Nat) (g o n c s : Nat) (V : Nat → Int) (W : World) (hn : n ≤ 65536) (hb : b = W.heap.size) (hg : g < W.heap.size)
    (hc : ∀ i, i < n → W.cell? ⟨g, o + i, none⟩ = some (.int .u64 (V i))) :
    Calls Try.prog 10 #[.pointer (some ⟨b, 0, none⟩)] (W.alloc (hist a0 l0 c0 g o n c s)).drew fun e w' => e = .returned (.int .u64 (su V n)) ∧ (W.alloc (hist a0 l0 c0 g o n c s)).drew = w' :=
  count_new b a0 l0 c0 g o n c s V W.drew hn hb hg hc

/-- What the walk carries from region to region: the counts' clone (block B + 1), nothing old turned. -/
theorem carry {w w2 w3 : World} {l1 : Nat} {V : Nat → Int} {ob : Obj} (hz2 : w.heap.size + 1 < w2.heap.size) (HB2 : Hid (Below w.heap.size w w2))
    (HC2 : Hid (∀ i, i < l1 → w2.cell? ⟨w.heap.size + 1, i, none⟩ = some (.int .u64 (V i)))) (h : (w2.alloc ob).drew = w3) :
    w.heap.size + 1 < w3.heap.size ∧ Hid (Below w.heap.size w w3) ∧ Hid (∀ i, i < l1 → w3.cell? ⟨w.heap.size + 1, i, none⟩ = some (.int .u64 (V i))) := by
  subst h
  refine ⟨by simp; omega, (HB2.out.alloc (by omega) _).drew, fun i hi => ?_⟩
  show (w2.alloc ob).cell? _ = _
  rw [World.cell?_alloc_past _ _ _ hz2]
  exact HC2.out i hi

set_option maxHeartbeats 1000000 in
theorem splits_main (b0 o0 l0 c0 : Nat) (V0 : Nat → Nat) (b o l1 c1 : Nat) (V : Nat → Int) (s j : Nat) (w : World)
    (m0 : l0 ≤ 65536) (m1 : l1 ≤ 65536) (e1 : l1 ≤ l0 + 1) (e2 : l0 + 1 ≤ l1) (hj0 : 1 ≤ j) (hj : j < l1) (v0 : 0 ≤ V 0) (v1 : V 0 < 18446744073709551616)
    (hF : ∀ i, i < l0 → w.cell? ⟨b0, o0 + i, none⟩ = some (.float .f64 (V0 i)))
    (hc : ∀ i, i < l1 → w.cell? ⟨b, o + i, none⟩ = some (.int .u64 (V i))) :
    Calls Try.prog 4 #[.slice (some ⟨b0, o0, none⟩) l0 c0, .slice (some ⟨b, o, none⟩) l1 c1, .float .f64 s, .int .i64 j] w fun e w' => e = .returned (.bool true) ∧ Below w.heap.size w w' := by
  have hb : b < w.heap.size := World.block_lt_of_cell? _ _ (hc j hj)
  have n0 : l0 ≤ maxLen := by unfold maxLen; omega
  have n1 : l1 ≤ maxLen := by unfold maxLen; omega
  have HC : Hid (∀ i, i < l1 → w.cell? ⟨b, o + i, none⟩ = some (.int .u64 (V i))) := hc
  have HF : Hid (∀ i, i < l0 → w.cell? ⟨b0, o0 + i, none⟩ = some (.float .f64 (V0 i))) := hF
  clear hc hF
  have i1 : (0 : Int) ≤ (j : Int) := by omega
  have i2 : (0 : Int) ≤ (j : Int) - 1 := by omega
  have i3 : (j : Int) - 1 ≤ (l0 : Int) := by omega
  have i4 : (j : Int) ≤ (l0 : Int) := by omega
  have i5 : (j : Int) ≤ (l1 : Int) := by omega
  have i6 : (1 : Int) ≤ (l1 : Int) := by omega
  go_enter Try.func4, Try.ntmps4
  go_wp2_with fail
  refine (bytes11 _ _ _ _ _ _ _ _ _ n0 n1).mono ?_
  rintro e w' ⟨r, rfl, rfl⟩
  cases r
  · go_wp2
    go_ret
    exact ⟨rfl, Below.refl _ _⟩
  go_wp2_with fail
  refine (ascending _ l0 c0 V0 _ m0 (by exact .inr ⟨b0, o0, rfl, HF.out⟩)).mono ?_
  rintro e w' ⟨r, q, rfl, rfl⟩
  cases r
  · go_wp2
    go_ret
    exact ⟨rfl, ⟨rfl, rfl, rfl, Nat.le_refl _, fun _ _ => rfl⟩⟩
  go_wp2_with fail
  refine (cloneF b0 o0 l0 c0 V0 _ m0 (by omega) (by exact HF.out)).mono ?_
  rintro e w1 ⟨rfl, rfl⟩
  have HC1 : Hid (∀ i, i < l1 → ((w.drewN q).alloc (.cells (Cp (.float .f64 0) (fun i => .float .f64 (V0 i)) l0 l0) 24)).cell? ⟨b, o + i, none⟩ = some (.int .u64 (V i))) := fun i hi => by
    rw [World.cell?_alloc_past _ _ _ (by simpa using hb)]; exact HC.out i hi
  go_wp2_with fail
  refine (cloneU b o l1 c1 V _ m1 (by omega) HC1.out).mono ?_
  rintro e w2 ⟨rfl, rfl⟩
  go_wp2_with fail
  refine (newHist _ _ _ _ _ _ _ _).mono ?_
  rintro e w2 ⟨rfl, rfl⟩
  go_wp2_with fail
  refine (count_new (w.heap.size + 1 + 1) (some ⟨w.heap.size, 0, none⟩) l0 l0 (w.heap.size + 1) 0 l1 l1 s V (((w.drewN q).alloc (.cells (Cp (.float .f64 0) (fun i => .float .f64 (V0 i)) l0 l0) 24)).alloc (.cells (Cp (.int .u64 0) (fun i => .int .u64 (V i)) l1 l1) 25)) m1 (by simp) (by simp) ?_).mono ?_
  · intro i hi
    rw [Nat.zero_add, World.cell?_alloc_at _ _ _ _ (by simp)]
    exact Cp_get _ _ _ _ hi
  rintro e w2 ⟨rfl, hw2⟩
  have hz2 : w.heap.size + 1 < w2.heap.size := by rw [← hw2]; simp
  have HB2 : Hid (Below w.heap.size w w2) := by
    rw [← hw2]
    exact (((below_drewN (Below.refl _ _) q).alloc (by simp) _).alloc (by simp) _).alloc (by simp; omega) _
  have HC2 : Hid (∀ i, i < l1 → w2.cell? ⟨w.heap.size + 1, i, none⟩ = some (.int .u64 (V i))) := by
    intro i hi
    rw [← hw2, World.cell?_alloc_past _ _ _ (by simp), World.cell?_alloc_at _ _ _ _ (by simp)]
    exact Cp_get _ _ _ _ hi
  clear hw2 HC1 HC HF
  go_wp2_with fail
  have hwr : IntKind.i64.wrap ((j : Int) - 1) = (j : Int) - 1 := by rw [IntKind.wrap_i64]; omega
  go_region_held3 (fun w' => True) (trivial)
    (first | (go_at_call 9; refine (newHist _ _ _ _ _ _ _ _).mono ?_; rintro e w' ⟨rfl, rfl⟩) | (go_at_call 10; refine (count_drew w2.heap.size (some ⟨w.heap.size, 0, none⟩) (j - 1) l0 (w.heap.size + 1) 0 j l1 s V w2 (by omega) rfl hz2 (by intro i hi; rw [Nat.zero_add]; exact HC2.out i (by omega))).mono ?_; rintro e w3 ⟨rfl, hw3⟩; obtain ⟨hz3, HB3, HC3⟩ := carry hz2 HB2 HC2 hw3; clear hw3))
  go_wp2_with fail
  have hjl : j < l0 ∨ j = l0 := by omega
  clear hwr
  rcases hjl with hjl | rfl
  all_goals
    go_region_held3 (fun w' => True) (trivial)
      (first | (go_at_call 9; refine (newHist _ _ _ _ _ _ _ _).mono ?_; rintro e w' ⟨rfl, rfl⟩) | (go_at_call 10; refine (count_drew w3.heap.size _ _ _ (w.heap.size + 1) j (l1 - j) (l1 - j) s (fun i => V (j + i)) w3 (by omega) rfl hz3 (by intro i hi; exact HC3.out (j + i) (by omega))).mono ?_; rintro e w4 ⟨rfl, hw4⟩; obtain ⟨hz4, HB4, HC4⟩ := carry hz3 HB3 HC3 hw4; clear hw4))
    go_wp2_with fail
    go_region_held3 (fun w' => True) (trivial)
      (first | (go_at_call 9; refine (newHist _ _ _ _ _ _ _ _).mono ?_; rintro e w' ⟨rfl, rfl⟩) | (go_at_call 10; refine (count_drew w4.heap.size _ _ _ (w.heap.size + 1) 0 1 l1 s V w4 (by omega) rfl hz4 (by intro i hi; rw [Nat.zero_add]; exact HC4.out i (by omega))).mono ?_; rintro e w5 ⟨rfl, hw5⟩; obtain ⟨hz5, HB5, HC5⟩ := carry hz4 HB4 HC4 hw5; clear hw5))
    have g0 := HC5.out 0 (by omega)
    have t1 : (su V l1 == IntKind.u64.wrap (su V j + su (fun i => V (j + i)) (l1 - j))) = true := by
      have h := splits V j (l1 - j)
      rw [show j + (l1 - j) = l1 by omega] at h
      rw [h]; simp
    have t2 : (su V 1 == V 0) = true := by
      have h : su V 1 = V 0 := by simp only [su, wrap_u]; omega
      rw [h]; simp
    go_wp2
    go_ret
    exact ⟨rfl, HB5.out⟩
end Go.Proofs.Qxb6632369a
