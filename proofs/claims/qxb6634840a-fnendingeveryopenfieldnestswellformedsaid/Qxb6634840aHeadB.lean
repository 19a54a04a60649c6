/-
  Law 8's ways that leave early.
-/
import Derived.Test.Qxb6634840aHeadA
import Derived.Test.Qxb6634840aDecode
namespace Go.Proofs.Qxb6634840a
open Go.RowKit

set_option maxRecDepth 100000 in
set_option maxHeartbeats 1000000 in
theorem early4 (a0 a1 : Option Addr) (l0 c0 l1 c1 : Nat) (w : World) (m0 : l0 ≤ maxLen) (m1 : l1 ≤ maxLen)
    (h : 1048576 < l0 ∨ (l0 ≤ 1048576 ∧ 131072 < l1) ∨ (l0 ≤ 1048576 ∧ l1 ≤ 131072 ∧ 1048576 < l0 + 8 * l1)) :
    Calls Try.prog 4 #[.slice a0 l0 c0, .slice a1 l1 c1] w fun e w' => e = .returned (.bool true) ∧ w = w' := by
  have m0' := m0
  have m1' := m1
  unfold maxLen at m0' m1'
  rcases h with h | ⟨h, h'⟩ | ⟨h, h', h''⟩
  all_goals
    go_enter Try.func4, Try.ntmps4
    go_wp2_with (go_at_call 14; refine (bytes14 _ _ _ _ _ _ _ m0 m1).mono ?_; rintro e w' ⟨b, rfl, rfl⟩)
    all_goals (go_ret; exact ⟨rfl, rfl⟩)

set_option maxRecDepth 100000 in
set_option maxHeartbeats 1000000 in
theorem none4 (a0 a1 : Option Addr) (l0 c0 c1 : Nat) (w : World) (m0 : l0 ≤ maxLen) (h : l0 ≤ 1048576) :
    Calls Try.prog 4 #[.slice a0 l0 c0, .slice a1 0 c1] w fun e w' => e = .returned (.bool true) ∧ w = w' := by
  have m1 : 0 ≤ maxLen := Nat.zero_le _
  go_enter Try.func4, Try.ntmps4
  go_wp2_with (first | (go_at_call 14; refine (bytes14 _ _ _ _ _ _ _ m0 m1).mono ?_; rintro e w' ⟨b, rfl, rfl⟩) | (go_at_call 6; refine (reachable0 _ _ _ _ _ _).mono ?_; rintro e w' ⟨rfl, rfl⟩))
  all_goals (go_ret; exact ⟨rfl, rfl⟩)

set_option maxRecDepth 100000 in
set_option maxHeartbeats 1000000 in
/-- An empty buffer: no offset can be in reach. -/
theorem zero4 (a0 : Option Addr) (c0 b1 o1 M c1 : Nat) (O : Nat → Int) (w : World) (m1 : M ≤ 131072) (hM0 : 0 < M)
    (hc1 : ∀ i, i < M → w.cell? ⟨b1, o1 + i, none⟩ = some (.int .i64 (O i))) :
    Calls Try.prog 4 #[.slice a0 0 c0, .slice (some ⟨b1, o1, none⟩) M c1] w fun e w' => e = .returned (.bool true) ∧ Below w.heap.size w w' := by
  have n1 : M ≤ maxLen := by unfold maxLen; omega
  have HC1 : Hid (∀ i, i < M → w.cell? ⟨b1, o1 + i, none⟩ = some (.int .i64 (O i))) := hc1
  clear hc1
  go_enter Try.func4, Try.ntmps4
  go_wp2_with fail
  refine (bytes14 _ _ _ _ _ _ _ (Nat.zero_le _) n1).mono ?_
  rintro e w' ⟨r, rfl, rfl⟩
  cases r
  · go_wp2
    go_ret
    exact ⟨rfl, Below.refl _ _⟩
  go_wp2_with fail
  refine (reachable _ 0 c0 b1 o1 M c1 O _ (by omega) m1 hM0 HC1.out).mono ?_
  rintro e w' ⟨r, q, rfl, rfl, hR⟩
  cases r
  · go_wp2
    go_ret
    exact ⟨rfl, below_drewN (Below.refl _ _) q⟩
  · have := hR rfl 0 hM0
    omega

theorem Enc.neh {B E h : Nat} {w0 w : World} {g cap : Nat} {ys : List Int} {m c : Nat} {hc : Array Value} (e : Enc B E h w0 w g cap ys m c) (hh : w0.heap[h]? = some (.cells hc 3 (0, 0))) : g ≠ h := by
  obtain ⟨cur, hg, _⟩ := e.row
  intro h'
  subst h'
  rw [e.2.2.1, hh] at hg
  simp at hg

/-- The offsets as naturals. -/
def nat (O : Nat → Int) : Nat → Nat := fun i => (O i).toNat
theorem nat_eq {O : Nat → Int} {L M : Nat} (h : Rch O L M) (i : Nat) (hi : i < M) : O i = ((nat O i : Nat) : Int) := by
  have := (h i hi).1
  unfold nat
  omega
theorem nat_ord {O : Nat → Int} {L M : Nat} (h : Rch O L M) : Ord (nat O) L M := fun i hi => by
  obtain ⟨h1, h2, h3⟩ := h i hi
  refine ⟨by unfold nat; omega, by unfold nat; omega, fun h0 => ?_⟩
  have := h3 h0
  unfold nat
  omega
end Go.Proofs.Qxb6634840a
