/-
  zzCloneF at any slice; Count right behind ZZnewHistogram.
-/
import Derived.Test.Qxb6632369aPlain
namespace Go.Proofs.Qxb6632369a
open Go.RowKit Go.MuLone

/-- What the walk is told of a slice of floats that came in. -/
def FRow (w : World) (a : Option Addr) (n : Nat) (V : Nat → Nat) : Prop :=
  n = 0 ∨ ∃ b o, a = some ⟨b, o, none⟩ ∧ ∀ i, i < n → w.cell? ⟨b, o + i, none⟩ = some (.float .f64 (V i))
/-- .. of a slice of uint64. -/
def URow (w : World) (a : Option Addr) (n : Nat) (V : Nat → Int) : Prop :=
  n = 0 ∨ ∃ b o, a = some ⟨b, o, none⟩ ∧ ∀ i, i < n → w.cell? ⟨b, o + i, none⟩ = some (.int .u64 (V i))

theorem cloneF_any (a : Option Addr) (n c : Nat) (V : Nat → Nat) (w : World) (hn : n ≤ 65536) (h : FRow w a n V) :
    Calls Try.prog 7 #[.slice a n c] w fun e w' => ∃ a', e = .returned (.slice a' n n) ∧ (0 < n → a' = some ⟨w.heap.size, 0, none⟩) ∧ Below w.heap.size w w' := by
  rcases h with rfl | ⟨b, o, rfl, hc⟩
  · refine (cloneF0 a c w).mono ?_
    rintro e w' ⟨a', rfl, rfl | ⟨o, rfl⟩⟩
    · exact ⟨a', rfl, fun h => absurd h (by omega), Below.refl _ _⟩
    · exact ⟨a', rfl, fun h => absurd h (by omega), (Below.refl _ _).alloc (Nat.le_refl _) _⟩
  · by_cases h0 : n = 0
    · subst h0
      refine (cloneF0 _ c w).mono ?_
      rintro e w' ⟨a', rfl, rfl | ⟨o, rfl⟩⟩
      · exact ⟨a', rfl, fun h => absurd h (by omega), Below.refl _ _⟩
      · exact ⟨a', rfl, fun h => absurd h (by omega), (Below.refl _ _).alloc (Nat.le_refl _) _⟩
    · refine (cloneF b o n c V w hn (by omega) hc).mono ?_
      rintro e w' ⟨rfl, rfl⟩
      exact ⟨_, rfl, fun _ => rfl, (Below.refl _ _).alloc (Nat.le_refl _) _⟩

/-- The block of a new histogram. -/
abbrev hist (a0 : Option Addr) (l0 c0 : Nat) (g o n c s : Nat) : Obj :=
  .cells #[.slice a0 l0 c0, .int .i32 0, .int .u32 0, .slice (some ⟨g, o, none⟩) n c, .float .f64 s] 42

/-- Count of the histogram that was made last: the sum; the world is as it was. -/
theorem count_new (b : Nat) (a0 : Option Addr) (l0 c0 : Nat) (g o n c s : Nat) (V : Nat → Int) (W : World) (hn : n ≤ 65536) (hb : b = W.heap.size) (hg : g < W.heap.size)
    (hc : ∀ i, i < n → W.cell? ⟨g, o + i, none⟩ = some (.int .u64 (V i))) :
    Calls Try.prog 10 #[.pointer (some ⟨b, 0, none⟩)] (W.alloc (hist a0 l0 c0 g o n c s)) fun e w' => e = .returned (.int .u64 (su V n)) ∧ W.alloc (hist a0 l0 c0 g o n c s) = w' := by
  subst hb
  refine (count W.heap.size g o n c V _ hn ?_ ?_ ?_ (by omega) ?_).mono ?_
  · rw [World.cell?_alloc_at _ _ _ _ rfl]; rfl
  · rw [World.frozen?_alloc_at _ _ _ _ rfl]
  · rw [World.cell?_alloc_at _ _ _ _ rfl]; rfl
  · intro i hi
    rw [World.cell?_alloc_past _ _ _ hg]
    exact hc i hi
  · rintro e w' ⟨rfl, rfl⟩
    refine ⟨rfl, ?_⟩
    rw [World.setCell_alloc_at _ _ _ _ _ rfl, World.setCell_alloc_at _ _ _ _ _ rfl]
    rfl
end Go.Proofs.Qxb6632369a
