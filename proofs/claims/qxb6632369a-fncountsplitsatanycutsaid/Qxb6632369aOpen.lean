/-
  WHAT THE READING OF THE TWO SLICES GIVES THE WALK: a []float64 and a []uint64, opened.
-/
import Derived.Test.Qxb6632369aHist
import Derived.ProofKit
import Derived.OpenShut
import Derived.Deep.Slices
import Derived.WalkLawsBesides
namespace Go.Proofs.Qxb6632369a
open Go.ChangeShapes Go.WideShapes Go.ChangeAt Go.RowKit
section
variable {H : Type} {enc : TypeId × Value → H} {w : World} {base : Nat} {spare : Nat → Bool} {held : Bool}

theorem trod_float1 {k : FloatKind} {t : TypeId} {P : Program} {fuel : Nat} {v : Value} {x : DataW H × List MemPlace} (ht : P.underlying t = some (.float k)) (h : DataW.trod enc P w base spare held fuel t [v] = some x) : ∃ b, v = .float k b := by
  cases fuel with
  | zero => simp [DataW.trod] at h
  | succ n =>
    unfold DataW.trod at h
    rw [ht] at h
    split at h <;> simp_all

theorem at_plain {a : Addr} {n : Nat} {V : Nat → Value} (h : ∀ i, i < n → w.cell? (a.add i) = some (V i)) (hp : 0 < n) :
    ∃ b o, a = ⟨b, o, none⟩ ∧ ∀ i, i < n → w.cell? ⟨b, o + i, none⟩ = some (V i) := by
  obtain ⟨b, off, spot⟩ := a
  have hspot : spot = none := by simpa [Addr.add] using World.cell?_spot (h 0 hp)
  subst hspot
  exact ⟨b, off, rfl, fun j hj => by rw [← Go.WideShapes.add_plain]; exact h j hj⟩

/-- A []float64 that came in. -/
theorem open_floats {a : Option Addr} {len cap : Nat} {d : DataW H} {ps : List MemPlace} (h : DataW.Trod enc Try.prog w base spare held 22 (.slice a len cap) d ps) : ∃ V, len ≤ maxLen ∧ FRow w a len V := by
  obtain ⟨fuel, hf⟩ := h
  rcases Go.Deep.open_slice1 Try.underlying22 (by kernel_rfl) hf with ⟨hcs, _⟩ | ⟨x, l, c, m, n, V, D, Pl, hcs, _, hl, hm, hmm, _, hcell⟩
  · simp [Value.cells] at hcs
    obtain ⟨rfl, rfl, rfl⟩ := hcs
    exact ⟨fun _ => 0, Nat.zero_le _, .inl rfl⟩
  · simp [Value.cells] at hcs
    obtain ⟨rfl, rfl, rfl⟩ := hcs
    have hlm : len ≤ m := by rw [hmm]; split <;> omega
    have hex : ∀ i, i < len → ∃ b : Nat, w.cell? (x.add i) = some (.float .f64 b) := by
      intro i hi
      obtain ⟨h1, h2⟩ := hcell i (by omega)
      obtain ⟨b, hb⟩ := trod_float1 Try.underlying24 h2
      exact ⟨b, by rw [h1, hb]⟩
    obtain ⟨V', hV'⟩ := Go.Deep.choose_lt hex
    by_cases h0 : len = 0
    · exact ⟨V', by omega, .inl h0⟩
    · obtain ⟨b, o, rfl, hc⟩ := at_plain hV' (by omega)
      exact ⟨V', by omega, .inr ⟨b, o, rfl, hc⟩⟩

/-- A []uint64 that came in. -/
theorem open_uints {a : Option Addr} {len cap : Nat} {d : DataW H} {ps : List MemPlace} (h : DataW.Trod enc Try.prog w base spare held 23 (.slice a len cap) d ps) : ∃ V, len ≤ maxLen ∧ URow w a len V := by
  obtain ⟨fuel, hf⟩ := h
  rcases Go.Deep.open_slice1 Try.underlying23 (by kernel_rfl) hf with ⟨hcs, _⟩ | ⟨x, l, c, m, n, V, D, Pl, hcs, _, hl, hm, hmm, _, hcell⟩
  · simp [Value.cells] at hcs
    obtain ⟨rfl, rfl, rfl⟩ := hcs
    exact ⟨fun _ => 0, Nat.zero_le _, .inl rfl⟩
  · simp [Value.cells] at hcs
    obtain ⟨rfl, rfl, rfl⟩ := hcs
    have hlm : len ≤ m := by rw [hmm]; split <;> omega
    have hex : ∀ i, i < len → ∃ b : Int, w.cell? (x.add i) = some (.int .u64 b) := by
      intro i hi
      obtain ⟨h1, h2⟩ := hcell i (by omega)
      obtain ⟨b, hb, _⟩ := DataW.trod_int Try.underlying25 h2
      simp at hb
      exact ⟨b, by rw [h1, hb]⟩
    obtain ⟨V', hV'⟩ := Go.Deep.choose_lt hex
    by_cases h0 : len = 0
    · exact ⟨V', by omega, .inl h0⟩
    · obtain ⟨b, o, rfl, hc⟩ := at_plain hV' (by omega)
      exact ⟨V', by omega, .inr ⟨b, o, rfl, hc⟩⟩
end

theorem own : ownKnob Try.prog.godebug = none := by kernel_rfl
theorem laidOut : laidOutB Try.prog = true := by kernel_rfl
end Go.Proofs.Qxb6632369a
