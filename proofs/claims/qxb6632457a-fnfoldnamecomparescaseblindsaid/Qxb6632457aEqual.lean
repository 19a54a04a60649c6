/-
  zzEqualFoldB1 answers whether the folds are equal.
-/
import Derived.Test.Qxb6632457aLeaves
namespace Go.Proofs.Qxb6632457a
open Go.RowKit

theorem leB_low (c : UInt8) : leB ((low c).toNat : Int) = leB (c.toNat : Int) := by
  have := all_bytes (fun c => leB ((low c).toNat : Int) == leB (c.toNat : Int)) (by decide +kernel) c
  simpa using this
theorem or_low (c : UInt8) (h : leB (c.toNat : Int) = true) : c ||| 32 = low c := by
  have := all_bytes (fun c => !leB (c.toNat : Int) || (c ||| 32) == low c) (by decide +kernel) c
  simp [h] at this
  exact this
theorem not_low (c : UInt8) (h : leB (c.toNat : Int) = false) : low c = c := by
  apply low_not
  simp [leB] at h
  exact h.1

theorem toNat_eq {x y : UInt8} (h : (x.toNat : Int) = (y.toNat : Int)) : x = y := UInt8.toNat_inj.1 (by omega)

/-- The rounds that go on agree; those that leave part. -/
theorem part_same {x y : UInt8} (h : ((x.toNat : Int) == (y.toNat : Int)) = true) : low x = low y := by
  have e : x = y := toNat_eq (by simpa using h)
  rw [e]
theorem part_left {x y : UInt8} (h : ((x.toNat : Int) == (y.toNat : Int)) = false) (hx : leB (x.toNat : Int) = false) : low x ≠ low y := by
  intro e
  have hy : leB (y.toNat : Int) = false := by rw [← leB_low, ← e, leB_low]; exact hx
  rw [not_low _ hx, not_low _ hy] at e
  subst e
  simp at h
theorem part_right {x y : UInt8} (hx : leB (x.toNat : Int) = true) (hy : leB (y.toNat : Int) = false) : low x ≠ low y := by
  intro e
  have : leB (y.toNat : Int) = true := by rw [← leB_low, ← e, leB_low]; exact hx
  rw [this] at hy
  cases hy

theorem or_bits (c : UInt8) : bits .or .u8 (c.toNat : Int) 32 = ((c ||| 32).toNat : Int) := by
  have := all_bytes (fun c => bits .or .u8 (c.toNat : Int) 32 == ((c ||| 32).toNat : Int)) (by decide +kernel) c
  simpa using this
theorem part_or {x y : UInt8} (hx : leB (x.toNat : Int) = true) (hy : leB (y.toNat : Int) = true) (h : (bits .or .u8 (x.toNat : Int) 32 != bits .or .u8 (y.toNat : Int) 32) = true) : low x ≠ low y := by
  intro e
  rw [or_bits, or_bits, or_low _ hx, or_low _ hy, e] at h
  simp at h
theorem same_or {x y : UInt8} (hx : leB (x.toNat : Int) = true) (hy : leB (y.toNat : Int) = true) (h : (bits .or .u8 (x.toNat : Int) 32 != bits .or .u8 (y.toNat : Int) 32) = false) : low x = low y := by
  rw [or_bits, or_bits, or_low _ hx, or_low _ hy] at h
  exact toNat_eq (by simpa using h)

theorem step_same {a b : ByteArray} {k : Nat} (ha : k < a.size) (hb : k < b.size) (h : low a[k] = low b[k]) (HN : ∀ (t : Nat) (ha : t < a.size) (hb : t < b.size), t < k → low a[t] = low b[t]) :
    Hid (∀ (t : Nat) (ha : t < a.size) (hb : t < b.size), t < k + 1 → low a[t] = low b[t]) := fun t ha hb ht => by
  by_cases e : t = k
  · subst e; exact h
  · exact HN t ha hb (by omega)

theorem same_false {a b : ByteArray} (k : Nat) (ha : k < a.size) (hb : k < b.size) (h : low a[k] ≠ low b[k]) : false = ((fold a).toList == (fold b).toList) := by
  symm
  rw [beq_eq_false_iff_ne]
  intro e
  apply h
  have e' : fold a = fold b := by
    rw [ByteArray.toList_eq, ByteArray.toList_eq] at e
    exact Go.WideShapes.bytes_inj e
  have h1 := fold_get a k (by rw [fold_size]; exact ha)
  have h2 := fold_get b k (by rw [fold_size]; exact hb)
  rw [← h1, ← h2]
  simp only [e']

theorem same_true {a b : ByteArray} (hs : a.size = b.size) (h : ∀ (k : Nat) (ha : k < a.size) (hb : k < b.size), low a[k] = low b[k]) : true = ((fold a).toList == (fold b).toList) := by
  have e : fold a = fold b := by
    apply ByteArray.ext
    apply Array.ext
    · have h1 := fold_size a
      have h2 := fold_size b
      simp only [ByteArray.size] at h1 h2 hs
      omega
    · intro k h1 h2
      have h3 : k < (fold a).size := h1
      have h4 : k < (fold b).size := h2
      have ha := fold_get a k h1
      have hb := fold_get b k h2
      rw [fold_size] at h3 h4
      have := h k h3 h4
      rw [← ha, ← hb] at this
      exact this
  rw [e]; simp

theorem same_len {a b : ByteArray} (h : ¬ a.size = b.size) : false = ((fold a).toList == (fold b).toList) := by
  symm
  rw [beq_eq_false_iff_ne]
  intro e
  apply h
  have e' : fold a = fold b := by
    rw [ByteArray.toList_eq, ByteArray.toList_eq] at e
    exact Go.WideShapes.bytes_inj e
  rw [← fold_size a, ← fold_size b, e']

set_option maxHeartbeats 800000 in
theorem equalFold (a b : ByteArray) (w : World) (h0 : a.size ≤ 524288) (_h1 : b.size ≤ 524288) :
    Calls Try.prog 10 #[.string a, .string b] w fun e w' => e = .returned (.bool ((fold a).toList == (fold b).toList)) ∧ w = w' := by
  by_cases hsz : a.size = b.size
  · have hs1 : a.size ≤ b.size := by omega
    have hs2 : b.size ≤ a.size := by omega
    have HS : Hid (a.size = b.size) := hsz
    have hs0 : ((a.size : Int) != (b.size : Int)) = false := by simp [hsz]
    clear hsz
    go_enter Try.func10, Try.ntmps10
    go_wp2
    go_loop [5] (fun i => ∃ k : Nat, k ≤ a.size ∧ i = .int .i64 k ∧ Hid (∀ (t : Nat) (ha : t < a.size) (hb : t < b.size), t < k → low a[t] = low b[t])) (fun i => a.size - (intOf i).toNat)
    case atStart => exact ⟨0, Nat.zero_le _, rfl, fun t _ _ h => absurd h (Nat.not_lt_zero _)⟩
    case round =>
      obtain ⟨k, hk, rfl, HN⟩ := hrel
      by_cases hlt : k < a.size
      · have hlb : k < b.size := by omega
        by_cases hxy : (((a[k]).toNat : Int) == ((b[k]).toNat : Int)) = true
        · go_wp2
          go_round
          case rel => exact ⟨k + 1, by omega, by go_num, step_same hlt hlb (part_same hxy) HN.out⟩
          case measure => simp [intOf]; omega
        · have hxy' : (((a[k]).toNat : Int) == ((b[k]).toNat : Int)) = false := by simpa using hxy
          clear hxy
          cases hx : leB ((a[k]).toNat : Int)
          · go_wp2_with (go_at_call 12; refine (isLetter12 _ _).mono ?_; rintro e w' ⟨rfl, rfl⟩)
            go_ret
            exact ⟨ret_bool (same_false k hlt hlb (part_left hxy' hx)), rfl⟩
          · cases hy : leB ((b[k]).toNat : Int)
            · go_wp2_with (go_at_call 12; refine (isLetter12 _ _).mono ?_; rintro e w' ⟨rfl, rfl⟩)
              go_ret
              exact ⟨ret_bool (same_false k hlt hlb (part_right hx hy)), rfl⟩
            · cases hor : (bits .or .u8 ((a[k]).toNat : Int) 32 != bits .or .u8 ((b[k]).toNat : Int) 32)
              · go_wp2_with (go_at_call 12; refine (isLetter12 _ _).mono ?_; rintro e w' ⟨rfl, rfl⟩)
                go_round
                case rel => exact ⟨k + 1, by omega, by go_num, step_same hlt hlb (same_or hx hy hor) HN.out⟩
                case measure => simp [intOf]; omega
              · go_wp2_with (go_at_call 12; refine (isLetter12 _ _).mono ?_; rintro e w' ⟨rfl, rfl⟩)
                go_ret
                exact ⟨ret_bool (same_false k hlt hlb (part_or hx hy hor)), rfl⟩
      · go_wp2
        go_ret
        exact ⟨ret_bool (same_true HS.out fun t ha hb => HN.out t ha hb (by omega)), rfl⟩
  · have hs : ((a.size : Int) != (b.size : Int)) = true := by simp; omega
    go_enter Try.func10, Try.ntmps10
    go_wp2
    go_ret
    exact ⟨ret_bool (same_len hsz), rfl⟩
end Go.Proofs.Qxb6632457a
