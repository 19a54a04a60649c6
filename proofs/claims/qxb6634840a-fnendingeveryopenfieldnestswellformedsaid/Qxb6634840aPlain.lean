/-
  THE PLAIN LAWS: BER length octets as lists of numbers: no Go in sight.
-/
namespace Go.Proofs.Qxb6634840a

/-- The i-th digit of n to base 256. -/
def dig (n i : Nat) : Nat := n / 256 ^ i % 256
/-- How many octets the long form of n takes (n < 2^24). -/
def lenB (n : Nat) : Nat := if n < 256 then 1 else if n < 65536 then 2 else 3
/-- n in k octets, the highest first. -/
def be (k n : Nat) : List Int := (List.range k).map fun i => ((dig n (k - 1 - i) : Nat) : Int)
/-- n's lowest k octets, the lowest first. -/
def le (k n : Nat) : List Int := (List.range k).map fun i => ((dig n i : Nat) : Int)
/-- The BER length octets of n. -/
def ber (n : Nat) : List Int := if n < 128 then [(n : Int)] else ((128 + lenB n : Nat) : Int) :: be (lenB n) n
/-- What End makes of a buffer whose innermost open field starts at s. -/
def endB (xs : List Int) (s : Nat) : List Int := xs.take (s - 1) ++ (ber (xs.length - s) ++ xs.drop s)

theorem lenB_pos (n : Nat) : 1 ≤ lenB n ∧ lenB n ≤ 3 := by unfold lenB; split <;> (try split) <;> omega
theorem be_length (k n : Nat) : (be k n).length = k := by simp [be]
theorem le_length (k n : Nat) : (le k n).length = k := by simp [le]
theorem le_succ (k n : Nat) : le (k + 1) n = le k n ++ [((dig n k : Nat) : Int)] := by simp [le, List.range_succ]
theorem dig_lt (n i : Nat) : dig n i < 256 := Nat.mod_lt _ (by decide)
theorem ber_long {n : Nat} (h : 128 ≤ n) : ber n = ((128 + lenB n : Nat) : Int) :: be (lenB n) n := by unfold ber; rw [if_neg (by omega)]
theorem ber_short {n : Nat} (h : n < 128) : ber n = [(n : Int)] := by unfold ber; rw [if_pos h]
theorem ber_length (n : Nat) : 1 ≤ (ber n).length ∧ (ber n).length ≤ 4 := by
  unfold ber
  split
  · simp
  · have := lenB_pos n
    simp [be_length]; omega
theorem ber_range (n : Nat) : ∀ x ∈ ber n, 0 ≤ x ∧ x ≤ 255 := by
  intro x hx
  unfold ber at hx
  split at hx
  · simp at hx; omega
  · have := lenB_pos n
    rcases List.mem_cons.1 hx with rfl | hx
    · omega
    · simp only [be, List.mem_map, List.mem_range] at hx
      obtain ⟨i, _, rfl⟩ := hx
      have := dig_lt n (lenB n - 1 - i)
      omega
theorem endB_length (xs : List Int) (s : Nat) (h1 : 1 ≤ s) (h2 : s ≤ xs.length) : (endB xs s).length + 1 = xs.length + (ber (xs.length - s)).length := by
  simp [endB]; omega
/-- Rounds of division: what is left behind j rounds, and when nothing is. -/
theorem div_pow (n j : Nat) : n / 256 ^ j / 256 = n / 256 ^ (j + 1) := by rw [Nat.div_div_eq_div_mul, Nat.pow_succ]
theorem left_pos {n j : Nat} (h : 0 < n) (hj : j < lenB n) : 0 < n / 256 ^ j := by
  have : j = 0 ∨ j = 1 ∨ j = 2 := by have := lenB_pos n; omega
  unfold lenB at hj
  rcases this with rfl | rfl | rfl
  · simpa using h
  · simp; split at hj
    · omega
    · omega
  · simp; split at hj
    · omega
    · split at hj <;> omega
theorem left_zero {n : Nat} (h : n < 16777216) : n / 256 ^ lenB n = 0 := by
  unfold lenB
  split
  · simp; omega
  · split
    · simp; omega
    · simp; omega
theorem be_succ_take (k n j : Nat) (h : j < k) : (be k n).take (j + 1) = (be k n).take j ++ [((dig n (k - 1 - j) : Nat) : Int)] := by
  rw [List.take_succ_eq_append_getElem (by rw [be_length]; exact h)]
  simp [be]
theorem be_take_all (k n : Nat) : (be k n).take k = be k n := List.take_of_length_le (by rw [be_length]; exact Nat.le_refl _)

theorem set_mid {α : Type} (A : List α) (x y : α) (B : List α) (i : Nat) (h : A.length = i) : (A ++ x :: B).set i y = A ++ y :: B := by
  subst h
  simp
end Go.Proofs.Qxb6634840a
