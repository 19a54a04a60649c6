/-
  THE PLAIN LAWS of nested fields: no Go in sight.
-/
import Derived.Test.Qxb6634840aPlain
namespace Go.Proofs.Qxb6634840a

/-- Where, in the old buffer, the k innermost fields (of M) begin: at the placeholder of the outermost of them; for none, at the end. -/
def bk (L : Nat) (S : Nat → Nat) (M : Nat) : Nat → Nat
  | 0 => L
  | k + 1 => S (M - (k + 1)) - 1
/-- The k innermost fields, ended. -/
def Gk (xs : List Int) (S : Nat → Nat) (M : Nat) : Nat → List Int
  | 0 => []
  | k + 1 => ber ((xs.take (bk xs.length S M k)).drop (S (M - (k + 1))) ++ Gk xs S M k).length ++ ((xs.take (bk xs.length S M k)).drop (S (M - (k + 1))) ++ Gk xs S M k)
/-- The buffer behind k Ends. -/
def Fk (xs : List Int) (S : Nat → Nat) (M k : Nat) : List Int := xs.take (bk xs.length S M k) ++ Gk xs S M k

/-- The offsets are in order. -/
def Ord (S : Nat → Nat) (L M : Nat) : Prop := ∀ i, i < M → 1 ≤ S i ∧ S i ≤ L ∧ (0 < i → S (i - 1) < S i)

theorem bk_le {S : Nat → Nat} {L M : Nat} (h : Ord S L M) (k : Nat) (hk : k ≤ M) : bk L S M k ≤ L := by
  cases k with
  | zero => exact Nat.le_refl _
  | succ k =>
    have := (h (M - (k + 1)) (by omega)).2.1
    show S (M - (k + 1)) - 1 ≤ L
    omega
theorem S_le_bk {S : Nat → Nat} {L M : Nat} (h : Ord S L M) (k : Nat) (hk : k < M) : S (M - (k + 1)) ≤ bk L S M k := by
  cases k with
  | zero => exact (h (M - 1) (by omega)).2.1
  | succ k =>
    show _ ≤ S (M - (k + 1)) - 1
    have := (h (M - (k + 1)) (by omega)).2.2 (by omega)
    rw [show M - (k + 1) - 1 = M - (k + 1 + 1) by omega] at this
    omega

theorem Fk_zero (xs : List Int) (S : Nat → Nat) (M : Nat) : Fk xs S M 0 = xs := by simp [Fk, bk, Gk]

theorem Fk_succ {xs : List Int} {S : Nat → Nat} {M : Nat} (h : Ord S xs.length M) (k : Nat) (hk : k < M) : endB (Fk xs S M k) (S (M - (k + 1))) = Fk xs S M (k + 1) := by
  have h1 := (h (M - (k + 1)) (by omega)).1
  have h2 := S_le_bk h k hk
  have h3 := bk_le h k (by omega)
  have hl : (xs.take (bk xs.length S M k)).length = bk xs.length S M k := by rw [List.length_take]; omega
  have e1 : (Fk xs S M k).take (S (M - (k + 1)) - 1) = xs.take (S (M - (k + 1)) - 1) := by
    unfold Fk
    rw [List.take_append_of_le_length (by omega), List.take_take, Nat.min_eq_left (by omega)]
  have e2 : (Fk xs S M k).drop (S (M - (k + 1))) = (xs.take (bk xs.length S M k)).drop (S (M - (k + 1))) ++ Gk xs S M k := by
    unfold Fk
    rw [List.drop_append_of_le_length (by omega)]
  have e3 : (Fk xs S M k).length - S (M - (k + 1)) = ((xs.take (bk xs.length S M k)).drop (S (M - (k + 1))) ++ Gk xs S M k).length := by
    rw [← e2, List.length_drop]
  unfold endB
  rw [e1, e2, e3]
  rfl

theorem S_le_Fk {xs : List Int} {S : Nat → Nat} {M : Nat} (h : Ord S xs.length M) (k : Nat) (hk : k < M) : S (M - (k + 1)) ≤ (Fk xs S M k).length := by
  have h2 := S_le_bk h k hk
  have h3 := bk_le h k (by omega)
  unfold Fk
  rw [List.length_append, List.length_take]
  omega

theorem Fk_len {xs : List Int} {S : Nat → Nat} {M : Nat} (h : Ord S xs.length M) : ∀ k, k ≤ M → (Fk xs S M k).length ≤ xs.length + 3 * k
  | 0, _ => by rw [Fk_zero]; exact Nat.le_refl _
  | k + 1, hk => by
    have ih := Fk_len h k (by omega)
    have h1 := (h (M - (k + 1)) (by omega)).1
    have h2 := S_le_Fk h k (by omega)
    have h3 := endB_length (Fk xs S M k) (S (M - (k + 1))) h1 h2
    rw [Fk_succ h k (by omega)] at h3
    have h4 := ber_length ((Fk xs S M k).length - S (M - (k + 1)))
    omega

/-- The content of the outermost of the k + 1 innermost fields. -/
def Ck (xs : List Int) (S : Nat → Nat) (M k : Nat) : List Int := (xs.take (bk xs.length S M k)).drop (S (M - (k + 1))) ++ Gk xs S M k
theorem Gk_succ (xs : List Int) (S : Nat → Nat) (M k : Nat) : Gk xs S M (k + 1) = ber (Ck xs S M k).length ++ Ck xs S M k := rfl

theorem Gk_len_le {xs : List Int} {S : Nat → Nat} {M : Nat} (h : Ord S xs.length M) (k : Nat) (hk : k ≤ M) : (Gk xs S M k).length ≤ xs.length + 3 * k := by
  have := Fk_len h k hk
  unfold Fk at this
  rw [List.length_append] at this
  omega

/-- What stands at place p, p + 1, .. of a list whose rest from p on is A ++ B. -/
theorem at_drop {F A B : List Int} {p i : Nat} (h : F.drop p = A ++ B) (hi : i < A.length) : F.getD (p + i) 0 = A.getD i 0 := by
  have : (F.drop p)[i]? = (A ++ B)[i]? := by rw [h]
  rw [List.getElem?_drop, List.getElem?_append_left hi] at this
  simp [List.getD, this]
theorem drop_more {F A B : List Int} {p n : Nat} (h : F.drop p = A ++ B) (hn : A.length = n) : F.drop (p + n) = B := by
  rw [← List.drop_drop, h, ← hn, List.drop_left]
theorem drop_len {F A B : List Int} {p : Nat} (h : F.drop p = A ++ B) (hp : p ≤ F.length) : p + (A.length + B.length) = F.length := by
  have := congrArg List.length h
  rw [List.length_drop, List.length_append] at this
  omega

/-- The old bytes of a segment. -/
theorem seg_get {xs : List Int} {b s j : Nat} (hb : b ≤ xs.length) (hj : s + j < b) : ((xs.take b).drop s).getD j 0 = xs.getD (s + j) 0 := by
  have h1 : s + j < xs.length := by omega
  simp [List.getD, List.getElem?_drop, hj, h1]
theorem seg_len {xs : List Int} {b s : Nat} (hb : b ≤ xs.length) : ((xs.take b).drop s).length = b - s := by
  rw [List.length_drop, List.length_take]; omega

/-- Reading digits: one more. -/
theorem read_step (c m : Nat) : c / 256 ^ (m + 1) * 256 + dig c m = c / 256 ^ m := by
  rw [← div_pow]
  unfold dig
  omega
theorem top_pos {c : Nat} (hc : 0 < c) (h : c < 16777216) : 0 < dig c (lenB c - 1) := by
  have h1 := left_pos (n := c) (j := lenB c - 1) hc (by have := lenB_pos c; omega)
  have h2 : c / 256 ^ (lenB c - 1) < 256 := by
    have h3 := left_zero h
    have h4 := lenB_pos c
    have h5 : c / 256 ^ (lenB c - 1) / 256 = 0 := by rw [div_pow, show lenB c - 1 + 1 = lenB c by omega]; exact h3
    omega
  unfold dig
  omega
theorem be_get (k n i : Nat) (h : i < k) : (be k n).getD i 0 = ((dig n (k - 1 - i) : Nat) : Int) := by simp [be, h]
end Go.Proofs.Qxb6634840a
