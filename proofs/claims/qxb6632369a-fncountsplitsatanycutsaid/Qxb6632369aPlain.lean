/-
  THE PLAIN LAWS: the sum modulo 2^64: what one bucket gains the sum gains; the sum splits at a cut.
-/
import Derived.Test.Qxb6632369aLeaves
namespace Go.Proofs.Qxb6632369a

theorem wrap_u (x : Int) : IntKind.u64.wrap x = x % 18446744073709551616 := by simp [IntKind.wrap_u64]

/-- The sum of the first k numbers. -/
def tot (V : Nat → Int) : Nat → Int
  | 0 => 0
  | k + 1 => tot V k + V k

theorem su_tot (V : Nat → Int) (n : Nat) : su V n = tot V n % 18446744073709551616 := by
  induction n with
  | zero => rfl
  | succ k ih => simp only [su, tot, wrap_u, ih]; omega

theorem tot_shift (V : Nat → Int) (m n : Nat) : tot V (m + n) = tot V m + tot (fun i => V (m + i)) n := by
  induction n with
  | zero => simp [tot]
  | succ k ih => rw [← Nat.add_assoc]; simp only [tot, ih]; omega

/-- V with the number at j raised by d (modulo 2^64). -/
def upd (V : Nat → Int) (j : Nat) (d : Int) : Nat → Int := fun i => if i = j then IntKind.u64.wrap (V j + d) else V i

theorem tot_upd (V : Nat → Int) (j : Nat) (d : Int) (n : Nat) : tot (upd V j d) n % 18446744073709551616 = (if j < n then tot V n + d else tot V n) % 18446744073709551616 := by
  induction n with
  | zero => simp [tot]
  | succ k ih =>
    simp only [tot]
    by_cases h1 : j < k
    · have e : upd V j d k = V k := by unfold upd; rw [if_neg (by omega)]
      rw [if_pos h1] at ih
      rw [if_pos (by omega), e]
      omega
    · rw [if_neg h1] at ih
      by_cases h2 : k = j
      · subst h2
        have e : upd V k d k = (V k + d) % 18446744073709551616 := by unfold upd; rw [if_pos rfl, wrap_u]
        rw [if_pos (by omega), e]
        omega
      · have e : upd V j d k = V k := by unfold upd; rw [if_neg h2]
        rw [if_neg (by omega), e]
        omega

theorem rises (V : Nat → Int) (j : Nat) (d : Int) (n : Nat) (h : j < n) : su (upd V j d) n = IntKind.u64.wrap (su V n + d) := by
  rw [su_tot, su_tot, wrap_u, tot_upd, if_pos h]
  omega

theorem splits (V : Nat → Int) (k m : Nat) : su V (k + m) = IntKind.u64.wrap (su V k + su (fun i => V (k + i)) m) := by
  rw [su_tot, su_tot, su_tot, wrap_u, tot_shift]
  omega
end Go.Proofs.Qxb6632369a
