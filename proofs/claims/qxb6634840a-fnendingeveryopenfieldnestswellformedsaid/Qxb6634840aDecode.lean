/-
  zzDecodeBERLength, where a minimal length stands.
-/
import Derived.Test.Qxb6634840aLeaves
import Derived.Test.Qxb6634840aPlain2
namespace Go.Proofs.Qxb6634840a
open Go.RowKit

set_option maxRecDepth 100000 in
set_option maxHeartbeats 1000000 in
theorem decode_short (g cap N p c : Nat) (w : World) (_hN : N ≤ 4194304) (hp : p < N) (hc : c < 128) (h0 : w.cell? ⟨g, p, none⟩ = some (.int .u8 (c : Int))) :
    Calls Try.prog 15 #[.slice (some ⟨g, 0, none⟩) N cap, .int .i64 p] w fun e w' => e = .returned (.tuple #[.int .i64 1, .int .i64 c, .bool true]) ∧ w = w' := by
  go_enter Try.func15, Try.ntmps15
  go_wp2
  go_ret3
  exact ⟨rfl, rfl⟩

set_option maxRecDepth 100000 in
set_option maxHeartbeats 1000000 in
theorem decode_long (g cap N p c k : Nat) (w : World) (hN : N ≤ 4194304) (hp : p + 1 + k ≤ N) (hc : 128 ≤ c) (hc2 : c < 16777216) (hk : k = lenB c) (h0 : w.cell? ⟨g, p, none⟩ = some (.int .u8 (128 + (k : Int))))
    (h1 : ∀ j, j < k → w.cell? ⟨g, p + 1 + j, none⟩ = some (.int .u8 ((dig c (k - 1 - j) : Nat) : Int))) :
    Calls Try.prog 15 #[.slice (some ⟨g, 0, none⟩) N cap, .int .i64 p] w fun e w' => e = .returned (.tuple #[.int .i64 (1 + (k : Int)), .int .i64 c, .bool true]) ∧ w = w' := by
  have hkb := lenB_pos c
  rw [← hk] at hkb
  have hb : bits .and .u8 (128 + (k : Int)) 127 = (k : Int) := by
    have : k = 1 ∨ k = 2 ∨ k = 3 := by omega
    rcases this with rfl | rfl | rfl <;> decide +kernel
  obtain ⟨d, hd⟩ : ∃ d : Nat, d = dig c (k - 1) := ⟨_, rfl⟩
  have hd0 : 0 < d := by rw [hd, hk]; exact top_pos (by omega) hc2
  have hd1 : d < 256 := by rw [hd]; exact dig_lt _ _
  have hd2 : ((d : Int) == 0) = false := by simp; omega
  have c1 : w.cell? ⟨g, p + 1, none⟩ = some (.int .u8 (d : Int)) := by
    have := h1 0 (by omega)
    rw [hd]; simpa using this
  have H1 : Hid (∀ j, j < k → w.cell? ⟨g, p + 1 + j, none⟩ = some (.int .u8 ((dig c (k - 1 - j) : Nat) : Int))) := h1
  have HK : Hid (k = lenB c) := hk
  clear h1 hk hd
  go_enter Try.func15, Try.ntmps15
  go_wp2
  go_loop [9, 10] (fun l i => ∃ j x : Nat, j ≤ k ∧ x ≤ c ∧ i = .int .i64 j ∧ l = .int .i64 x ∧ Hid (x = c / 256 ^ (k - j))) (fun _ i => k - (intOf i).toNat)
  case atStart => exact ⟨0, 0, Nat.zero_le _, Nat.zero_le _, rfl, rfl, by show 0 = _; rw [HK.out]; exact (left_zero hc2).symm⟩
  case round =>
    obtain ⟨j, x, hj, hx, rfl, rfl, HX⟩ := hrel
    by_cases hjk : j < k
    · obtain ⟨y, hy⟩ : ∃ y : Nat, y = dig c (k - 1 - j) := ⟨_, rfl⟩
      have cy : w.cell? ⟨g, p + 1 + j, none⟩ = some (.int .u8 (y : Int)) := by rw [hy]; exact H1.out j hjk
      have hy1 : y < 256 := by rw [hy]; exact dig_lt _ _
      have HX1 : Hid (x * 256 + y = c / 256 ^ (k - (j + 1))) := by
        show _ = _
        rw [HX.out, hy, ← read_step c (k - (j + 1)), show k - (j + 1) + 1 = k - j by omega, show k - 1 - j = k - (j + 1) by omega]
      have hx1 : x * 256 + y ≤ c := by rw [HX1.out]; exact Nat.div_le_self _ _
      clear hy
      go_wp2
      go_round
      case rel => exact ⟨j + 1, x * 256 + y, by omega, hx1, by go_num, by go_num, HX1⟩
      case measure => simp [intOf]; omega
    · have ej : j = k := by omega
      subst ej
      have ex : x = c := by have := HX.out; simpa using this
      subst ex
      go_wp2
      go_ret3
      exact ⟨rfl, rfl⟩

theorem decode (g cap N p c : Nat) (F : List Int) (w : World) (hN : N ≤ 4194304) (hc2 : c < 16777216) (hcl : ∀ i, i < N → w.cell? ⟨g, i, none⟩ = some (.int .u8 (F.getD i 0)))
    (hat : ∀ i, i < (ber c).length → F.getD (p + i) 0 = (ber c).getD i 0) (hfit : p + (ber c).length ≤ N) :
    Calls Try.prog 15 #[.slice (some ⟨g, 0, none⟩) N cap, .int .i64 p] w fun e w' => e = .returned (.tuple #[.int .i64 ((ber c).length : Nat), .int .i64 c, .bool true]) ∧ w = w' := by
  by_cases h : c < 128
  · have hb : ber c = [(c : Int)] := ber_short h
    rw [hb] at hat hfit ⊢
    simp only [List.length_cons, List.length_nil] at hat hfit ⊢
    have h0 := hcl p (by omega)
    rw [show F.getD p 0 = (c : Int) from hat 0 (by omega)] at h0
    exact decode_short g cap N p c w hN (by omega) h h0
  · have hb : ber c = ((128 + lenB c : Nat) : Int) :: be (lenB c) c := ber_long (by omega)
    have hl : (ber c).length = lenB c + 1 := by rw [hb, List.length_cons, be_length]
    have hk := lenB_pos c
    rw [hl] at hat hfit
    have h0 := hcl p (by omega)
    have e0 : F.getD p 0 = 128 + ((lenB c : Nat) : Int) := by
      have := hat 0 (by omega)
      rw [hb] at this
      simpa using this
    rw [e0] at h0
    have h1 : ∀ j, j < lenB c → w.cell? ⟨g, p + 1 + j, none⟩ = some (.int .u8 ((dig c (lenB c - 1 - j) : Nat) : Int)) := by
      intro j hj
      rw [hcl (p + 1 + j) (by omega)]
      have := hat (j + 1) (by omega)
      rw [show p + (j + 1) = p + 1 + j by omega, hb] at this
      rw [this, List.getD_cons_succ, be_get _ _ _ hj]
    rw [hl, show ((lenB c + 1 : Nat) : Int) = 1 + ((lenB c : Nat) : Int) by omega]
    exact decode_long g cap N p c (lenB c) w hN (by omega) (by omega) hc2 rfl h0 h1
end Go.Proofs.Qxb6634840a
