/-
  THE LEAVES' CONTRACTS: zzBytes_.., zzCloneBytes, zzCloneInts, ZZNewEncoder, ZZEncoderBuf, ZZEncoderOpen, lengthBytes, zzOpenReachable.
-/
import Derived.Test.Qxb6634840aProg
import Derived.Test.Qxb6634840aPlain
import Derived.WalkKit
import Derived.WalkSpells
import Derived.WalkLawsBesides
import Derived.Deep.OwnRows
import Derived.Deep.QuietTactic
import Derived.BigQuiet
namespace Go.Proofs.Qxb6634840a
open Go.RowKit

theorem Try.info5 : (Try.prog.info? 5).map (fun i => (i.zero, i.size, i.bytes)) = some (some (.int .u8 0), 1, 1) := by kernel_rfl
theorem Try.info3 : (Try.prog.info? 3).map (fun i => (i.zero, i.size, i.bytes)) = some (some (.int .i64 0), 1, 8) := by kernel_rfl

theorem ret_bool {a b : Bool} (h : a = b) : Ending.returned (.bool a) = .returned (.bool b) := by rw [h]
theorem ret_int {k : IntKind} {a b : Int} (h : a = b) : Ending.returned (.int k a) = .returned (.int k b) := by rw [h]

set_option maxHeartbeats 400000 in
theorem bytes5 (a0 a1 : Option Addr) (l0 c0 l1 c1 : Nat) (w : World) (h0 : l0 ≤ maxLen) (h1 : l1 ≤ maxLen) :
    Calls Try.prog 5 #[.slice a0 l0 c0, .slice a1 l1 c1] w fun e w' => ∃ b, e = .returned (.bool b) ∧ w = w' := by
  unfold maxLen at h0 h1
  go_enter Try.func5, Try.ntmps5
  go_wp2
  all_goals (go_ret; exact ⟨_, rfl, rfl⟩)

set_option maxHeartbeats 400000 in
theorem bytes14 (a0 a1 : Option Addr) (l0 c0 l1 c1 : Nat) (w : World) (h0 : l0 ≤ maxLen) (h1 : l1 ≤ maxLen) :
    Calls Try.prog 14 #[.slice a0 l0 c0, .slice a1 l1 c1] w fun e w' => ∃ b, e = .returned (.bool b) ∧ w = w' := by
  unfold maxLen at h0 h1
  go_enter Try.func14, Try.ntmps14
  go_wp2
  all_goals (go_ret; exact ⟨_, rfl, rfl⟩)

/-- k of n cells copied, the rest still z. -/
def Cp (z : Value) (V : Nat → Value) (n k : Nat) : Array Value := Array.ofFn (n := n) fun i => if i.val < k then V i.val else z

theorem Cp_zero (z : Value) (V : Nat → Value) (n : Nat) : Cp z V n 0 = madeCells #[z] n := by
  apply Array.ext
  · simp [Cp, size_madeCells]
  · intro i h1 h2
    simp [Cp, madeCells, Nat.mod_one]

theorem Cp_step (z : Value) (V : Nat → Value) (n k : Nat) : (Cp z V n k).setIfInBounds k (V k) = Cp z V n (k + 1) := by
  apply Array.ext_getElem?
  intro i
  rw [Array.getElem?_setIfInBounds]
  by_cases e : k = i
  · subst e
    by_cases h : k < n <;> simp [Cp, h]
  · rw [if_neg e]
    by_cases h : i < n
    · by_cases h' : i < k
      · simp [Cp, h, h', show i < k + 1 by omega]
      · simp [Cp, h, h', show ¬ i < k + 1 by omega]
    · simp [Cp, h]

theorem Cp_size (z : Value) (V : Nat → Value) (n k : Nat) : (Cp z V n k).size = n := by simp [Cp]
theorem Cp_get (z : Value) (V : Nat → Value) (n k i : Nat) (h : i < n) : (Cp z V n k)[i]? = some (if i < k then V i else z) := by
  simp [Cp, h]
/-- A clone's cells as a list. -/
theorem Cp_list (z : Value) (V : Nat → Value) (n : Nat) : (Cp z V n n).toList = (List.range n).map V := by
  apply List.ext_getElem?
  intro i
  by_cases h : i < n
  · simp [Cp, h]
  · simp [Cp, h]

set_option maxHeartbeats 400000 in
/-- zzCloneBytes, of a slice that is not empty. -/
theorem cloneB (b o n c : Nat) (V : Nat → Int) (w : World) (hn : n ≤ 1048576) (hn0 : 0 < n)
    (hc : ∀ i, i < n → w.cell? ⟨b, o + i, none⟩ = some (.int .u8 (V i))) :
    Calls Try.prog 7 #[.slice (some ⟨b, o, none⟩) n c] w fun e w' => e = .returned (.slice (some ⟨w.heap.size, 0, none⟩) n n) ∧
      w' = w.alloc (.cells (Cp (.int .u8 0) (fun i => .int .u8 (V i)) n n) 5) := by
  have hb : b < w.heap.size := World.block_lt_of_cell? _ _ (hc 0 hn0)
  have hmk := run_make_row' (P := Try.prog) 22 5 (.int .u8 0) 1 Try.underlying22 Try.info5 rfl .i64 .i64 n (by omega) (by omega)
  have hnil := fun w => Lib.run_eql_slice_nil (P := Try.prog) w 22 5 (some ⟨b, o, none⟩) n c 0 0 Try.underlying22
  go_enter Try.func7, Try.ntmps7
  go_wp2
  rw [← Cp_zero (.int .u8 0) (fun i => .int .u8 (V i)) n]
  clear hmk hnil
  go_loopw [4] (fun i wr => ∃ k : Nat, k ≤ n ∧ i = .int .i64 k ∧ wr = w.alloc (.cells (Cp (.int .u8 0) (fun i => .int .u8 (V i)) n k) 5)) (fun i _ => n - (intOf i).toNat)
  case atStart => exact ⟨0, Nat.zero_le _, rfl, rfl⟩
  case round =>
    obtain ⟨k, hk, rfl, rfl⟩ := hrel
    by_cases hlt : k < n
    · have g1 : (w.alloc (.cells (Cp (.int .u8 0) (fun i => .int .u8 (V i)) n k) 5)).cell? ⟨b, o + k, none⟩ = some (.int .u8 (V k)) := by
        rw [World.cell?_alloc_past _ _ _ hb]; exact hc k hlt
      have g2 : (Cp (.int .u8 0) (fun i => .int .u8 (V i)) n k)[k]? = some (.int .u8 0) := by rw [Cp_get _ _ _ _ _ hlt]; simp
      clear hc
      go_wp2
      go_roundw
      case rel => exact ⟨k + 1, by omega, by go_num, by rw [← Cp_step]⟩
      case measure => simp [intOf]; omega
    · clear hc
      go_wp2
      go_ret
      have e : k = n := by omega
      subst e
      exact ⟨rfl, rfl⟩

set_option maxHeartbeats 400000 in
/-- zzCloneInts, of a slice that is not empty. -/
theorem cloneI (b o n c : Nat) (V : Nat → Int) (w : World) (hn : n ≤ 131072) (hn0 : 0 < n)
    (hc : ∀ i, i < n → w.cell? ⟨b, o + i, none⟩ = some (.int .i64 (V i))) :
    Calls Try.prog 8 #[.slice (some ⟨b, o, none⟩) n c] w fun e w' => e = .returned (.slice (some ⟨w.heap.size, 0, none⟩) n n) ∧
      w' = w.alloc (.cells (Cp (.int .i64 0) (fun i => .int .i64 (V i)) n n) 3) := by
  have hb : b < w.heap.size := World.block_lt_of_cell? _ _ (hc 0 hn0)
  have hmk := run_make_row' (P := Try.prog) 23 3 (.int .i64 0) 8 Try.underlying23 Try.info3 rfl .i64 .i64 n (by omega) (by omega)
  have hnil := fun w => Lib.run_eql_slice_nil (P := Try.prog) w 23 3 (some ⟨b, o, none⟩) n c 0 0 Try.underlying23
  go_enter Try.func8, Try.ntmps8
  go_wp2
  rw [← Cp_zero (.int .i64 0) (fun i => .int .i64 (V i)) n]
  clear hmk hnil
  go_loopw [4] (fun i wr => ∃ k : Nat, k ≤ n ∧ i = .int .i64 k ∧ wr = w.alloc (.cells (Cp (.int .i64 0) (fun i => .int .i64 (V i)) n k) 3)) (fun i _ => n - (intOf i).toNat)
  case atStart => exact ⟨0, Nat.zero_le _, rfl, rfl⟩
  case round =>
    obtain ⟨k, hk, rfl, rfl⟩ := hrel
    by_cases hlt : k < n
    · have g1 : (w.alloc (.cells (Cp (.int .i64 0) (fun i => .int .i64 (V i)) n k) 3)).cell? ⟨b, o + k, none⟩ = some (.int .i64 (V k)) := by
        rw [World.cell?_alloc_past _ _ _ hb]; exact hc k hlt
      have g2 : (Cp (.int .i64 0) (fun i => .int .i64 (V i)) n k)[k]? = some (.int .i64 0) := by rw [Cp_get _ _ _ _ _ hlt]; simp
      clear hc
      go_wp2
      go_roundw
      case rel => exact ⟨k + 1, by omega, by go_num, by rw [← Cp_step]⟩
      case measure => simp [intOf]; omega
    · clear hc
      go_wp2
      go_ret
      have e : k = n := by omega
      subst e
      exact ⟨rfl, rfl⟩

set_option maxHeartbeats 400000 in
theorem newEnc (a0 a1 : Option Addr) (l0 c0 l1 c1 : Nat) (w : World) :
    Calls Try.prog 10 #[.slice a0 l0 c0, .slice a1 l1 c1] w fun e w' => e = .returned (.pointer (some ⟨w.heap.size, 0, none⟩)) ∧
      w' = w.alloc (.cells #[.slice a0 l0 c0, .slice a1 l1 c1] 35) := by
  go_enter Try.func10, Try.ntmps10
  go_wp2
  go_ret
  exact ⟨rfl, rfl⟩

set_option maxHeartbeats 400000 in
theorem encBuf (E : Nat) (v : Value) (w : World) (h : w.cell? ⟨E, 0, none⟩ = some v) :
    Calls Try.prog 12 #[.pointer (some ⟨E, 0, none⟩)] w fun e w' => e = .returned v ∧ w = w' := by
  go_enter Try.func12, Try.ntmps12
  go_wp2
  go_ret
  exact ⟨rfl, rfl⟩

set_option maxHeartbeats 400000 in
theorem encOpen (E : Nat) (v : Value) (w : World) (h : w.cell? ⟨E, 1, none⟩ = some v) :
    Calls Try.prog 13 #[.pointer (some ⟨E, 0, none⟩)] w fun e w' => e = .returned v ∧ w = w' := by
  go_enter Try.func13, Try.ntmps13
  go_wp2
  go_ret
  exact ⟨rfl, rfl⟩

set_option maxHeartbeats 400000 in
theorem lengthBytes (n : Nat) (w : World) (hn : n < 16777216) :
    Calls Try.prog 16 #[.int .i64 n] w fun e w' => e = .returned (.int .i64 (lenB n : Nat)) ∧ w = w' := by
  by_cases h1 : n < 256
  · have e : lenB n = 1 := by unfold lenB; rw [if_pos h1]
    go_enter Try.func16, Try.ntmps16
    go_wp2
    refine wp_loop_rounds 1 ?_
    rw [rounds_succ]
    go_wp2
    go_ret
    exact ⟨ret_int (by rw [e]; rfl), rfl⟩
  · by_cases h2 : n < 65536
    · have e : lenB n = 2 := by unfold lenB; rw [if_neg h1, if_pos h2]
      go_enter Try.func16, Try.ntmps16
      go_wp2
      refine wp_loop_rounds 2 ?_
      rw [rounds_succ]
      go_wp2
      rw [rounds_succ]
      go_wp2
      go_ret
      exact ⟨ret_int (by rw [e]; rfl), rfl⟩
    · have e : lenB n = 3 := by unfold lenB; rw [if_neg h1, if_neg h2]
      go_enter Try.func16, Try.ntmps16
      go_wp2
      refine wp_loop_rounds 3 ?_
      rw [rounds_succ]
      go_wp2
      rw [rounds_succ]
      go_wp2
      rw [rounds_succ]
      go_wp2
      go_ret
      exact ⟨ret_int (by rw [e]; rfl), rfl⟩

/-- What zzOpenReachable has seen of the first k offsets. -/
def Rch (O : Nat → Int) (l k : Nat) : Prop := ∀ i, i < k → 1 ≤ O i ∧ O i ≤ l ∧ (0 < i → O (i - 1) < O i)

theorem Rch_step {O : Nat → Int} {l k : Nat} (h : Rch O l k) (h1 : 1 ≤ O k) (h2 : O k ≤ l) (h3 : 0 < k → O (k - 1) < O k) : Rch O l (k + 1) := by
  intro i hi
  by_cases e : i = k
  · subst e; exact ⟨h1, h2, h3⟩
  · exact h i (by omega)

/-- zzOpenReachable's end: some bool; where it is true the offsets are in order. -/
def Reached (O : Nat → Int) (l n : Nat) (w : World) (e : Ending) (w' : World) : Prop := ∃ (r : Bool) (q : Nat), e = .returned (.bool r) ∧ w' = w.drewN q ∧ (r = true → Rch O l n)

theorem Reached.no {O : Nat → Int} {l n : Nat} {w : World} {q : Nat} : Reached O l n w (.returned (.bool false)) (w.drewN q) := ⟨false, q, rfl, rfl, fun h => by cases h⟩
theorem Reached.no2 {O : Nat → Int} {l n : Nat} {w : World} {q q' : Nat} : Reached O l n w (.returned (.bool false)) ((w.drewN q).drewN q') := ⟨false, q + q', rfl, World.drewN_drewN _ _ _, fun h => by cases h⟩
theorem Reached.yes {O : Nat → Int} {l n : Nat} {w : World} {q : Nat} (h : Rch O l n) : Reached O l n w (.returned (.bool true)) (w.drewN q) := ⟨true, q, rfl, rfl, fun _ => h⟩

set_option maxHeartbeats 1000000 in
theorem reachable (a0 : Option Addr) (l0 c0 b o n c : Nat) (O : Nat → Int) (w : World) (_h0 : l0 ≤ 1048576) (hn : n ≤ 131072) (hn0 : 0 < n)
    (hc : ∀ i, i < n → w.cell? ⟨b, o + i, none⟩ = some (.int .i64 (O i))) :
    Calls Try.prog 6 #[.slice a0 l0 c0, .slice (some ⟨b, o, none⟩) n c] w fun e w' => Reached O l0 n w e w' := by
  have HC : Hid (∀ i, i < n → w.cell? ⟨b, o + i, none⟩ = some (.int .i64 (O i))) := hc
  clear hc
  have hz : ((n : Int) == 0) = false := by simp; omega
  go_enter Try.func6, Try.ntmps6
  go_wp2
  go_loopw [5] (fun i wr => ∃ k q : Nat, k ≤ n ∧ i = .int .i64 k ∧ wr = w.drewN q ∧ Hid (Rch O l0 k)) (fun i _ => n - (intOf i).toNat)
  case atStart => exact ⟨0, 0, Nat.zero_le _, rfl, rfl, fun i hi => absurd hi (Nat.not_lt_zero _)⟩
  case round =>
    obtain ⟨k, q, hk, rfl, rfl, HR⟩ := hrel
    by_cases hlt : k < n
    · have g1 := HC.out k hlt
      have i1 : (0 : Int) ≤ (k : Int) := by omega
      have i2 : (k : Int) < (n : Int) := by omega
      by_cases h1 : O k < 1
      · go_wp2
        go_ret
        exact Reached.no
      · by_cases h2 : (l0 : Int) < O k
        · go_wp2
          go_ret
          exact Reached.no
        · by_cases hk0 : k = 0
          · have hd : decide (0 < k) = false := by simp; omega
            have HR1 : Hid (Rch O l0 (k + 1)) := Rch_step HR.out (by omega) (by omega) (by omega)
            clear hk0
            go_wp2_with fail
            go_quiet (fail)
            go_wp2
            go_roundw
            case rel => exact ⟨k + 1, q + nq, by omega, by go_num, rfl, HR1⟩
            case measure => simp [intOf]; omega
          · have g2 : w.cell? ⟨b, o + (k - 1), none⟩ = some (.int .i64 (O (k - 1))) := HC.out (k - 1) (by omega)
            have hd : decide (0 < k) = true := by simp; omega
            have i4 : (0 : Int) ≤ (k : Int) - 1 := by omega
            have i5 : (k : Int) - 1 < (n : Int) := by omega
            by_cases h3 : O k ≤ O (k - 1)
            · go_wp2_with fail
              go_quiet (fail)
              go_wp2
              go_ret
              exact Reached.no2
            · have HR1 : Hid (Rch O l0 (k + 1)) := Rch_step HR.out (by omega) (by omega) (by omega)
              go_wp2_with fail
              go_quiet (fail)
              go_wp2
              go_roundw
              case rel => exact ⟨k + 1, q + nq, by omega, by go_num, rfl, HR1⟩
              case measure => simp [intOf]; omega
    · go_wp2
      go_ret
      have e : k = n := by omega
      subst e
      exact Reached.yes HR.out
end Go.Proofs.Qxb6634840a
