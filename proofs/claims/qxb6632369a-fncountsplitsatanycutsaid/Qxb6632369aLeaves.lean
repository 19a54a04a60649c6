/-
  THE LEAVES' CONTRACTS: zzBytes_.., zzAscending, zzCloneF, zzCloneU, ZZnewHistogram, (*Histogram).Count.
-/
import Derived.Test.Qxb6632369aLocks
import Derived.Conc.MuLone
import Derived.WalkKit
import Derived.WalkSpells
import Derived.WalkLawsBesides
import Derived.Deep.OwnRows
import Derived.Deep.QuietTactic
import Derived.BigQuiet
namespace Go.Proofs.Qxb6632369a
open Go.RowKit Go.MuLone

/-- A store of a float: as of any value of one cell. -/
theorem run_store_float (P : Program) (w : World) (a : Addr) (m : Mode) (k : FloatKind) (n : Nat) : (store a (.float k n) m).run P w = stored P w a (.float k n) m := run_store P w a _ m rfl
attribute [local go_sem] run_store_float

theorem Try.info24 : (Try.prog.info? 24).map (fun i => (i.zero, i.size, i.bytes)) = some (some (.float .f64 0), 1, 8) := by kernel_rfl
theorem Try.info25 : (Try.prog.info? 25).map (fun i => (i.zero, i.size, i.bytes)) = some (some (.int .u64 0), 1, 8) := by kernel_rfl

set_option maxHeartbeats 400000 in
/-- zzBytes of the first law: it answers a bool and turns nothing. -/
theorem bytes5 (a0 a1 : Option Addr) (l0 c0 l1 c1 : Nat) (s : Nat) (i d : Int) (w : World) (h0 : l0 ≤ maxLen) (h1 : l1 ≤ maxLen) :
    Calls Try.prog 5 #[.slice a0 l0 c0, .slice a1 l1 c1, .float .f64 s, .int .i64 i, .int .u64 d] w fun e w' => ∃ b, e = .returned (.bool b) ∧ w = w' := by
  unfold maxLen at h0 h1
  go_enter Try.func5, Try.ntmps5
  go_wp2
  all_goals (go_ret; exact ⟨_, rfl, rfl⟩)

set_option maxHeartbeats 400000 in
theorem bytes11 (a0 a1 : Option Addr) (l0 c0 l1 c1 : Nat) (s : Nat) (i : Int) (w : World) (h0 : l0 ≤ maxLen) (h1 : l1 ≤ maxLen) :
    Calls Try.prog 11 #[.slice a0 l0 c0, .slice a1 l1 c1, .float .f64 s, .int .i64 i] w fun e w' => ∃ b, e = .returned (.bool b) ∧ w = w' := by
  unfold maxLen at h0 h1
  go_enter Try.func11, Try.ntmps11
  go_wp2
  all_goals (go_ret; exact ⟨_, rfl, rfl⟩)

set_option maxHeartbeats 400000 in
/-- ZZnewHistogram: a new block of five cells. -/
theorem newHist (s : Nat) (a0 a1 : Option Addr) (l0 c0 l1 c1 : Nat) (w : World) :
    Calls Try.prog 9 #[.slice a0 l0 c0, .slice a1 l1 c1, .float .f64 s] w fun e w' => e = .returned (.pointer (some ⟨w.heap.size, 0, none⟩)) ∧
      w' = w.alloc (.cells #[.slice a0 l0 c0, .int .i32 0, .int .u32 0, .slice a1 l1 c1, .float .f64 s] 42) := by
  go_enter Try.func9, Try.ntmps9
  go_wp2
  go_ret
  exact ⟨rfl, rfl⟩

set_option maxHeartbeats 400000 in
/-- zzAscending answers some bool; it only reads. -/
theorem ascending (a : Option Addr) (n c : Nat) (V : Nat → Nat) (w : World) (hn : n ≤ 65536)
    (hc : n = 0 ∨ ∃ b o, a = some ⟨b, o, none⟩ ∧ ∀ i, i < n → w.cell? ⟨b, o + i, none⟩ = some (.float .f64 (V i))) :
    Calls Try.prog 6 #[.slice a n c] w fun e w' => ∃ (r : Bool) (q : Nat), e = .returned (.bool r) ∧ w' = w.drewN q := by
  rcases hc with rfl | ⟨b, o, rfl, hc⟩
  · go_enter Try.func6, Try.ntmps6
    go_wp2
    refine wp_loop_rounds 1 ?_
    rw [rounds_succ]
    go_wp2
    go_ret
    exact ⟨_, 0, rfl, rfl⟩
  · go_enter Try.func6, Try.ntmps6
    go_wp2
    go_loopw [3] (fun i wr => ∃ k q : Nat, k ≤ n ∧ i = .int .i64 k ∧ wr = w.drewN q) (fun i _ => n - (intOf i).toNat)
    case atStart => exact ⟨0, 0, Nat.zero_le _, rfl, rfl⟩
    case round =>
      obtain ⟨k, q, hk, rfl, rfl⟩ := hrel
      by_cases hlt : k + 1 < n
      · have g1 := hc k (by omega)
        have g2 := hc (k + 1) hlt
        clear hc
        have i1 : (0 : Int) ≤ (k : Int) := by omega
        have i2 : (k : Int) < (n : Int) := by omega
        have i3 : (k : Int) + 1 < (n : Int) := by omega
        go_wp2
        go_quiet (fail)
        go_wp2
        · go_ret
          exact ⟨_, q + nq, rfl, World.drewN_drewN _ _ _⟩
        · go_roundw
          case rel => exact ⟨k + 1, q + nq, by omega, by go_num, rfl⟩
          case measure => simp [intOf]; omega
      · clear hc
        go_wp2
        go_ret
        exact ⟨_, _, rfl, rfl⟩

/-- k of n cells copied, the rest still z. -/
def Cp (z : Value) (V : Nat → Value) (n k : Nat) : Array Value := Array.ofFn (n := n) fun i => if i.val < k then V i.val else z

theorem Cp_zero (z : Value) (V : Nat → Value) (n : Nat) : Cp z V n 0 = madeCells #[z] n := by
  apply Array.ext
  · simp [Cp, size_madeCells]
  · intro i h1 h2
    simp [Cp, madeCells, Nat.mod_one]

theorem Cp_step (z : Value) (V : Nat → Value) (n k : Nat) : (Cp z V n k).setIfInBounds k (V k) = Cp z V n (k + 1) := by
  apply Array.ext_getElem?
  intro i
  rw [Array.getElem?_setIfInBounds]
  by_cases e : k = i
  · subst e
    by_cases h : k < n <;> simp [Cp, h]
  · rw [if_neg e]
    by_cases h : i < n
    · by_cases h' : i < k
      · simp [Cp, h, h', show i < k + 1 by omega]
      · simp [Cp, h, h', show ¬ i < k + 1 by omega]
    · simp [Cp, h]

theorem Cp_size (z : Value) (V : Nat → Value) (n k : Nat) : (Cp z V n k).size = n := by simp [Cp]

theorem Cp_get (z : Value) (V : Nat → Value) (n i : Nat) (h : i < n) : (Cp z V n n)[i]? = some (V i) := by
  simp [Cp, h]

theorem Cp_get' (z : Value) (V : Nat → Value) (n k i : Nat) (h : i < n) : (Cp z V n k)[i]? = some (if i < k then V i else z) := by
  simp [Cp, h]

set_option maxHeartbeats 400000 in
/-- zzCloneU, of a slice that is not empty: a new block that holds the same cells. -/
theorem cloneU (b o n c : Nat) (V : Nat → Int) (w : World) (hn : n ≤ 65536) (hn0 : 0 < n)
    (hc : ∀ i, i < n → w.cell? ⟨b, o + i, none⟩ = some (.int .u64 (V i))) :
    Calls Try.prog 8 #[.slice (some ⟨b, o, none⟩) n c] w fun e w' => e = .returned (.slice (some ⟨w.heap.size, 0, none⟩) n n) ∧
      w' = w.alloc (.cells (Cp (.int .u64 0) (fun i => .int .u64 (V i)) n n) 25) := by
  have hb : b < w.heap.size := World.block_lt_of_cell? _ _ (hc 0 hn0)
  have hmk := run_make_row' (P := Try.prog) 23 25 (.int .u64 0) 8 Try.underlying23 Try.info25 rfl .i64 .i64 n (by omega) (by omega)
  have hnil := fun w => Lib.run_eql_slice_nil (P := Try.prog) w 23 25 (some ⟨b, o, none⟩) n c 0 0 Try.underlying23
  go_enter Try.func8, Try.ntmps8
  go_wp2
  rw [← Cp_zero (.int .u64 0) (fun i => .int .u64 (V i)) n]
  clear hmk hnil
  go_loopw [4] (fun i wr => ∃ k : Nat, k ≤ n ∧ i = .int .i64 k ∧ wr = w.alloc (.cells (Cp (.int .u64 0) (fun i => .int .u64 (V i)) n k) 25)) (fun i _ => n - (intOf i).toNat)
  case atStart => exact ⟨0, Nat.zero_le _, rfl, rfl⟩
  case round =>
    obtain ⟨k, hk, rfl, rfl⟩ := hrel
    by_cases hlt : k < n
    · have g1 : (w.alloc (.cells (Cp (.int .u64 0) (fun i => .int .u64 (V i)) n k) 25)).cell? ⟨b, o + k, none⟩ = some (.int .u64 (V k)) := by
        rw [World.cell?_alloc_past _ _ _ hb]; exact hc k hlt
      have g2 : (Cp (.int .u64 0) (fun i => .int .u64 (V i)) n k)[k]? = some (.int .u64 0) := by rw [Cp_get' _ _ _ _ _ hlt]; simp
      clear hc
      go_wp2
      go_roundw
      case rel => exact ⟨k + 1, by omega, by go_num, by rw [← Cp_step]⟩
      case measure => simp [intOf]; omega
    · clear hc
      go_wp2
      go_ret
      have e : k = n := by omega
      subst e
      exact ⟨rfl, rfl⟩

set_option maxHeartbeats 400000 in
/-- zzCloneF, of a slice that is not empty: a new block that holds the same cells. -/
theorem cloneF (b o n c : Nat) (V : Nat → Nat) (w : World) (hn : n ≤ 65536) (hn0 : 0 < n)
    (hc : ∀ i, i < n → w.cell? ⟨b, o + i, none⟩ = some (.float .f64 (V i))) :
    Calls Try.prog 7 #[.slice (some ⟨b, o, none⟩) n c] w fun e w' => e = .returned (.slice (some ⟨w.heap.size, 0, none⟩) n n) ∧
      w' = w.alloc (.cells (Cp (.float .f64 0) (fun i => .float .f64 (V i)) n n) 24) := by
  have hb : b < w.heap.size := World.block_lt_of_cell? _ _ (hc 0 hn0)
  have hmk := run_make_row' (P := Try.prog) 22 24 (.float .f64 0) 8 Try.underlying22 Try.info24 rfl .i64 .i64 n (by omega) (by omega)
  have hnil := fun w => Lib.run_eql_slice_nil (P := Try.prog) w 22 24 (some ⟨b, o, none⟩) n c 0 0 Try.underlying22
  go_enter Try.func7, Try.ntmps7
  go_wp2
  rw [← Cp_zero (.float .f64 0) (fun i => .float .f64 (V i)) n]
  clear hmk hnil
  go_loopw [4] (fun i wr => ∃ k : Nat, k ≤ n ∧ i = .int .i64 k ∧ wr = w.alloc (.cells (Cp (.float .f64 0) (fun i => .float .f64 (V i)) n k) 24)) (fun i _ => n - (intOf i).toNat)
  case atStart => exact ⟨0, Nat.zero_le _, rfl, rfl⟩
  case round =>
    obtain ⟨k, hk, rfl, rfl⟩ := hrel
    by_cases hlt : k < n
    · have g1 : (w.alloc (.cells (Cp (.float .f64 0) (fun i => .float .f64 (V i)) n k) 24)).cell? ⟨b, o + k, none⟩ = some (.float .f64 (V k)) := by
        rw [World.cell?_alloc_past _ _ _ hb]; exact hc k hlt
      have g2 : (Cp (.float .f64 0) (fun i => .float .f64 (V i)) n k)[k]? = some (.float .f64 0) := by rw [Cp_get' _ _ _ _ _ hlt]; simp
      clear hc
      go_wp2
      go_roundw
      case rel => exact ⟨k + 1, by omega, by go_num, by rw [← Cp_step]⟩
      case measure => simp [intOf]; omega
    · clear hc
      go_wp2
      go_ret
      have e : k = n := by omega
      subst e
      exact ⟨rfl, rfl⟩

set_option maxHeartbeats 400000 in
/-- zzCloneF of an empty slice: an empty slice; at most a new block. -/
theorem cloneF0 (a : Option Addr) (c : Nat) (w : World) :
    Calls Try.prog 7 #[.slice a 0 c] w fun e w' => ∃ a', e = .returned (.slice a' 0 0) ∧ (w' = w ∨ ∃ o, w' = w.alloc (.cells o 24)) := by
  have hmk : ∀ w, (Instr.makeSlice 22 (.int .i64 0) (.int .i64 0)).run Try.prog w = .ok (.slice (some ⟨w.heap.size, 0, none⟩) 0 0) (w.alloc (.cells (madeCells #[.float .f64 0] 0) 24)) :=
    run_make_row' (P := Try.prog) 22 24 (.float .f64 0) 8 Try.underlying22 Try.info24 rfl .i64 .i64 0 (by omega) (by omega)
  cases a with
  | none =>
    have hnil := fun w => Lib.run_eql_slice_nil (P := Try.prog) w 22 24 none 0 c 0 0 Try.underlying22
    go_enter Try.func7, Try.ntmps7
    go_wp2
    go_ret
    exact ⟨_, rfl, .inl rfl⟩
  | some x =>
    have hnil := fun w => Lib.run_eql_slice_nil (P := Try.prog) w 22 24 (some x) 0 c 0 0 Try.underlying22
    go_enter Try.func7, Try.ntmps7
    go_wp2
    refine wp_loop_rounds 1 ?_
    rw [rounds_succ]
    go_wp2
    go_ret
    exact ⟨_, rfl, .inr ⟨_, rfl⟩⟩

/-- The sum of the first k numbers, by rounds, modulo 2^64. -/
def su (V : Nat → Int) : Nat → Int
  | 0 => 0
  | k + 1 => IntKind.u64.wrap (su V k + V k)

set_option maxHeartbeats 800000 in
/-- Count, the lock free: the sum; the world is as it was. -/
theorem count (b g o n c : Nat) (V : Nat → Int) (w : World) (hn : n ≤ 65536)
    (hs : w.cell? ⟨b, 1, none⟩ = some (.int .i32 0)) (hf : w.frozen? ⟨b, 1, none⟩ = false)
    (hk3 : w.cell? ⟨b, 3, none⟩ = some (.slice (some ⟨g, o, none⟩) n c)) (hgb : g ≠ b)
    (hc : ∀ i, i < n → w.cell? ⟨g, o + i, none⟩ = some (.int .u64 (V i))) :
    Calls Try.prog 10 #[.pointer (some ⟨b, 0, none⟩)] w fun e w' => e = .returned (.int .u64 (su V n)) ∧
      w' = (w.setCell ⟨b, 1, none⟩ (.int .i32 1)).setCell ⟨b, 1, none⟩ (.int .i32 0) := by
  go_enter_defers Try.func10, Try.ntmps10
  go_wp2_with (go_at_call 12; refine (lock_free muLib ⟨b, 1, none⟩ _ hs hf).mono ?_; rintro e w' ⟨rfl, rfl⟩)
  go_loop [3, 5, 18] (fun s _ i => ∃ k : Nat, k ≤ n ∧ i = .int .i64 k ∧ s = .int .u64 (su V k)) (fun _ _ i => n - (intOf i).toNat)
  case atStart => exact ⟨0, Nat.zero_le _, rfl, rfl⟩
  case round =>
    obtain ⟨k, hk, rfl, rfl⟩ := hrel
    by_cases hlt : k < n
    · have g1 : (w.setCell ⟨b, 1, none⟩ (.int .i32 1)).cell? ⟨g, o + k, none⟩ = some (.int .u64 (V k)) := by
        rw [World.cell?_setCell_other _ ⟨b, 1, none⟩ ⟨g, o + k, none⟩ _ (fun h => hgb (congrArg Addr.block h).symm)]; exact hc k hlt
      clear hc
      go_wp2
      go_round
      case rel => exact ⟨k + 1, by omega, by go_num, rfl⟩
      case measure => simp [intOf]; omega
    · clear hc
      have e : k = n := by omega
      subst e
      go_wp2
      refine leaves_cons (f := 13) (args := #[.pointer (some ⟨b, 1, none⟩)]) (by simp) (by simp [go_sem]) ?_
      refine (unlock_deferred muLib ⟨b, 1, none⟩ .returning _ ?_ ?_).mono ?_
      · exact World.cell?_setCell_same w ⟨b, 1, none⟩ (.int .i32 1) hs
      · simp [hf]
      rintro e u' w'' ⟨rfl, rfl, rfl⟩
      exact ⟨_, results_tmp rfl _ _ _, rfl, rfl⟩

theorem su_congr (V V' : Nat → Int) (n : Nat) (h : ∀ i, i < n → V i = V' i) : su V n = su V' n := by
  induction n with
  | zero => rfl
  | succ k ih => simp only [su]; rw [ih (fun i hi => h i (by omega)), h k (by omega)]
end Go.Proofs.Qxb6632369a
