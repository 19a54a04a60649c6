/-
  THE LEAVES' CONTRACTS: zzBytes_.., isUpperASCII, zzIsUpperB1, zzIsLetterB1, FoldName, zzUpperB1.
-/
import Derived.Test.Qxb6632457aProg
import Derived.Test.Qxb6632457aPlain
import Derived.WalkKit
import Derived.WalkSpells
import Derived.WalkLawsBesides
import Derived.Deep.OwnRows
namespace Go.Proofs.Qxb6632457a
open Go.RowKit

theorem Try.info5 : (Try.prog.info? 5).map (fun i => (i.zero, i.size, i.bytes)) = some (some (.int .u8 0), 1, 1) := by kernel_rfl

theorem upB_true {c : Int} (h : upB c = true) : 65 ≤ c ∧ c ≤ 90 := by simpa [upB] using h
theorem upB_false {c : Int} (h : upB c = false) : c < 65 ∨ 90 < c := by simp [upB] at h; omega

set_option maxHeartbeats 400000 in
theorem bytes5 (a b : ByteArray) (w : World) (h0 : a.size ≤ maxLen) (h1 : b.size ≤ maxLen) :
    Calls Try.prog 5 #[.string a, .string b] w fun e w' => ∃ r, e = .returned (.bool r) ∧ w = w' := by
  unfold maxLen at h0 h1
  go_enter Try.func5, Try.ntmps5
  go_wp2
  all_goals (go_ret; exact ⟨_, rfl, rfl⟩)

set_option maxHeartbeats 400000 in
theorem bytes9 (a b : ByteArray) (w : World) (h0 : a.size ≤ maxLen) (h1 : b.size ≤ maxLen) :
    Calls Try.prog 9 #[.string a, .string b] w fun e w' => ∃ r, e = .returned (.bool r) ∧ w = w' := by
  unfold maxLen at h0 h1
  go_enter Try.func9, Try.ntmps9
  go_wp2
  all_goals (go_ret; exact ⟨_, rfl, rfl⟩)

theorem upB_no {c : Int} (h : c < 65 ∨ 90 < c) : false = upB c := by unfold upB; exact (decide_eq_false (by omega)).symm
theorem leB_no {c : Int} (h : c < 65 ∨ (90 < c ∧ c < 97)) : false = leB c := by unfold leB; rw [← upB_no (by omega)]; unfold loB; rw [decide_eq_false (by omega)]; rfl
theorem leB_hi {c : Int} (h : 97 ≤ c) : decide (c ≤ 122) = leB c := by unfold leB; rw [← upB_no (by omega)]; unfold loB; simp [h]
theorem leB_up {c : Int} (h : 65 ≤ c) (h' : c ≤ 90) : true = leB c := by simp [leB, upB, h, h']
theorem ret_bool {a b : Bool} (h : a = b) : Ending.returned (.bool a) = .returned (.bool b) := by rw [h]
theorem ret_string {a b : ByteArray} (h : a = b) : Ending.returned (.string a) = .returned (.string b) := by rw [h]

set_option maxHeartbeats 400000 in
theorem isUpper11 (c : Int) (w : World) : Calls Try.prog 11 #[.int .u8 c] w fun e w' => e = .returned (.bool (upB c)) ∧ w = w' := by
  by_cases h1 : 65 ≤ c
  · go_enter Try.func11, Try.ntmps11
    go_wp2
    go_ret
    exact ⟨ret_bool (by simp [upB, h1]), rfl⟩
  · go_enter Try.func11, Try.ntmps11
    go_wp2
    go_ret
    exact ⟨ret_bool (upB_no (by omega)), rfl⟩

set_option maxHeartbeats 400000 in
theorem isUpper7 (c : Int) (w : World) : Calls Try.prog 7 #[.int .u8 c] w fun e w' => e = .returned (.bool (upB c)) ∧ w = w' := by
  by_cases h1 : 65 ≤ c
  · go_enter Try.func7, Try.ntmps7
    go_wp2
    go_ret
    exact ⟨ret_bool (by simp [upB, h1]), rfl⟩
  · go_enter Try.func7, Try.ntmps7
    go_wp2
    go_ret
    exact ⟨ret_bool (upB_no (by omega)), rfl⟩

set_option maxHeartbeats 400000 in
theorem isLetter12 (c : Int) (w : World) : Calls Try.prog 12 #[.int .u8 c] w fun e w' => e = .returned (.bool (leB c)) ∧ w = w' := by
  by_cases h1 : 65 ≤ c
  · by_cases h2 : c ≤ 90
    · go_enter Try.func12, Try.ntmps12
      go_wp2
      go_ret
      exact ⟨ret_bool (leB_up h1 h2), rfl⟩
    · by_cases h3 : 97 ≤ c
      · go_enter Try.func12, Try.ntmps12
        go_wp2
        go_ret
        exact ⟨ret_bool (leB_hi h3), rfl⟩
      · go_enter Try.func12, Try.ntmps12
        go_wp2
        go_ret
        exact ⟨ret_bool (leB_no (by omega)), rfl⟩
  · have h3 : ¬ 97 ≤ c := by omega
    go_enter Try.func12, Try.ntmps12
    go_wp2
    go_ret
    exact ⟨ret_bool (leB_no (by omega)), rfl⟩

/-- What the inner loop of FoldName has written so far. -/
def Part (s : ByteArray) (k m : Nat) (w wr : World) : Prop :=
  Below w.heap.size w wr ∧ (∀ (t : Nat) (h : t < s.size), wr.cell? ⟨w.heap.size, t, none⟩ = some (.int .u8 (((if k ≤ t ∧ t < m then low s[t] else s[t])).toNat : Int))) ∧ ∀ t, t < s.size → wr.frozen? ⟨w.heap.size, t, none⟩ = false

theorem part_start (s : ByteArray) (k cap : Nat) (w : World) :
    Part s k k w (w.alloc (.cells (bytesRow s cap) 5 ((bytesRow s cap).size, (bytesRow s cap).size + 1))).drew := by
  refine ⟨((Below.refl _ _).alloc (Nat.le_refl _) _).drew, fun t h => ?_, fun t h => ?_⟩
  · show (w.alloc _).cell? _ = _
    rw [World.cell?_alloc_mark, bytesRow_at s cap t h, if_neg (by omega)]
    rfl
  · show (w.alloc _).frozen? _ = _
    rw [World.frozen?_alloc_mark]
    have : t < (bytesRow s cap).size := by
      have h' : t < s.data.size := h
      unfold bytesRow; simp; omega
    rw [decide_eq_false (by omega)]
    rfl

theorem part_write {s : ByteArray} {k m : Nat} {w wr : World} (h : Part s k m w wr) (hk : k ≤ m) (hm : m < s.size) (hu : upB ((s[m]).toNat : Int) = true) :
    Part s k (m + 1) w (wr.setCell ⟨w.heap.size, m, none⟩ (.int .u8 ((s[m].toNat : Int) + 32))) := by
  obtain ⟨h1, h2, h3⟩ := h
  refine ⟨h1.setCell (Nat.le_refl _) _, fun t ht => ?_, fun t ht => by rw [World.frozen?_setCell]; exact h3 t ht⟩
  by_cases e : t = m
  · subst e
    rw [World.cell?_setCell_same _ _ _ (h2 t ht), if_pos (by omega), low_toNat _ hu]
  · rw [World.cell?_setCell_other wr ⟨w.heap.size, m, none⟩ ⟨w.heap.size, t, none⟩ _ (fun h => e (congrArg Addr.off h).symm), h2 t ht]
    by_cases h4 : k ≤ t ∧ t < m
    · rw [if_pos h4, if_pos (by omega)]
    · rw [if_neg h4, if_neg (by omega)]

theorem part_skip {s : ByteArray} {k m : Nat} {w wr : World} (h : Part s k m w wr) (hm : m < s.size) (hu : upB ((s[m]).toNat : Int) = false) :
    Part s k (m + 1) w wr := by
  obtain ⟨h1, h2, h3⟩ := h
  refine ⟨h1, fun t ht => ?_, h3⟩
  rw [h2 t ht]
  by_cases e : t = m
  · subst e
    rw [if_neg (by omega)]
    split
    · rw [low_not _ hu]
    · rfl
  · by_cases h4 : k ≤ t ∧ t < m
    · rw [if_pos h4, if_pos (by omega)]
    · rw [if_neg h4, if_neg (by omega)]

theorem part_done {s : ByteArray} {k : Nat} {w wr : World} (h : Part s k s.size w wr) (hn : ∀ (t : Nat) (h : t < s.size), t < k → upB ((s[t]).toNat : Int) = false) (cap : Nat) :
    (convert 25 9 (.slice (some ⟨w.heap.size, 0, none⟩) s.size cap)).run Try.prog wr = .ok (.string (fold s)) wr := by
  obtain ⟨h1, h2, h3⟩ := h
  have hl : (fold s).data.toList.length = s.size := by rw [Array.length_toList]; exact fold_size s
  have := run_convert_bytes_back (P := Try.prog) wr 25 9 5 ⟨w.heap.size, 0, none⟩ cap (fold s).data.toList Try.underlying25 Try.underlying5 Try.underlying9 (fun j hj => by
    have hj' : j < s.size := by omega
    rw [show (⟨w.heap.size, 0, none⟩ : Addr).add j = ⟨w.heap.size, j, none⟩ from by rw [Go.WideShapes.add_plain, Nat.zero_add], h2 j hj']
    have e : (fold s).data.toList[j] = low s[j] := by
      have := fold_get s j (by rw [fold_size]; exact hj')
      rw [← this]; rfl
    rw [e]
    by_cases hk : k ≤ j
    · rw [if_pos ⟨hk, hj'⟩]
    · rw [if_neg (by omega), low_not _ (hn j hj' (by omega))])
  rw [hl] at this
  exact this

set_option maxHeartbeats 800000 in
theorem foldName (s : ByteArray) (w : World) (hs : s.size ≤ maxLen) :
    Calls Try.prog 6 #[.string s] w fun e w' => e = .returned (.string (fold s)) ∧ Below w.heap.size w w' := by
  have hm := hs
  unfold maxLen at hm
  have hcv := fun w => run_bytes_of_string (P := Try.prog) w 9 25 5 s Try.underlying9 Try.underlying25 Try.underlying5
  go_enter Try.func6, Try.ntmps6
  go_wp2
  go_loopw [3] (fun i wr => ∃ k : Nat, k ≤ s.size ∧ i = .int .i64 k ∧ w = wr ∧ ∀ (t : Nat) (h : t < s.size), t < k → upB ((s[t]).toNat : Int) = false) (fun i _ => s.size - (intOf i).toNat)
  case atStart => exact ⟨0, Nat.zero_le _, rfl, rfl, fun t h h' => absurd h' (Nat.not_lt_zero _)⟩
  case round =>
    obtain ⟨k, hk, rfl, rfl, hn⟩ := hrel
    have HN : Hid (∀ (t : Nat) (h : t < s.size), t < k → upB ((s[t]).toNat : Int) = false) := hn
    clear hn
    by_cases hlt : k < s.size
    · by_cases hu : upB ((s[k]).toNat : Int) = true
      · go_wp2_with (go_at_call 11; refine (isUpper11 _ _).mono ?_; rintro e w' ⟨rfl, rfl⟩)
        clear hcv
        go_loopw [5] (fun j wr => ∃ m : Nat, k ≤ m ∧ m ≤ s.size ∧ j = .int .i64 m ∧ Hid (Part s k m w wr)) (fun j _ => s.size - (intOf j).toNat)
        case atStart => exact ⟨k, Nat.le_refl _, hk, rfl, part_start s k _ w⟩
        case round =>
          obtain ⟨m, hkm, hms, rfl, HP⟩ := hrel
          by_cases hlm : m < s.size
          · have g1 := HP.out.2.1 m hlm
            rw [if_neg (by omega)] at g1
            have g2 := HP.out.2.2 m hlm
            have hub := (s[m]).toNat_lt
            by_cases hv : upB ((s[m]).toNat : Int) = true
            · have hv2 := (upB_true hv).2
              go_wp2_with (go_at_call 11; refine (isUpper11 _ _).mono ?_; rintro e w' ⟨rfl, rfl⟩)
              go_roundw
              case rel => exact ⟨m + 1, by omega, by omega, by go_num, part_write HP.out hkm hlm hv⟩
              case measure => simp [intOf]; omega
            · have hv' : upB ((s[m]).toNat : Int) = false := by simpa using hv
              clear hv
              go_wp2_with (go_at_call 11; refine (isUpper11 _ _).mono ?_; rintro e w' ⟨rfl, rfl⟩)
              go_roundw
              case rel => exact ⟨m + 1, by omega, by omega, by go_num, part_skip HP.out hlm hv'⟩
              case measure => simp [intOf]; omega
          · have e : m = s.size := by omega
            subst e
            have hback := part_done HP.out HN.out
            go_wp2
            go_ret
            exact ⟨rfl, HP.out.1⟩
      · have hu' : upB ((s[k]).toNat : Int) = false := by simpa using hu
        clear hu hcv
        go_wp2_with (go_at_call 11; refine (isUpper11 _ _).mono ?_; rintro e w' ⟨rfl, rfl⟩)
        go_roundw
        case rel => exact ⟨k + 1, by omega, by go_num, trivial, fun t h h' => by
          by_cases e : t = k
          · subst e; exact hu'
          · exact HN.out t h (by omega)⟩
        case measure => simp [intOf]; omega
    · go_wp2
      go_ret
      refine ⟨ret_string (fold_none s fun t h => HN.out t h (by omega)).symm, Below.refl _ _⟩

/-- k of n cells written, the rest still z. -/
def Cp (z : Value) (V : Nat → Value) (n k : Nat) : Array Value := Array.ofFn (n := n) fun i => if i.val < k then V i.val else z

theorem Cp_zero (z : Value) (V : Nat → Value) (n : Nat) : Cp z V n 0 = madeCells #[z] n := by
  apply Array.ext
  · simp [Cp, size_madeCells]
  · intro i h1 h2
    simp [Cp, madeCells, Nat.mod_one]

theorem Cp_step (z : Value) (V : Nat → Value) (n k : Nat) : (Cp z V n k).setIfInBounds k (V k) = Cp z V n (k + 1) := by
  apply Array.ext_getElem?
  intro i
  rw [Array.getElem?_setIfInBounds]
  by_cases e : k = i
  · subst e
    by_cases h : k < n <;> simp [Cp, h]
  · rw [if_neg e]
    by_cases h : i < n
    · by_cases h' : i < k
      · simp [Cp, h, h', show i < k + 1 by omega]
      · simp [Cp, h, h', show ¬ i < k + 1 by omega]
    · simp [Cp, h]

theorem Cp_get (z : Value) (V : Nat → Value) (n k i : Nat) (h : i < n) : (Cp z V n k)[i]? = some (if i < k then V i else z) := by
  simp [Cp, h]

/-- The i-th byte raised, as a number. -/
def uppAt (s : ByteArray) (i : Nat) : Value := .int .u8 ((upp (s.data.getD i 0)).toNat : Int)

theorem uppAt_lo (s : ByteArray) (k : Nat) (h : k < s.size) (hl : loB ((s[k]).toNat : Int) = true) : uppAt s k = .int .u8 ((s[k].toNat : Int) - 32) := by
  have e : s.data.getD k 0 = s[k] := by
    rw [Array.getD_eq_getD_getElem?, Array.getElem?_eq_getElem h]; rfl
  rw [uppAt, e, upp_toNat _ hl]
theorem uppAt_no (s : ByteArray) (k : Nat) (h : k < s.size) (hl : loB ((s[k]).toNat : Int) = false) : uppAt s k = .int .u8 (s[k].toNat : Int) := by
  have e : s.data.getD k 0 = s[k] := by
    rw [Array.getD_eq_getD_getElem?, Array.getElem?_eq_getElem h]; rfl
  rw [uppAt, e, upp_not _ hl]

theorem upper_back (s : ByteArray) (w : World) (cap : Nat) :
    (convert 25 9 (.slice (some ⟨w.heap.size, 0, none⟩) s.size cap)).run Try.prog (w.alloc (.cells (Cp (.int .u8 0) (uppAt s) s.size s.size) 5)) = .ok (.string (upper s)) (w.alloc (.cells (Cp (.int .u8 0) (uppAt s) s.size s.size) 5)) := by
  have hl : (upper s).data.toList.length = s.size := by rw [Array.length_toList]; exact upper_size s
  have := run_convert_bytes_back (P := Try.prog) (w.alloc (.cells (Cp (.int .u8 0) (uppAt s) s.size s.size) 5)) 25 9 5 ⟨w.heap.size, 0, none⟩ cap (upper s).data.toList Try.underlying25 Try.underlying5 Try.underlying9 (fun j hj => by
    have hj' : j < s.size := by omega
    rw [show (⟨w.heap.size, 0, none⟩ : Addr).add j = ⟨w.heap.size, j, none⟩ from by rw [Go.WideShapes.add_plain, Nat.zero_add], World.cell?_alloc_at _ _ _ _ rfl, Cp_get _ _ _ _ _ hj', if_pos hj']
    have e : s.data.getD j 0 = s.data[j]'hj' := by
      rw [Array.getD_eq_getD_getElem?, Array.getElem?_eq_getElem hj']; rfl
    simp [uppAt, e, upper])
  rw [hl] at this
  exact this

set_option maxHeartbeats 800000 in
theorem upperB1 (s : ByteArray) (w : World) (hs : s.size ≤ 1048576) :
    Calls Try.prog 8 #[.string s] w fun e w' => e = .returned (.string (upper s)) ∧ Below w.heap.size w w' := by
  have hmk := run_make_row' (P := Try.prog) 25 5 (.int .u8 0) 1 Try.underlying25 Try.info5 rfl .i64 .i64 s.size (by omega) (by omega)
  go_enter Try.func8, Try.ntmps8
  go_wp2
  rw [← Cp_zero (.int .u8 0) (uppAt s) s.size]
  clear hmk
  go_loopw [4, 5] (fun i _ wr => ∃ k : Nat, k ≤ s.size ∧ i = .int .i64 k ∧ wr = w.alloc (.cells (Cp (.int .u8 0) (uppAt s) s.size k) 5)) (fun i _ _ => s.size - (intOf i).toNat)
  case atStart => exact ⟨0, Nat.zero_le _, rfl, rfl⟩
  case round =>
    obtain ⟨k, hk, rfl, rfl⟩ := hrel
    by_cases hlt : k < s.size
    · have g2 : (Cp (.int .u8 0) (uppAt s) s.size k)[k]? = some (.int .u8 0) := by rw [Cp_get _ _ _ _ _ hlt]; simp
      have hub := (s[k]).toNat_lt
      have HS : Hid ((Cp (.int .u8 0) (uppAt s) s.size k).setIfInBounds k (uppAt s k) = Cp (.int .u8 0) (uppAt s) s.size (k + 1)) := Cp_step _ _ _ _
      by_cases h1 : 97 ≤ ((s[k]).toNat : Int)
      · by_cases h2 : ((s[k]).toNat : Int) ≤ 122
        · have HU : Hid (uppAt s k = .int .u8 ((s[k].toNat : Int) - 32)) := uppAt_lo s k hlt (by simp [loB]; omega)
          go_wp2
          go_roundw
          case rel => exact ⟨k + 1, by omega, by go_num, by rw [← HS.out, HU.out]⟩
          case measure => simp [intOf]; omega
        · have HU : Hid (uppAt s k = .int .u8 (s[k].toNat : Int)) := uppAt_no s k hlt (by simp [loB]; omega)
          go_wp2
          go_roundw
          case rel => exact ⟨k + 1, by omega, by go_num, by rw [← HS.out, HU.out]⟩
          case measure => simp [intOf]; omega
      · have HU : Hid (uppAt s k = .int .u8 (s[k].toNat : Int)) := uppAt_no s k hlt (by simp [loB]; omega)
        go_wp2
        go_roundw
        case rel => exact ⟨k + 1, by omega, by go_num, by rw [← HS.out, HU.out]⟩
        case measure => simp [intOf]; omega
    · have e : k = s.size := by omega
      subst e
      have hback := upper_back s w
      go_wp2
      go_ret
      exact ⟨rfl, (Below.refl _ _).alloc (Nat.le_refl _) _⟩
end Go.Proofs.Qxb6632457a
