/-
  zzBERLength: a new row that holds the BER length octets.
-/
import Derived.Test.Qxb6634840aLeaves
import Derived.Deep.AppendLies
namespace Go.Proofs.Qxb6634840a
open Go.RowKit

/-- The list as cells. -/
def u8s (xs : List Int) : List Value := xs.map (Value.int .u8)
theorem u8s_length (xs : List Int) : (u8s xs).length = xs.length := by simp [u8s]
theorem u8s_append (xs ys : List Int) : u8s (xs ++ ys) = u8s xs ++ u8s ys := by simp [u8s]
theorem u8s_get (xs : List Int) (i : Nat) (h : i < xs.length) : (u8s xs)[i]? = some (.int .u8 (xs.getD i 0)) := by
  simp [u8s, h]

/-- A row of the call's own that holds xs. -/
def Own (B : Nat) (w : World) (a : Option Addr) (xs : List Int) (cap : Nat) : Prop := w.ownsRow B 5 1 (.slice a xs.length cap) xs.length (u8s xs)

/-- zzBERLength's end. -/
def BerEnd (n : Nat) (w : World) (e : Ending) (w' : World) : Prop :=
  ∃ g cap, e = .returned (.slice (some ⟨g, 0, none⟩) (ber n).length cap) ∧ Own w.heap.size w' (some ⟨g, 0, none⟩) (ber n) cap ∧ Below w.heap.size w w'

theorem one_new {W : World} {H : Nat} (hH : H = W.heap.size) {v : Value} {t : TypeId} : ∀ j u, [v][j]? = some u → (W.alloc (.cells #[v] t)).cell? ((⟨H, 0, none⟩ : Addr).add j) = some u := by
  subst hH
  exact cell_one_new _ _ _

theorem make0 (j : Nat) (hj : j ≤ 1048600) (w : World) : (Instr.makeSlice 22 (.int .i64 0) (.int .i64 ((j : Int) + 1))).run Try.prog w = .ok (.slice (some ⟨w.heap.size, 0, none⟩) 0 (j + 1)) (w.alloc (.cells (madeCells #[.int .u8 0] (j + 1)) 5)) := by
  obtain ⟨i0, hi, hz0, hz1, hz2⟩ := info_parts Try.info5
  have h := run_make (P := Try.prog) w 22 5 i0 (.int .u8 0) Try.underlying22 hi hz0 .i64 .i64 0 ((j : Int) + 1) (by omega) (by omega) (by rw [hz2]; omega) (by omega)
  rw [hz1, show ((j : Int) + 1).toNat = j + 1 by omega, Nat.mul_one] at h
  exact h

theorem le_step {n j x : Nat} (h : x = n / 256 ^ j) : u8s (le j n) ++ [Value.int .u8 ((x : Int) % 256)] = u8s (le (j + 1) n) := by
  rw [le_succ, u8s_append]
  congr 1
  simp [u8s, dig, h]

theorem le_get (k n i : Nat) (h : i < k) : (le k n).getD i 0 = ((dig n i : Nat) : Int) := by
  simp [le, h]

theorem ber_take_step (n t u : Nat) (h : t + (u + 1) = lenB n) (hn : 128 ≤ n) : u8s ((ber n).take (t + 1)) ++ [Value.int .u8 ((dig n u : Nat) : Int)] = u8s ((ber n).take (t + 1 + 1)) := by
  rw [ber_long hn, List.take_succ_cons, List.take_succ_cons, be_succ_take _ _ _ (by omega), show lenB n - 1 - t = u by omega]
  simp [u8s]

set_option maxRecDepth 100000 in
set_option maxHeartbeats 1000000 in
theorem berLength_short (n : Nat) (w : World) (hn : n < 128) :
    Calls Try.prog 9 #[.int .i64 n] w fun e w' => BerEnd n w e w' := by
  go_enter Try.func9, Try.ntmps9
  go_wp2
  go_ret
  refine ⟨w.heap.size, 1, by rw [ber_short hn]; rfl, ?_, (Below.refl _ _).alloc (Nat.le_refl _) _⟩
  rw [ber_short hn]
  exact World.ownsRow_lit w #[.int .u8 (n : Int)] 1 (Nat.le_refl _) (by decide) rfl

set_option maxRecDepth 100000 in
set_option maxHeartbeats 2000000 in
theorem berLength_long (n : Nat) (w : World) (hn : 128 ≤ n) (hn2 : n < 16777216) :
    Calls Try.prog 9 #[.int .i64 n] w fun e w' => BerEnd n w e w' := by
  obtain ⟨i0, hi, hz0, hz1, hz2⟩ := info_parts Try.info5
  have hk := lenB_pos n
  obtain ⟨k, hkk⟩ : ∃ k, k = lenB n := ⟨_, rfl⟩
  rw [← hkk] at hk
  have HK : Hid (k = lenB n) := hkk
  clear hkk
  go_enter Try.func9, Try.ntmps9
  go_wp2
  go_loopw [3, 4] (fun v m wr => ∃ (j x : Nat) (a : Option Addr) (c : Nat), j ≤ k ∧ x ≤ n ∧ Hid (x = n / 256 ^ j) ∧ m = .int .i64 x ∧ v = .slice a j c ∧ Hid (wr.ownsRow w.heap.size 5 1 (.slice a j c) j (u8s (le j n))) ∧ Hid (Below w.heap.size w wr)) (fun _ m _ => (intOf m).toNat)
  case atStart => exact ⟨0, n, none, 0, Nat.zero_le _, Nat.le_refl _, by show n = n / 256 ^ 0; simp, rfl, rfl, World.ownsRow_nil _ _ _ _, Below.refl _ _⟩
  case round =>
    obtain ⟨j, x, a, c, hj, hxn, HX, rfl, rfl, HO, HB⟩ := hrel
    by_cases hx : 0 < x
    · have hjk : j < k := by
        rcases Nat.lt_or_ge j k with h | h
        · exact h
        · have e : j = k := by omega
          have := HX.out
          rw [e, HK.out, left_zero hn2] at this
          omega
      have hb := HB.out.size
      go_wp2_with (at_builtin; refine wpList_append_lies _ rfl _ _ 22 rfl w.heap.size 5 i0 (.int .u8 0) 1 1 Try.underlying22 hi hz0 hz1 hz2 rfl (by decide) _ _ _ rfl (HO.out.alloc _) ⟨wr.heap.size, 0, none⟩ 1 1 [.int .u8 ((x : Int) % 256)] rfl rfl (cell_one_new _ _ _) ?c2 (by decide) ?c3 ?c4 ?c5 _ rfl ?_)
      case c2 => intro u hu; simp at hu; subst hu; rfl
      case c3 => unfold maxLen; omega
      case c4 => omega
      case c5 => simp; omega
      intro g cap w1 hown hgrow _ _
      have HO1 : Hid (w1.ownsRow w.heap.size 5 1 (.slice (some ⟨g, 0, none⟩) (j + 1) cap) (j + 1) (u8s (le (j + 1) n))) := by rw [← le_step HX.out]; exact hown
      have HB1 : Hid (Below w.heap.size w w1) := (HB.out.alloc hb _).grown hgrow (by simp; omega) (fun b hb' => (HO.out.lt b hb').1)
      have HX1 : Hid (x / 256 = n / 256 ^ (j + 1)) := by rw [HX.out]; exact div_pow n j
      clear hown hgrow HO HB HX
      go_wp2
      go_roundw
      case rel => exact ⟨j + 1, x / 256, some ⟨g, 0, none⟩, cap, by omega, by omega, HX1, by go_num, rfl, HO1, HB1⟩
      case measure => simp [intOf]; omega
    · have hjk : j = k := by
        rcases Nat.lt_or_ge j k with h | h
        · have := left_pos (n := n) (by omega) (by rw [← HK.out]; exact h)
          have := HX.out
          omega
        · omega
      subst hjk
      obtain ⟨wq, hq⟩ : ∃ wq, wq = wr := ⟨wr, rfl⟩
      subst hq
      obtain ⟨g, cap, hv, hBg, hgs⟩ := HO.out.form (by omega)
      simp only [Value.slice.injEq, true_and] at hv
      obtain ⟨rfl, rfl⟩ := hv
      have hb := HB.out.size
      have HC : Hid (∀ i, i < j → wq.cell? ⟨g, i, none⟩ = some (.int .u8 ((dig n i : Nat) : Int))) := fun i hi' => by
        rw [HO.out.cellAt i (by omega), u8s_get _ _ (by rw [le_length]; exact hi'), le_get _ _ _ hi']
      clear HX
      have hmk : ∀ w, (Instr.makeSlice 22 (.int .i64 0) (.int .i64 ((j : Int) + 1))).run Try.prog w = .ok (.slice (some ⟨w.heap.size, 0, none⟩) 0 (j + 1)) (w.alloc (.cells (madeCells #[.int .u8 0] (j + 1)) 5)) := make0 j (by omega)
      have hsz1 : (madeCells #[Value.int .u8 0] (j + 1)).size = (j + 1) * 1 := by simp [madeCells]
      have HW : Hid ((wq.alloc (.cells (madeCells #[Value.int .u8 0] (j + 1)) 5)).ownsRow w.heap.size 5 1 (.slice (some ⟨wq.heap.size, 0, none⟩) 0 (j + 1)) 0 []) := World.ownsRow_made wq _ _ hb (by unfold maxLen; omega) hsz1
      clear hsz1
      go_wp2_with (at_builtin; refine wpList_append_fits _ rfl _ _ 22 rfl w.heap.size 5 i0 1 Try.underlying22 hi hz1 wq.heap.size 0 (j + 1) [] rfl (HW.out.alloc _) ⟨wq.heap.size + 1, 0, none⟩ 1 1 [.int .u8 (128 + (j : Int))] rfl rfl ?d1 ?d2 ?d3 ?_)
      case d1 => exact one_new (by simp)
      case d2 => intro u hu; simp at hu; subst hu; rfl
      case d3 => omega
      intro w1 hown hgrow
      have HO1 : Hid (w1.ownsRow w.heap.size 5 1 (.slice (some ⟨wq.heap.size, 0, none⟩) (0 + 1) (j + 1)) (0 + 1) (u8s ((ber n).take (0 + 1)))) := by
        rw [ber_long hn, ← HK.out]; exact hown
      have HB1 : Hid (Below w.heap.size w w1) := ((HB.out.alloc hb _).alloc (by simp; omega) _).grown hgrow (by simp; omega) (fun b hb' => by cases hb'; exact hb)
      have HC1 : Hid (∀ i, i < j → w1.cell? ⟨g, i, none⟩ = some (.int .u8 ((dig n i : Nat) : Int))) := fun i hi' => by
        rw [hgrow.cell_far _ (by simp; omega) (by simp; omega), World.cell?_alloc_past _ _ _ (by simp; omega), World.cell?_alloc_past _ _ _ hgs]
        exact HC.out i hi'
      have hs1 : wq.heap.size < w1.heap.size := by have := hgrow.size; simp at this; omega
      clear hown hgrow HO HW HB HC hmk
      go_wp2_with fail
      go_loopw [5, 6] (fun v i wr => ∃ t u : Nat, t + u ≤ j ∧ j ≤ t + u ∧ i = .int .i64 ((u : Int) - 1) ∧ v = .slice (some ⟨wq.heap.size, 0, none⟩) (t + 1) (j + 1) ∧ Hid (wr.ownsRow w.heap.size 5 1 (.slice (some ⟨wq.heap.size, 0, none⟩) (t + 1) (j + 1)) (t + 1) (u8s ((ber n).take (t + 1)))) ∧ Hid (∀ i, i < j → wr.cell? ⟨g, i, none⟩ = some (.int .u8 ((dig n i : Nat) : Int))) ∧ Hid (Below w.heap.size w wr) ∧ wq.heap.size < wr.heap.size) (fun _ i _ => (intOf i + 1).toNat)
      case atStart => exact ⟨0, j, by omega, by omega, rfl, rfl, HO1, HC1, HB1, hs1⟩
      case round =>
        obtain ⟨t, u, hu1, hu2, rfl, rfl, HO2, HC2, HB2, hs2⟩ := hrel
        clear HO1 HC1 HB1 hs1
        have hb2 := HB2.out.size
        by_cases hu : 0 < u
        · have gl : wr.cell? ⟨g, u - 1, none⟩ = some (.int .u8 ((dig n (u - 1) : Nat) : Int)) := HC2.out (u - 1) (by omega)
          have i1 : (0 : Int) ≤ (u : Int) - 1 := by omega
          have i2 : (u : Int) - 1 < (j : Int) := by omega
          go_wp2_with (at_builtin; refine wpList_append_fits _ rfl _ _ 22 rfl w.heap.size 5 i0 1 Try.underlying22 hi hz1 wq.heap.size (t + 1) (j + 1) (u8s ((ber n).take (t + 1))) rfl (HO2.out.alloc _) ⟨wr.heap.size, 0, none⟩ 1 1 [.int .u8 ((dig n (u - 1) : Nat) : Int)] rfl rfl ?e1 ?e2 ?e3 ?_)
          case e1 => exact one_new rfl
          case e2 => intro u hu; simp at hu; subst hu; rfl
          case e3 => omega
          intro w3 hown hgrow
          have HO3 : Hid (w3.ownsRow w.heap.size 5 1 (.slice (some ⟨wq.heap.size, 0, none⟩) (t + 1 + 1) (j + 1)) (t + 1 + 1) (u8s ((ber n).take (t + 1 + 1)))) := by
            rw [← ber_take_step n t (u - 1) (by rw [← HK.out]; omega) hn]; exact hown
          have HB3 : Hid (Below w.heap.size w w3) := (HB2.out.alloc hb2 _).grown hgrow (by simp; omega) (fun b hb' => by cases hb'; exact hb)
          have HC3 : Hid (∀ i, i < j → w3.cell? ⟨g, i, none⟩ = some (.int .u8 ((dig n i : Nat) : Int))) := fun i hi' => by
            rw [hgrow.cell_far _ (by simp; omega) (by simp; omega), World.cell?_alloc_past _ _ _ (by omega)]
            exact HC2.out i hi'
          have hs3 : wq.heap.size < w3.heap.size := by have := hgrow.size; simp at this; omega
          clear hown hgrow HO2 HB2 HC2 gl
          go_wp2
          go_roundw
          case rel => exact ⟨t + 1, u - 1, by omega, by omega, by go_num, rfl, HO3, HC3, HB3, hs3⟩
          case measure => simp [intOf]; omega
        · have e : t = j := by omega
          subst e
          go_wp2
          go_ret
          have hbl : ber n = (ber n).take (t + 1) := by
            rw [List.take_of_length_le]
            rw [ber_long hn, List.length_cons, be_length, ← HK.out]
            exact Nat.le_refl _
          have hbn : (ber n).length = t + 1 := by rw [ber_long hn, List.length_cons, be_length, ← HK.out]
          refine ⟨wq.heap.size, t + 1, by rw [hbn]; rfl, ?_, HB2.out⟩
          unfold Own
          rw [hbn, hbl]
          exact HO2.out

theorem berLength (n : Nat) (w : World) (hn2 : n < 16777216) :
    Calls Try.prog 9 #[.int .i64 n] w fun e w' => BerEnd n w e w' := by
  by_cases h : n < 128
  · exact berLength_short n w h
  · exact berLength_long n w (by omega) hn2
end Go.Proofs.Qxb6634840a
