/-
  THE WALK of FnEndWritesBERLength, its main way.
-/
import Derived.Test.Qxb6634840aHeadA
namespace Go.Proofs.Qxb6634840a
open Go.RowKit

theorem berLength_at (x : Int) (n : Nat) (w : World) (hx : x = n) (hn2 : n < 16777216) :
    Calls Try.prog 9 #[.int .i64 x] w fun e w' => BerEnd n w e w' := by
  subst hx
  exact berLength n w hn2

theorem make8 (L : Nat) (hL : L ≤ 1048576) (w : World) : (Instr.makeSlice 22 (.int .i64 0) (.int .i64 ((L : Int) + 8))).run Try.prog w = .ok (.slice (some ⟨w.heap.size, 0, none⟩) 0 (L + 8)) (w.alloc (.cells (madeCells #[.int .u8 0] (L + 8)) 5)) := by
  obtain ⟨i0, hi, hz0, hz1, hz2⟩ := info_parts Try.info5
  have h := run_make (P := Try.prog) w 22 5 i0 (.int .u8 0) Try.underlying22 hi hz0 .i64 .i64 0 ((L : Int) + 8) (by omega) (by omega) (by rw [hz2]; omega) (by omega)
  rw [hz1, show ((L : Int) + 8).toNat = L + 8 by omega, Nat.mul_one] at h
  exact h

/-- 'want', so far: the row at block B of the world W1's end. -/
def Wt (B : Nat) (W1 wr : World) (ys : List Int) (k cap : Nat) : Prop := wr.ownsRow B 5 1 (.slice (some ⟨B, 0, none⟩) k cap) k (u8s ys) ∧ Below B W1 wr

theorem Wt.made (W1 : World) (L : Nat) (hL : L ≤ 1048576) : Wt W1.heap.size W1 (W1.alloc (.cells (madeCells #[.int .u8 0] (L + 8)) 5)) [] 0 (L + 8) :=
  ⟨World.ownsRow_made W1 _ _ (Nat.le_refl _) (by unfold maxLen; omega) (by simp [madeCells]), (Below.refl _ _).alloc (Nat.le_refl _) _⟩

theorem Wt.below {B : Nat} {W1 wr w' : World} {ys : List Int} {k cap : Nat} (h : Wt B W1 wr ys k cap) (hb : Below wr.heap.size wr w') : Wt B W1 w' ys k cap := by
  have hs : B < wr.heap.size := (h.1.lt B rfl).2
  refine ⟨⟨h.1.1, ?_⟩, h.2.trans (hb.mono (by omega))⟩
  rcases h.1.2 with h' | ⟨g, cap', cur, hv, hbg, hg, r⟩
  · exact .inl h'
  · refine .inr ⟨g, cap', cur, hv, hbg, ?_, r⟩
    rw [hb.block g (lt_of_block hg)]; exact hg

theorem own_cells {B : Nat} {w : World} {g cap : Nat} {xs : List Int} (h : Own B w (some ⟨g, 0, none⟩) xs cap) : B ≤ g ∧ g < w.heap.size ∧ ∀ i, i < xs.length → w.cell? ⟨g, i, none⟩ = some (.int .u8 (xs.getD i 0)) := by
  have hl := World.ownsRow.lt h g rfl
  exact ⟨hl.1, hl.2, fun i hi => by rw [World.ownsRow.cellAt h i (by omega), u8s_get _ _ hi]⟩

theorem take_step (xs : List Int) (j : Nat) (h : j < xs.length) : xs.take (j + 1) = xs.take j ++ [xs.getD j 0] := by
  rw [List.take_succ_eq_append_getElem h]
  simp [List.getD, h]

theorem Wt.app {B : Nat} {W1 wr w1 : World} {ys : List Int} {k cap : Nat} {ob : Obj} {x : Int} (h : Wt B W1 wr ys k cap)
    (hown : w1.ownsRow B 5 1 (.slice (some ⟨B, 0, none⟩) (k + 1) cap) (k + 1) (u8s ys ++ [.int .u8 x])) (hgrow : (wr.alloc ob).grownBy w1 (some B)) : Wt B W1 w1 (ys ++ [x]) (k + 1) cap := by
  have hs : B < wr.heap.size := (h.1.lt B rfl).2
  refine ⟨?_, (h.2.alloc (by omega) ob).grown hgrow (by simp; omega) (fun k hk => by cases hk; exact Nat.le_refl _)⟩
  rw [u8s_append]; exact hown

/-- What the comparing loops read. -/
def Fin (G L M : Nat) (V O : Nat → Int) (B LW : Nat) (ys : List Int) (h g : Nat) (w : World) : Prop :=
  Cl G L M V O w ∧ (∀ i, i < LW → w.cell? ⟨B, i, none⟩ = some (.int .u8 (ys.getD i 0))) ∧ (∀ i, i < LW → w.cell? ⟨g, i, none⟩ = some (.int .u8 (ys.getD i 0))) ∧ ∀ i, i < M → w.cell? ⟨h, i, none⟩ = some (.int .i64 (O i))

theorem after_end {G L M : Nat} {V O : Nat → Int} {B LW cap : Nat} {W1 wb w5 : World} {ys : List Int} {g2 cap2 m : Nat} (hcl : Cl G L M V O wb) (hw : Wt B W1 wb ys LW cap) (hl : ys.length = LW)
    (e : Enc wb.heap.size (wb.heap.size + 1 + 1) (wb.heap.size + 1)
      (((wb.alloc (.cells (Cp (.int .u8 0) (fun i => .int .u8 (V i)) L L) 5)).alloc (.cells (Cp (.int .i64 0) (fun i => .int .i64 (O i)) M M) 3)).alloc (.cells #[.slice (some ⟨wb.heap.size, 0, none⟩) L L, .slice (some ⟨wb.heap.size + 1, 0, none⟩) M M] 35)) w5 g2 cap2 ys m M) :
    Fin G L M V O B LW ys (wb.heap.size + 1) g2 w5 ∧ Below wb.heap.size wb w5 := by
  have hb : Below wb.heap.size wb w5 := ((((Below.refl _ wb).alloc (Nat.le_refl _) _).alloc (by simp) _).alloc (by simp; omega) _).trans e.2.2.2
  have hs : B < wb.heap.size := (hw.1.lt B rfl).2
  refine ⟨⟨hcl.below hb, fun i hi => ?_, fun i hi => e.byte i (by omega), fun i hi => ?_⟩, hb⟩
  · rw [hb.cell (p := ⟨B, i, none⟩) hs, hw.1.cellAt i (by omega), u8s_get _ _ (by omega)]
  · have h1 := e.2.2.1.trans (made_open wb L M V O _)
    rw [cell_of_row w5 _ i _ 3 (0, 0) h1, Cp_get _ _ _ _ _ hi, if_pos hi]

set_option maxRecDepth 100000 in
set_option maxHeartbeats 4000000 in
theorem endWrites_main (b o L c0 : Nat) (V : Nat → Int) (b1 o1 M c1 : Nat) (O : Nat → Int) (w : World)
    (m0 : L ≤ 1048576) (m1 : M ≤ 131072) (m2 : L + 8 * M ≤ 1048576) (hL0 : 0 < L) (hM0 : 0 < M)
    (hc : ∀ i, i < L → w.cell? ⟨b, o + i, none⟩ = some (.int .u8 (V i)))
    (hc1 : ∀ i, i < M → w.cell? ⟨b1, o1 + i, none⟩ = some (.int .i64 (O i))) :
    Calls Try.prog 3 #[.slice (some ⟨b, o, none⟩) L c0, .slice (some ⟨b1, o1, none⟩) M c1] w fun e w' => e = .returned (.bool true) ∧ Below w.heap.size w w' := by
  obtain ⟨i0, hi, hz0, hz1, hz2⟩ := info_parts Try.info5
  have n0 : L ≤ maxLen := by unfold maxLen; omega
  have n1 : M ≤ maxLen := by unfold maxLen; omega
  have hb1 : b1 < w.heap.size := World.block_lt_of_cell? _ _ (hc1 0 hM0)
  have HC : Hid (∀ i, i < L → w.cell? ⟨b, o + i, none⟩ = some (.int .u8 (V i))) := hc
  have HC1 : Hid (∀ i, i < M → w.cell? ⟨b1, o1 + i, none⟩ = some (.int .i64 (O i))) := hc1
  clear hc hc1
  go_enter Try.func3, Try.ntmps3
  go_wp2_with fail
  refine (bytes5 _ _ _ _ _ _ _ n0 n1).mono ?_
  rintro e w' ⟨r, rfl, rfl⟩
  cases r
  · go_wp2
    go_ret
    exact ⟨rfl, Below.refl _ _⟩
  go_wp2_with fail
  refine (reachable _ L c0 b1 o1 M c1 O _ m0 m1 hM0 HC1.out).mono ?_
  rintro e w' ⟨r, q, rfl, rfl, hR⟩
  cases r
  · go_wp2
    go_ret
    exact ⟨rfl, below_drewN (Below.refl _ _) q⟩
  have HR : Hid (Rch O L M) := hR rfl
  clear hR
  go_wp2_with fail
  refine (cloneB b o L c0 V _ m0 hL0 (by exact HC.out)).mono ?_
  rintro e w2 ⟨rfl, rfl⟩
  go_wp2_with fail
  refine (cloneI b1 o1 M c1 O _ m1 hM0 (by intro i hi'; rw [World.cell?_alloc_past _ _ _ (by simpa using hb1)]; exact HC1.out i hi')).mono ?_
  rintro e W1 ⟨rfl, hW1⟩
  have HCl : Hid (Cl w.heap.size L M V O W1) := by rw [hW1]; exact Cl.made (w.drewN q) L M V O
  have HB1 : Hid (Below w.heap.size w W1) := by
    rw [hW1]
    exact ((below_drewN (Below.refl _ _) q).alloc (by simp) _).alloc (by simp) _
  clear hW1
  have hs1 : w.heap.size + 1 < W1.heap.size := HCl.out.2.2
  obtain ⟨r1, r2, _⟩ := HR.out (M - 1) (by omega)
  obtain ⟨s, hs⟩ : ∃ s : Nat, O (M - 1) = s := ⟨(O (M - 1)).toNat, by omega⟩
  rw [hs] at r1 r2
  have cO : W1.cell? ⟨w.heap.size + 1, M - 1, none⟩ = some (.int .i64 (s : Int)) := by rw [← hs]; exact HCl.out.2.1 (M - 1) (by omega)
  have HO : Hid (O (M - 1) = (s : Int)) := hs
  clear hs
  have h1 : 1 ≤ s := by omega
  have h2 : s ≤ L := by omega
  obtain ⟨n, hn⟩ : ∃ n, n = L - s := ⟨_, rfl⟩
  have hn1 : n + s ≤ L := by omega
  have hn2 : L ≤ n + s := by omega
  have HN : Hid (n = L - s) := hn
  clear hn r1 r2
  have hmk := make8 L m0
  have i1 : (0 : Int) ≤ (M : Int) - 1 := by omega
  have i2 : (M : Int) - 1 < (M : Int) := by omega
  go_wp2_with fail
  go_loopw [8, 9] (fun v i wr => ∃ j : Nat, j ≤ s - 1 ∧ i = .int .i64 j ∧ v = .slice (some ⟨W1.heap.size, 0, none⟩) j (L + 8) ∧ Hid (Wt W1.heap.size W1 wr ((lst V L).take j) j (L + 8))) (fun _ i _ => s - (intOf i).toNat)
  case atStart => exact ⟨0, Nat.zero_le _, rfl, rfl, Wt.made W1 L m0⟩
  case round =>
    clear hmk cO i1 i2
    obtain ⟨j, hj, rfl, rfl, HW⟩ := hrel
    have hws : W1.heap.size < wr.heap.size := (HW.out.1.lt _ rfl).2
    by_cases hjs : j < s - 1
    · have cV : wr.cell? ⟨w.heap.size, j, none⟩ = some (.int .u8 (V j)) := (HCl.out.below HW.out.2).1 j (by omega)
      go_wp2_with (at_builtin; refine wpList_append_fits _ rfl _ _ 22 rfl W1.heap.size 5 i0 1 Try.underlying22 hi hz1 W1.heap.size j (L + 8) (u8s ((lst V L).take j)) rfl (HW.out.1.alloc _) ⟨wr.heap.size, 0, none⟩ 1 1 [.int .u8 (V j)] rfl rfl ?c1 ?c2 ?c3 ?_)
      case c1 => exact one_new rfl
      case c2 => intro u hu; simp at hu; subst hu; rfl
      case c3 => omega
      intro w3 hown hgrow
      have HW3 : Hid (Wt W1.heap.size W1 w3 ((lst V L).take (j + 1)) (j + 1) (L + 8)) := by rw [lst_take V L j (by omega)]; exact HW.out.app hown hgrow
      clear hown hgrow HW cV
      go_wp2
      go_roundw
      case rel => exact ⟨j + 1, by omega, by go_num, rfl, HW3⟩
      case measure => simp [intOf]; omega
    · have ej : j = s - 1 := by omega
      subst ej
      obtain ⟨wa, hwa⟩ : ∃ wa, wa = wr := ⟨wr, rfl⟩
      subst hwa
      go_wp2_with fail
      refine (berLength_at _ n _ (by omega) (by omega)).mono ?_
      rintro e w4 ⟨gh, caph, rfl, hown, hbel⟩
      obtain ⟨hg1, hg2, hcl⟩ := own_cells hown
      obtain ⟨kb, hkb⟩ : ∃ kb, kb = (ber n).length := ⟨_, rfl⟩
      have hk := ber_length n
      rw [← hkb] at hk hcl ⊢
      have HW4 : Hid (Wt W1.heap.size W1 w4 ((lst V L).take (s - 1) ++ (ber n).take 0) (s - 1 + 0) (L + 8)) := by
        show Wt _ _ _ (_ ++ []) _ _
        rw [List.append_nil]
        exact HW.out.below hbel
      have HH : Hid (∀ i, i < kb → w4.cell? ⟨gh, i, none⟩ = some (.int .u8 ((ber n).getD i 0))) := hcl
      have HK : Hid (kb = (ber n).length) := hkb
      clear hown hbel hcl hkb HW
      go_wp2_with fail
      go_loopw [8, 11] (fun v i wr => ∃ j : Nat, j ≤ kb ∧ i = .int .i64 j ∧ v = .slice (some ⟨W1.heap.size, 0, none⟩) (s - 1 + j) (L + 8) ∧ gh < wr.heap.size ∧ Hid (Wt W1.heap.size W1 wr ((lst V L).take (s - 1) ++ (ber n).take j) (s - 1 + j) (L + 8)) ∧ Hid (∀ i, i < kb → wr.cell? ⟨gh, i, none⟩ = some (.int .u8 ((ber n).getD i 0)))) (fun _ i _ => kb - (intOf i).toNat)
      case atStart => exact ⟨0, Nat.zero_le _, rfl, rfl, hg2, HW4, HH⟩
      case round =>
        clear HW4 HH
        obtain ⟨j, hjk, rfl, rfl, hg3, HW5, HH5⟩ := hrel
        by_cases hj2 : j < kb
        · have cH := HH5.out j hj2
          go_wp2_with (at_builtin; refine wpList_append_fits _ rfl _ _ 22 rfl W1.heap.size 5 i0 1 Try.underlying22 hi hz1 W1.heap.size (s - 1 + j) (L + 8) (u8s ((lst V L).take (s - 1) ++ (ber n).take j)) rfl (HW5.out.1.alloc _) ⟨wr.heap.size, 0, none⟩ 1 1 [.int .u8 ((ber n).getD j 0)] rfl rfl ?d1 ?d2 ?d3 ?_)
          case d1 => exact one_new rfl
          case d2 => intro u hu; simp at hu; subst hu; rfl
          case d3 => omega
          intro w3 hown hgrow
          have HW3 : Hid (Wt W1.heap.size W1 w3 ((lst V L).take (s - 1) ++ (ber n).take (j + 1)) (s - 1 + (j + 1)) (L + 8)) := by
            rw [take_step _ j (by rw [← HK.out]; exact hj2), ← List.append_assoc]; exact HW5.out.app hown hgrow
          have HH3 : Hid (∀ i, i < kb → w3.cell? ⟨gh, i, none⟩ = some (.int .u8 ((ber n).getD i 0))) := fun i hi' => by
            rw [hgrow.cell_far _ (by simp; omega) (by simp; omega), World.cell?_alloc_past _ _ _ hg3]
            exact HH5.out i hi'
          have hg4 : gh < w3.heap.size := by have := hgrow.size; simp at this; omega
          clear hown hgrow HW5 HH5 cH
          go_wp2
          go_roundw
          case rel => exact ⟨j + 1, by omega, by go_num, rfl, hg4, HW3, HH3⟩
          case measure => simp [intOf]; omega
        · have ej : j = kb := by omega
          subst ej
          clear HH5
          have HW6 : Hid (Wt W1.heap.size W1 wr ((lst V L).take (s - 1) ++ (ber n ++ ((lst V L).drop s).take 0)) (s - 1 + j + 0) (L + 8)) := by
            show Wt _ _ _ (_ ++ (_ ++ [])) _ _
            have := HW5.out
            rw [List.take_of_length_le (l := ber n) (by rw [← HK.out]; exact Nat.le_refl _)] at this
            rw [List.append_nil]
            exact this
          clear HW5
          go_wp2_with fail
          go_loopw [8, 12] (fun v i wr => ∃ t : Nat, t ≤ n ∧ i = .int .i64 ((s + t : Nat) : Int) ∧ v = .slice (some ⟨W1.heap.size, 0, none⟩) (s - 1 + j + t) (L + 8) ∧ Hid (Wt W1.heap.size W1 wr ((lst V L).take (s - 1) ++ (ber n ++ ((lst V L).drop s).take t)) (s - 1 + j + t) (L + 8))) (fun _ i _ => L - (intOf i).toNat)
          case atStart => exact ⟨0, Nat.zero_le _, rfl, rfl, HW6⟩
          case round =>
            clear HW6
            obtain ⟨t, ht, rfl, rfl, HW7⟩ := hrel
            have hws7 : W1.heap.size < wr.heap.size := (HW7.out.1.lt _ rfl).2
            by_cases htn : t < n
            · have cV : wr.cell? ⟨w.heap.size, s + t, none⟩ = some (.int .u8 (V (s + t))) := (HCl.out.below HW7.out.2).1 (s + t) (by omega)
              go_wp2_with (at_builtin; refine wpList_append_fits _ rfl _ _ 22 rfl W1.heap.size 5 i0 1 Try.underlying22 hi hz1 W1.heap.size (s - 1 + j + t) (L + 8) (u8s ((lst V L).take (s - 1) ++ (ber n ++ ((lst V L).drop s).take t))) rfl (HW7.out.1.alloc _) ⟨wr.heap.size, 0, none⟩ 1 1 [.int .u8 (V (s + t))] rfl rfl ?e1 ?e2 ?e3 ?_)
              case e1 => exact one_new rfl
              case e2 => intro u hu; simp at hu; subst hu; rfl
              case e3 => omega
              intro w3 hown hgrow
              have HW3 : Hid (Wt W1.heap.size W1 w3 ((lst V L).take (s - 1) ++ (ber n ++ ((lst V L).drop s).take (t + 1))) (s - 1 + j + (t + 1)) (L + 8)) := by
                rw [lst_drop V L s t (by omega), ← List.append_assoc, ← List.append_assoc, List.append_assoc ((lst V L).take (s - 1))]; exact HW7.out.app hown hgrow
              clear hown hgrow HW7 cV
              go_wp2
              go_roundw
              case rel => exact ⟨t + 1, by omega, by go_num, rfl, HW3⟩
              case measure => simp [intOf]; omega
            · have et : t = n := by omega
              subst et
              have HW8 : Hid (Wt W1.heap.size W1 wr (endB (lst V L) s) (s - 1 + j + t) (L + 8)) := by
                have := HW7.out
                rw [List.take_of_length_le (l := (lst V L).drop s) (by rw [List.length_drop, lst_length]; omega)] at this
                unfold endB
                rw [lst_length, ← HN.out]
                exact this
              have HLW : Hid ((endB (lst V L) s).length = s - 1 + j + t) := by
                show _ = _
                have := endB_length (lst V L) s h1 (by rw [lst_length]; exact h2)
                rw [lst_length, ← HN.out, ← HK.out] at this
                omega
              clear HW7
              obtain ⟨wb, hwb⟩ : ∃ wb, wb = wr := ⟨wr, rfl⟩
              subst hwb
              have HCb : Hid (Cl w.heap.size L M V O wb) := HCl.out.below HW8.out.2
              have HBb : Hid (Below w.heap.size w wb) := HB1.out.trans (HW8.out.2.mono (by omega))
              go_wp2_with fail
              refine (cloneB w.heap.size 0 L L V _ m0 hL0 (by intro i hi'; rw [Nat.zero_add]; exact HCb.out.1 i hi')).mono ?_
              rintro e w3 ⟨rfl, rfl⟩
              go_wp2_with fail
              refine (cloneI (w.heap.size + 1) 0 M M O _ m1 hM0 (by intro i hi'; rw [Nat.zero_add, World.cell?_alloc_past _ _ _ HCb.out.2.2]; exact HCb.out.2.1 i hi')).mono ?_
              rintro e w3 ⟨rfl, rfl⟩
              go_wp2_with fail
              refine (newEnc _ _ _ _ _ _ _).mono ?_
              rintro e w3 ⟨rfl, rfl⟩
              go_wp2_with fail
              refine (endCall wb.heap.size (wb.heap.size + 1 + 1) (wb.heap.size + 1) wb.heap.size L (lst V L) L M M (Cp (.int .i64 0) (fun i => .int .i64 (O i)) M M) s _ _ (Enc.made wb L M V O n0) (made_open wb L M V O _) (by rw [Cp_get _ _ _ _ _ (by omega), if_pos (by omega), HO.out]) hM0 (Nat.le_refl _) m1 h1 h2 (by omega) (by omega) (by omega) (by omega) (lst_length V L)).mono ?_
              rintro e w5 ⟨rfl, g2, cap2, e5⟩
              obtain ⟨LW, hLW⟩ : ∃ LW, LW = s - 1 + j + t := ⟨_, rfl⟩
              rw [← hLW]
              have HL5 : Hid ((endB (lst V L) s).length = LW) := by rw [hLW]; exact HLW.out
              have hlw : LW ≤ 1048600 := by omega
              have F := after_end HCb.out (by rw [hLW]; exact HW8.out) HL5.out e5
              have HF : Hid (Fin w.heap.size L M V O W1.heap.size LW (endB (lst V L) s) (wb.heap.size + 1) g2 w5) := F.1
              have HB5 : Hid (Below w.heap.size w w5) := HBb.out.trans (F.2.mono (by have := HBb.out.size; omega))
              have cb : w5.cell? ⟨wb.heap.size + 1 + 1, 0, none⟩ = some (.slice (some ⟨g2, 0, none⟩) LW cap2) := by rw [← HL5.out]; exact e5.buf
              have co := e5.open
              clear F e5 hLW HLW HW8 HCb HBb
              go_wp2_with fail
              refine (encBuf _ _ _ cb).mono ?_
              rintro e w6 ⟨rfl, rfl⟩
              go_wp2_with fail
              refine (encOpen _ _ _ co).mono ?_
              rintro e w6 ⟨rfl, rfl⟩
              go_wp2_with fail
              clear cb co HK HN HO HR HCl HB1
              go_loopw [16] (fun i wr => ∃ k q : Nat, k ≤ LW ∧ i = .int .i64 k ∧ wr = w5.drewN q) (fun i _ => LW - (intOf i).toNat)
              case atStart => exact ⟨0, 0, Nat.zero_le _, rfl, rfl⟩
              case round =>
                obtain ⟨k, q, hk, rfl, rfl⟩ := hrel
                by_cases hkl : k < LW
                · obtain ⟨y, c1, c2⟩ : ∃ y, w5.cell? ⟨W1.heap.size, k, none⟩ = some (.int .u8 y) ∧ w5.cell? ⟨g2, k, none⟩ = some (.int .u8 y) := ⟨_, HF.out.2.1 k hkl, HF.out.2.2.1 k hkl⟩
                  have i1 : (0 : Int) ≤ (k : Int) := by omega
                  have i2 : (k : Int) < (LW : Int) := by omega
                  go_wp2_with fail
                  go_quiet (fail)
                  go_wp2
                  go_roundw
                  case rel => exact ⟨k + 1, _, by omega, by go_num, rfl⟩
                  case measure => simp [intOf]; omega
                · go_wp2_with fail
                  go_loopw [17] (fun i wr => ∃ k q : Nat, k ≤ M - 1 ∧ i = .int .i64 k ∧ wr = w5.drewN q) (fun i _ => M - (intOf i).toNat)
                  case atStart => exact ⟨0, _, Nat.zero_le _, rfl, rfl⟩
                  case round =>
                    obtain ⟨k2, q2, hk2, rfl, rfl⟩ := hrel
                    by_cases hkm : k2 < M - 1
                    · have c1 := HF.out.2.2.2 k2 (by omega)
                      have c2 := HF.out.1.2.1 k2 (by omega)
                      have i1 : (0 : Int) ≤ (k2 : Int) := by omega
                      have i2 : (k2 : Int) < ((M - 1 : Nat) : Int) := by omega
                      have i3 : (k2 : Int) < (M : Int) := by omega
                      go_wp2_with fail
                      go_quiet (fail)
                      go_wp2
                      go_roundw
                      case rel => exact ⟨k2 + 1, _, by omega, by go_num, rfl⟩
                      case measure => simp [intOf]; omega
                    · go_wp2
                      go_ret
                      exact ⟨rfl, below_drewN HB5.out q2⟩
end Go.Proofs.Qxb6634840a
