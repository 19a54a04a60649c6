/-
  (*Encoder).End.
-/
import Derived.Test.Qxb6634840aEnc
import Derived.Deep.RegionHeld3
namespace Go.Proofs.Qxb6634840a
open Go.RowKit

theorem cut_then {K : Act → World → Prop} {Q : Exit → Act → World → Prop} {a : Act} {w : World} (R : World → Prop) (h : R w) (k : ∀ W, R W → Exit.then K Q .normal a W) : Exit.then K Q .normal a w := k w h

theorem lengthBytes_at (x : Int) (n : Nat) (w : World) (hx : x = n) (hn : n < 16777216) :
    Calls Try.prog 16 #[.int .i64 x] w fun e w' => e = .returned (.int .i64 (lenB n : Nat)) ∧ w = w' := by
  subst hx
  exact lengthBytes n w hn

theorem endB_short (xs : List Int) (s n : Nat) (h1 : 1 ≤ s) (h2 : n + s = xs.length) (h : n < 128) : xs.set (s - 1) (n : Int) = endB xs s := by
  have e1 : xs = xs.take (s - 1) ++ xs.getD (s - 1) 0 :: xs.drop s := by
    have h3 : s - 1 < xs.length := by omega
    have : xs.drop (s - 1) = xs.getD (s - 1) 0 :: xs.drop s := by
      rw [List.drop_eq_getElem_cons h3, show s - 1 + 1 = s by omega]
      congr 1
      simp [List.getD, h3]
    rw [← this, List.take_append_drop]
  have hl : xs.length - s = n := by omega
  unfold endB
  rw [hl, ber_short h]
  conv => lhs; rw [e1]
  rw [set_mid _ _ _ _ _ (by rw [List.length_take]; omega)]
  rfl

theorem moved (xs : List Int) (j s n : Nat) (h : n + s = xs.length) : ∃ mid : List Int, mid.length = j ∧
    (xs ++ List.replicate j 0).take (s + j) ++ (((xs ++ List.replicate j 0).drop s).take n ++ (xs ++ List.replicate j 0).drop (s + j + n)) = xs.take s ++ (mid ++ xs.drop s) := by
  refine ⟨((xs ++ List.replicate j 0).take (s + j)).drop s, by simp; omega, ?_⟩
  have e1 : (xs ++ List.replicate j 0).drop (s + j + n) = [] := by
    apply List.drop_eq_nil_of_le; simp; omega
  have e2 : ((xs ++ List.replicate j 0).drop s).take n = xs.drop s := by
    rw [List.drop_append_of_le_length (by omega), List.take_append_of_le_length (by simp; omega), List.take_of_length_le (by simp; omega)]
  have e3 : (xs ++ List.replicate j 0).take (s + j) = xs.take s ++ ((xs ++ List.replicate j 0).take (s + j)).drop s := by
    have h1 := List.take_append_drop s ((xs ++ List.replicate j 0).take (s + j))
    rw [List.take_take, Nat.min_eq_left (by omega), List.take_append_of_le_length (by omega)] at h1
    exact h1.symm
  rw [e1, e2, List.append_nil]
  conv => lhs; rw [e3]
  rw [List.append_assoc]

theorem moved_len (ys : List Int) (off soff n : Nat) (h1 : off + n ≤ ys.length) (h2 : soff + n ≤ ys.length) : (ys.take off ++ ((ys.drop soff).take n ++ ys.drop (off + n))).length = ys.length := by simp; omega

theorem or_128 (k : Nat) (h1 : 1 ≤ k) (h2 : k ≤ 3) : bits .or .u8 128 (k : Int) = ((128 + k : Nat) : Int) := by
  have : k = 1 ∨ k = 2 ∨ k = 3 := by omega
  rcases this with rfl | rfl | rfl <;> decide +kernel

/-- The header's first octet is written. -/
theorem headed (xs : List Int) (s : Nat) (mid : List Int) (x : Int) (h1 : 1 ≤ s) (h2 : s ≤ xs.length) :
    (xs.take s ++ (mid ++ xs.drop s)).set (s - 1) x = xs.take (s - 1) ++ x :: (mid ++ xs.drop s) := by
  have e : xs.take s = xs.take (s - 1) ++ [xs.getD (s - 1) 0] := by
    have h3 : s - 1 < xs.length := by omega
    have := List.take_succ_eq_append_getElem h3
    rw [show s - 1 + 1 = s by omega] at this
    rw [this]
    simp [List.getD, h3]
  rw [e, List.append_assoc, List.singleton_append, set_mid _ _ _ _ _ (by rw [List.length_take]; omega)]

/-- One digit more is written. -/
theorem digit_set (xs : List Int) (s k n t : Nat) (hd y : Int) (mid : List Int) (h1 : 1 ≤ s) (h2 : s ≤ xs.length) (ht : t < k) (hm : mid.length + t = k) (hy : y = ((dig n (k - 1 - t) : Nat) : Int)) :
    ∃ mid', mid'.length + (t + 1) = k ∧ (xs.take (s - 1) ++ hd :: ((be k n).take t ++ (mid ++ xs.drop s))).set (s + t) y = xs.take (s - 1) ++ hd :: ((be k n).take (t + 1) ++ (mid' ++ xs.drop s)) := by
  match mid, hm with
  | [], hm => simp at hm; omega
  | a :: mid', hm =>
    refine ⟨mid', by simp at hm; omega, ?_⟩
    have e : xs.take (s - 1) ++ hd :: ((be k n).take t ++ (a :: mid' ++ xs.drop s)) = (xs.take (s - 1) ++ hd :: (be k n).take t) ++ a :: (mid' ++ xs.drop s) := by simp
    rw [e, set_mid _ _ _ _ _ (by rw [List.length_append, List.length_cons, List.length_take, List.length_take, be_length]; omega), be_succ_take _ _ _ ht, hy]
    simp

theorem dig_shift (n i : Nat) : (n : Int) / 2 ^ (8 * i) % 256 = ((dig n i : Nat) : Int) := by
  have e : (256 : Nat) ^ i = 2 ^ (8 * i) := by rw [Nat.pow_mul]
  unfold dig
  rw [e]
  simp

/-- End's end. -/
def EndPost (B E h : Nat) (w0 : World) (ys : List Int) (m c : Nat) (e : Ending) (w' : World) : Prop :=
  e = .returned (.tuple #[]) ∧ ∃ g cap, Enc B E h w0 w' g cap ys m c

set_option maxRecDepth 100000 in
set_option maxHeartbeats 2000000 in
theorem endCall (B E h g cap : Nat) (xs : List Int) (L M c : Nat) (hc : Array Value) (s : Nat) (w0 w : World)
    (e : Enc B E h w0 w g cap xs M c) (hh : w0.heap[h]? = some (.cells hc 3 (0, 0))) (hs : hc[M - 1]? = some (.int .i64 s)) (hM : 1 ≤ M) (hMc : M ≤ c) (hcb : c ≤ 131072)
    (h1 : 1 ≤ s) (h2 : s ≤ L) (hL : L ≤ 4194304) (hBE : B ≤ E) (hEh : E ≠ h) (hgh : g ≠ h) (hLx : xs.length = L) :
    Calls Try.prog 11 #[.pointer (some ⟨E, 0, none⟩)] w fun e w' => EndPost B E h w0 (endB xs s) (M - 1) c e w' := by
  have co : w.cell? ⟨E, 1, none⟩ = some (.slice (some ⟨h, 0, none⟩) M c) := e.open
  have ch : w.cell? ⟨h, M - 1, none⟩ = some (.int .i64 s) := by
    have : w.heap[h]? = some (.cells hc 3 (0, 0)) := e.2.2.1.trans hh
    rw [cell_of_row w h (M - 1) hc 3 (0, 0) this]; exact hs
  have fo := e.free 1
  have i1 : (0 : Int) ≤ (M : Int) - 1 := by omega
  have i2 : (M : Int) - 1 < (M : Int) := by omega
  have i3 : (M : Int) - 1 ≤ (c : Int) := by omega
  have HE : Hid (Enc B E h w0 w g cap xs M c) := e
  have HL : Hid (xs.length = L) := hLx
  clear e hLx
  obtain ⟨i0, hi, hz0, hz1, hz2⟩ := info_parts Try.info5
  go_enter Try.func11, Try.ntmps11
  go_wp2_with fail
  go_quiet (fail)
  go_wp2_with fail
  have hwr : IntKind.i64.wrap ((M : Int) - 1) = (M : Int) - 1 := by rw [IntKind.wrap_i64]; omega
  go_region
  refine cut_then (fun W => Enc B E h w0 W g cap xs (M - 1) c) ((HE.out.drewN _).pop hEh hBE _) ?_
  clear HE co ch fo hwr i1 i2 i3
  intro W e
  have cb : W.cell? ⟨E, 0, none⟩ = some (.slice (some ⟨g, 0, none⟩) L cap) := by rw [← HL.out]; exact e.buf
  have HE : Hid (Enc B E h w0 W g cap xs (M - 1) c) := e
  clear e
  obtain ⟨n, hnn⟩ : ∃ n, n = L - s := ⟨_, rfl⟩
  have hn1 : n + s ≤ L := by omega
  have hn2 : L ≤ n + s := by omega
  have HN : Hid (n = L - s) := hnn
  clear hnn
  by_cases hn : n < 128
  · have hlt : s - 1 < xs.length := by rw [HL.out]; omega
    have c1 := HE.out.byte (s - 1) hlt
    have f1 := HE.out.freeB (s - 1)
    have j1 : (0 : Int) ≤ (s : Int) - 1 := by omega
    have j2 : (s : Int) - 1 < (L : Int) := by omega
    go_wp2
    refine bodyPost_ret (results_none rfl _ _ _) rfl ⟨rfl, g, cap, ?_⟩
    have hen := HE.out.put hgh (s - 1) ((L : Int) - (s : Int))
    rw [show (L : Int) - (s : Int) = (n : Int) by omega] at hen ⊢
    rw [endB_short xs s n h1 (by rw [HL.out]; omega) hn] at hen
    exact hen
  · obtain ⟨k, hkk⟩ : ∃ k, k = lenB n := ⟨_, rfl⟩
    have hk := lenB_pos n
    rw [← hkk] at hk
    go_wp2_with fail
    refine (lengthBytes_at _ n _ (by omega) (by omega)).mono ?_
    rw [← hkk]
    rintro e w' ⟨rfl, rfl⟩
    have HK : Hid (k = lenB n) := hkk
    have hhs : h < W.heap.size := lt_of_block (HE.out.2.2.1.trans hh)
    clear hkk
    go_wp2_with fail
    go_loopw [53] (fun i wr => ∃ j g cap : Nat, j ≤ k ∧ i = .int .i64 j ∧ g ≠ h ∧ h < wr.heap.size ∧ Hid (Enc B E h w0 wr g cap (xs ++ List.replicate j 0) (M - 1) c)) (fun i _ => k - (intOf i).toNat)
    case atStart => exact ⟨0, g, cap, Nat.zero_le _, rfl, hgh, hhs, by show Enc B E h w0 W g cap (xs ++ []) (M - 1) c; rw [List.append_nil]; exact HE.out⟩
    case round =>
      clear cb HE
      obtain ⟨j, g1, cap1, hj, rfl, hg1h, hhs1, HE1⟩ := hrel
      have HL1 : Hid ((xs ++ List.replicate j 0).length = L + j) := by show _ = _; rw [List.length_append, List.length_replicate, HL.out]
      have cb1 : wr.cell? ⟨E, 0, none⟩ = some (.slice (some ⟨g1, 0, none⟩) (L + j) cap1) := by rw [← HL1.out]; exact HE1.out.buf
      by_cases hjk : j < k
      · have HO : Hid (wr.ownsRow B 5 1 (.slice (some ⟨g1, 0, none⟩) (L + j) cap1) (L + j) (u8s (xs ++ List.replicate j 0))) := by rw [← HL1.out]; exact HE1.out.2.1
        have hEs := HE1.out.ltE
        go_wp2_with (at_builtin; refine wpList_append_lies _ rfl _ _ 22 rfl B 5 i0 (.int .u8 0) 1 1 Try.underlying22 hi hz0 hz1 hz2 rfl (by decide) _ _ _ rfl (HO.out.alloc _) ⟨wr.heap.size, 0, none⟩ 1 1 [.int .u8 0] rfl rfl ?c1 ?c2 (by decide) ?c3 ?c4 ?c5 _ rfl ?_)
        case c1 => exact one_new rfl
        case c2 => intro u hu; simp at hu; subst hu; rfl
        case c3 => unfold maxLen; omega
        case c4 => omega
        case c5 => simp; omega
        intro g2 cap2 w1 hown hgrow hat _
        have hne : E ≠ g1 := HE1.out.ne
        have c2 : w1.cell? ⟨E, 0, none⟩ = some (.slice (some ⟨g1, 0, none⟩) (L + j) cap1) := by
          rw [hgrow.cell_far _ (by simp; omega) (by simp [Value.ownBlock]; exact hne), World.cell?_alloc_past _ _ _ hEs]; exact cb1
        have f2 : w1.frozen? ⟨E, 0, none⟩ = false := by
          rw [hgrow.frozen_far _ (by simp; omega) (by simp [Value.ownBlock]; exact hne), World.frozen?_alloc_past _ _ _ hEs]; exact HE1.out.free 0
        have hg2h : g2 ≠ h := by
          rcases hat with h' | h'
          · simp [Value.ownBlock] at h'; omega
          · have h'' : g2 = wr.heap.size + 1 := by simpa using h'
            omega
        have hhs2 : h < w1.heap.size := by have := hgrow.size; simp at this; omega
        have HE2 : Hid (Enc B E h w0 (w1.setCell ⟨E, 0, none⟩ (.slice (some ⟨g2, 0, none⟩) (L + j + 1) cap2)) g2 cap2 (xs ++ List.replicate (j + 1) 0) (M - 1) c) := by
          have := HE1.out.grow hBE hEh hg1h hhs1 (w1 := w1) (g' := g2) (cap' := cap2) (x := 0) (by rw [HL1.out]; exact hown) (by rw [HL1.out]; exact hgrow)
          rw [HL1.out, List.append_assoc] at this
          rw [List.replicate_succ']
          exact this
        clear hown hgrow hat HO HE1 cb1 HL1
        go_wp2
        go_roundw
        case rel => exact ⟨j + 1, g2, cap2, by omega, by go_num, hg2h, by simpa using hhs2, HE2⟩
        case measure => simp [intOf]; omega
      · have ejk : j = k := by omega
        subst ejk
        obtain ⟨cur, _, hBg, hyc, hcm, _, _⟩ := HE1.out.row
        rw [HL1.out] at hyc
        have f1 := HE1.out.free 0
        have j1 : (0 : Int) ≤ (s : Int) + (j : Int) := by omega
        have j2 : (s : Int) + (j : Int) ≤ (L : Int) + (j : Int) := by omega
        have j3 : (0 : Int) ≤ (s : Int) := by omega
        have j4 : (s : Int) ≤ (s : Int) + ((L : Int) - (s : Int)) := by omega
        have j5 : (s : Int) + ((L : Int) - (s : Int)) ≤ (cap1 : Int) := by omega
        have q1 : IntKind.i64.wrap ((s : Int) + (j : Int)) = (s : Int) + (j : Int) := by rw [IntKind.wrap_i64]; omega
        have q2 : IntKind.i64.wrap ((s : Int) + ((L : Int) - (s : Int))) = (s : Int) + ((L : Int) - (s : Int)) := by rw [IntKind.wrap_i64]; omega
        have n1 : ¬ cap1 = ((s : Int) + (j : Int)).toNat := by omega
        have n2 : ¬ cap1 = s := by omega
        go_wp2_with fail
        go_region_held3 (fun w' => w'.cell? ⟨E, 0, none⟩ = some (.slice (some ⟨g1, 0, none⟩) (L + j) cap1)) (go_keep)
          ((refine step_copy_enc (by rfl) (.tmp 72) (.tmp 81) (by rfl) HE1.out.drew hg1h ((s : Int) + (j : Int)).toNat s (((s : Int) + ((L : Int) - (s : Int))).toNat - s) (L + j - ((s : Int) + (j : Int)).toNat) (cap1 - ((s : Int) + (j : Int)).toNat) (cap1 - s) (by rfl) (by rfl) (by omega) (by rw [HL1.out]; omega) (by rw [HL1.out]; omega) ?_; intro w2 e2; have cb2 : w2.cell? ⟨E, 0, none⟩ = some (.slice (some ⟨g1, 0, none⟩) (L + j) cap1) := by rw [e2.buf, moved_len _ _ _ _ (by rw [HL1.out]; omega) (by rw [HL1.out]; omega), HL1.out]))
        refine cut_then (fun W => ∃ mid : List Int, mid.length = j ∧ Enc B E h w0 W g1 cap1 (xs.take s ++ (mid ++ xs.drop s)) (M - 1) c) ?_ ?_
        · obtain ⟨mid, hmid, hmv⟩ := moved xs j s n (by rw [HL.out]; omega)
          refine ⟨mid, hmid, ?_⟩
          rw [← hmv, ← show ((s : Int) + (j : Int)).toNat = s + j by omega, ← show ((s : Int) + ((L : Int) - (s : Int))).toNat - s = n by omega]
          exact e2
        clear cb2 e2 HE1 cb1 f1 j1 j2 j3 j4 j5 q1 q2 n1 n2 HL1
        rintro W2 ⟨mid, hmid, e3⟩
        have HL3 : Hid ((xs.take s ++ (mid ++ xs.drop s)).length = L + j) := by
          show _ = _
          rw [List.length_append, List.length_append, List.length_take, List.length_drop, HL.out, hmid]
          omega
        have cb3 : W2.cell? ⟨E, 0, none⟩ = some (.slice (some ⟨g1, 0, none⟩) (L + j) cap1) := by rw [← HL3.out]; exact e3.buf
        have c3 := e3.byte (s - 1) (by rw [HL3.out]; omega)
        have f3 := e3.freeB (s - 1)
        have j1 : (0 : Int) ≤ (s : Int) - 1 := by omega
        have j2 : (s : Int) - 1 < (L : Int) + (j : Int) := by omega
        have HE3 : Hid (Enc B E h w0 W2 g1 cap1 (xs.take s ++ (mid ++ xs.drop s)) (M - 1) c) := e3
        clear e3
        go_wp2_with fail
        have HE4 : Hid (Enc B E h w0 (W2.setCell ⟨g1, s - 1, none⟩ (.int .u8 (128 + (j : Int)))) g1 cap1 (xs.take (s - 1) ++ (128 + (j : Int)) :: ((be j n).take 0 ++ (mid ++ xs.drop s))) (M - 1) c) := by
          have := HE3.out.put hg1h (s - 1) (128 + (j : Int))
          rw [headed xs s mid _ h1 (by rw [HL.out]; exact h2)] at this
          exact this
        clear HE3 c3 f3 cb3 j1 j2 HL3
        go_loopw [5, 94] (fun _ i wr => ∃ (t : Nat) (mid : List Int), t ≤ j ∧ Hid (mid.length + t = j) ∧ i = .int .i64 t ∧ Hid (Enc B E h w0 wr g1 cap1 (xs.take (s - 1) ++ (128 + (j : Int)) :: ((be j n).take t ++ (mid ++ xs.drop s))) (M - 1) c)) (fun _ i _ => j - (intOf i).toNat)
        case atStart => exact ⟨0, mid, Nat.zero_le _, hmid, rfl, HE4⟩
        case round =>
          clear HE4 hmid
          obtain ⟨t, mid1, ht, HM1, rfl, HE5⟩ := hrel
          have HL5 : Hid ((xs.take (s - 1) ++ (128 + (j : Int)) :: ((be j n).take t ++ (mid1 ++ xs.drop s))).length = L + j) := by
            show _ = _
            rw [List.length_append, List.length_cons, List.length_append, List.length_append, List.length_take, List.length_take, List.length_drop, HL.out, be_length]
            have := HM1.out
            omega
          have cb5 : wr.cell? ⟨E, 0, none⟩ = some (.slice (some ⟨g1, 0, none⟩) (L + j) cap1) := by rw [← HL5.out]; exact HE5.out.buf
          by_cases htj : t < j
          · have c5 := HE5.out.byte (s + t) (by rw [HL5.out]; omega)
            have f5 := HE5.out.freeB (s + t)
            have j1 : (0 : Int) ≤ (s : Int) + (t : Int) := by omega
            have j2 : (s : Int) + (t : Int) < (L : Int) + (j : Int) := by omega
            have j3 : (0 : Int) ≤ 8 * ((j : Int) - 1 - (t : Int)) := by omega
            have j4 : 8 * ((j : Int) - 1 - (t : Int)) ≤ 16 := by omega
            obtain ⟨mid2, hm2, hset⟩ := digit_set xs s j n t (128 + (j : Int)) (((L : Int) - (s : Int)) / 2 ^ (8 * (j - 1 - t)) % 256) mid1 h1 (by rw [HL.out]; exact h2) htj HM1.out (by rw [show (L : Int) - (s : Int) = (n : Int) by omega]; exact dig_shift n _)
            have HM2 : Hid (mid2.length + (t + 1) = j) := hm2
            have HS : Hid ((xs.take (s - 1) ++ (128 + (j : Int)) :: ((be j n).take t ++ (mid1 ++ xs.drop s))).set (s + t) (((L : Int) - (s : Int)) / 2 ^ (8 * (j - 1 - t)) % 256) = xs.take (s - 1) ++ (128 + (j : Int)) :: ((be j n).take (t + 1) ++ (mid2 ++ xs.drop s))) := hset
            clear hm2 hset
            go_wp2_with fail
            go_region
            go_wp2_with fail
            go_roundw
            case rel =>
              refine ⟨t + 1, mid2, by omega, HM2, by go_num, ?_⟩
              have := (HE5.out.put hg1h (s + t) (((L : Int) - (s : Int)) / 2 ^ (8 * (j - 1 - t)) % 256)).drew
              rw [HS.out] at this
              exact this
            case measure => simp [intOf]; omega
          · have etj : t = j := by omega
            subst etj
            have hmid : mid1 = [] := List.eq_nil_of_length_eq_zero (by have := HM1.out; omega)
            have HF : Hid (xs.take (s - 1) ++ (128 + (t : Int)) :: ((be t n).take t ++ (mid1 ++ xs.drop s)) = endB xs s) := by
              show _ = _
              unfold endB
              rw [hmid, be_take_all, HL.out, ← HN.out, ber_long (by omega), ← HK.out]
              simp
            clear hmid
            go_wp2
            refine bodyPost_end (results_none rfl _ _ _) rfl ⟨rfl, g1, cap1, ?_⟩
            rw [← HF.out]
            exact HE5.out
end Go.Proofs.Qxb6634840a
