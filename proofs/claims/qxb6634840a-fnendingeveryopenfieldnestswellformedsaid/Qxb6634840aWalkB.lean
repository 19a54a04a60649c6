/-
  THE WALK of FnEndingEveryOpenFieldNestsWellFormed, its main way.
-/
import Derived.Test.Qxb6634840aHeadB
namespace Go.Proofs.Qxb6634840a
open Go.RowKit

/-- What a round of the reading loop needs. -/
theorem round_facts {S : Nat → Nat} {L M N t k pp : Nat} {xs F : List Int} {V : Nat → Int} (hO : Ord S L M) (hXL : xs.length = L) (hXV : ∀ i, i < L → xs.getD i 0 = V i) (hN : N = F.length) (ht : t < M) (hk : M - t = k + 1) (hpp : pp ≤ N)
    (hG : F.drop pp = Gk xs S M (M - t)) :
    ∃ c hb s bb : Nat, hb = (ber c).length ∧ 1 ≤ hb ∧ hb ≤ 4 ∧ s = S t ∧ 1 ≤ s ∧ s ≤ bb ∧ bb ≤ L ∧ pp + hb + c ≤ N ∧ N ≤ pp + hb + c ∧ bb - s ≤ c ∧ (∀ i, i < (ber c).length → F.getD (pp + i) 0 = (ber c).getD i 0) ∧
      (∀ x, x < bb - s → F.getD (pp + hb + x) 0 = V (s + x)) ∧ F.drop (pp + hb + (bb - s)) = Gk xs S M (M - (t + 1)) ∧ ((t + 1 < M ∧ bb + 1 ≤ S (t + 1) ∧ S (t + 1) ≤ bb + 1) ∨ (M ≤ t + 1 ∧ bb ≤ L ∧ L ≤ bb)) := by
  subst hXL
  have et : M - (k + 1) = t := by omega
  have h1 := (hO t ht).1
  have h2 := S_le_bk hO k (by omega)
  have h3 := bk_le hO k (by omega)
  rw [et] at h2
  rw [hk, Gk_succ] at hG
  have hl := drop_len hG (by omega)
  have hC : Ck xs S M k = (xs.take (bk xs.length S M k)).drop (S t) ++ Gk xs S M k := by unfold Ck; rw [et]
  have hseg := seg_len (s := S t) h3
  have hcl : (Ck xs S M k).length = (bk xs.length S M k - S t) + (Gk xs S M k).length := by rw [hC, List.length_append, hseg]
  have hbl := ber_length (Ck xs S M k).length
  have hq : F.drop (pp + (ber (Ck xs S M k).length).length) = (xs.take (bk xs.length S M k)).drop (S t) ++ Gk xs S M k := (drop_more hG rfl).trans hC
  refine ⟨(Ck xs S M k).length, (ber (Ck xs S M k).length).length, S t, bk xs.length S M k, rfl, hbl.1, hbl.2, rfl, h1, h2, h3, by omega, by omega, by omega, fun i hi => at_drop hG hi, fun x hx => ?_, ?_, ?_⟩
  · rw [at_drop hq (by omega), seg_get h3 (by omega)]
    exact hXV _ (by omega)
  · rw [drop_more hq hseg, show M - (t + 1) = k by omega]
  · cases k with
    | zero => exact .inr ⟨by omega, h3, Nat.le_refl _⟩
    | succ k' =>
      left
      have e2 : M - (k' + 1) = t + 1 := by omega
      have hb2 : bk xs.length S M (k' + 1) = S (t + 1) - 1 := by
        show S (M - (k' + 1)) - 1 = _
        rw [e2]
      have := (hO (t + 1) (by omega)).1
      exact ⟨by omega, by omega, by omega⟩

set_option maxRecDepth 100000 in
set_option maxHeartbeats 4000000 in
theorem nests_main (b o L c0 : Nat) (V : Nat → Int) (b1 o1 M c1 : Nat) (O : Nat → Int) (w : World)
    (m0 : L ≤ 1048576) (m1 : M ≤ 131072) (m2 : L + 8 * M ≤ 1048576) (hL0 : 0 < L) (hM0 : 0 < M)
    (hc : ∀ i, i < L → w.cell? ⟨b, o + i, none⟩ = some (.int .u8 (V i)))
    (hc1 : ∀ i, i < M → w.cell? ⟨b1, o1 + i, none⟩ = some (.int .i64 (O i))) :
    Calls Try.prog 4 #[.slice (some ⟨b, o, none⟩) L c0, .slice (some ⟨b1, o1, none⟩) M c1] w fun e w' => e = .returned (.bool true) ∧ Below w.heap.size w w' := by
  have n0 : L ≤ maxLen := by unfold maxLen; omega
  have n1 : M ≤ maxLen := by unfold maxLen; omega
  have hb1 : b1 < w.heap.size := World.block_lt_of_cell? _ _ (hc1 0 hM0)
  have HC : Hid (∀ i, i < L → w.cell? ⟨b, o + i, none⟩ = some (.int .u8 (V i))) := hc
  have HC1 : Hid (∀ i, i < M → w.cell? ⟨b1, o1 + i, none⟩ = some (.int .i64 (O i))) := hc1
  clear hc hc1
  go_enter Try.func4, Try.ntmps4
  go_wp2_with fail
  refine (bytes14 _ _ _ _ _ _ _ n0 n1).mono ?_
  rintro e w' ⟨r, rfl, rfl⟩
  cases r
  · go_wp2
    go_ret
    exact ⟨rfl, Below.refl _ _⟩
  go_wp2_with fail
  refine (reachable _ L c0 b1 o1 M c1 O _ m0 m1 hM0 HC1.out).mono ?_
  rintro e w' ⟨r, q, rfl, rfl, hR⟩
  cases r
  · go_wp2
    go_ret
    exact ⟨rfl, below_drewN (Below.refl _ _) q⟩
  have HR : Hid (Rch O L M) := hR rfl
  clear hR
  go_wp2_with fail
  refine (cloneB b o L c0 V _ m0 hL0 (by exact HC.out)).mono ?_
  rintro e w2 ⟨rfl, rfl⟩
  go_wp2_with fail
  refine (cloneI b1 o1 M c1 O _ m1 hM0 (by intro i hi'; rw [World.cell?_alloc_past _ _ _ (by simpa using hb1)]; exact HC1.out i hi')).mono ?_
  rintro e W1 ⟨rfl, hW1⟩
  have HCl : Hid (Cl w.heap.size L M V O W1) := by rw [hW1]; exact Cl.made (w.drewN q) L M V O
  have HB1 : Hid (Below w.heap.size w W1) := by
    rw [hW1]
    exact ((below_drewN (Below.refl _ _) q).alloc (by simp) _).alloc (by simp) _
  clear hW1 HC HC1
  have hs1 : w.heap.size + 1 < W1.heap.size := HCl.out.2.2
  go_wp2_with fail
  refine (cloneB w.heap.size 0 L L V _ m0 hL0 (by intro i hi'; rw [Nat.zero_add]; exact HCl.out.1 i hi')).mono ?_
  rintro e w3 ⟨rfl, rfl⟩
  go_wp2_with fail
  refine (cloneI (w.heap.size + 1) 0 M M O _ m1 hM0 (by intro i hi'; rw [Nat.zero_add, World.cell?_alloc_past _ _ _ HCl.out.2.2]; exact HCl.out.2.1 i hi')).mono ?_
  rintro e w3 ⟨rfl, rfl⟩
  go_wp2_with fail
  refine (newEnc _ _ _ _ _ _ _).mono ?_
  rintro e w0 ⟨rfl, hw0⟩
  have HE0 : Hid (Enc W1.heap.size (W1.heap.size + 1 + 1) (W1.heap.size + 1) w0 w0 W1.heap.size L (lst V L) M M) := by rw [hw0]; exact Enc.made W1 L M V O n0
  have HH0 : Hid (w0.heap[W1.heap.size + 1]? = some (.cells (Cp (.int .i64 0) (fun i => .int .i64 (O i)) M M) 3 (0, 0))) := by rw [hw0]; exact made_open W1 L M V O _
  have HB0 : Hid (Below W1.heap.size W1 w0) := by
    rw [hw0]
    exact (((Below.refl _ W1).alloc (Nat.le_refl _) _).alloc (by simp) _).alloc (by simp; omega) _
  clear hw0
  obtain ⟨S, hS⟩ : ∃ S, S = nat O := ⟨_, rfl⟩
  have HO : Hid (∀ i, i < M → O i = ((S i : Nat) : Int)) := fun i hi => by rw [hS]; exact nat_eq HR.out i hi
  have HOrd : Hid (Ord S L M) := by rw [hS]; exact nat_ord HR.out
  obtain ⟨xs, hxs⟩ : ∃ xs, xs = lst V L := ⟨_, rfl⟩
  have HXL : Hid (xs.length = L) := by rw [hxs]; exact lst_length V L
  have HXV : Hid (∀ i, i < L → xs.getD i 0 = V i) := fun i hi => by rw [hxs]; exact lst_get V L i hi
  rw [← hxs] at HE0
  have HOx : Hid (Ord S xs.length M) := by rw [HXL.out]; exact HOrd.out
  clear hS hxs HR
  go_wp2_with fail
  go_loopw [6] (fun i wr => ∃ k : Nat, k ≤ M ∧ i = .int .i64 k ∧ Hid (∃ g cap, Enc W1.heap.size (W1.heap.size + 1 + 1) (W1.heap.size + 1) w0 wr g cap (Fk xs S M k) (M - k) M)) (fun i _ => M - (intOf i).toNat)
  case atStart => exact ⟨0, Nat.zero_le _, rfl, ⟨W1.heap.size, L, by rw [Fk_zero]; exact HE0.out⟩⟩
  case round =>
    clear HE0
    obtain ⟨k, hk, rfl, HE⟩ := hrel
    by_cases hkM : k < M
    · obtain ⟨g, cap, e⟩ := HE.out
      have hlen := Fk_len HOx.out k hk
      rw [HXL.out] at hlen
      have hs0 := (HOx.out (M - (k + 1)) (by omega)).1
      have hs2 := S_le_Fk HOx.out k hkM
      have hcS : (Cp (.int .i64 0) (fun i => Value.int .i64 (O i)) M M)[M - k - 1]? = some (.int .i64 ((S (M - (k + 1)) : Nat) : Int)) := by
        rw [Cp_get _ _ _ _ _ (by omega), if_pos (by omega), HO.out _ (by omega), show M - k - 1 = M - (k + 1) by omega]
      have HC := endCall W1.heap.size (W1.heap.size + 1 + 1) (W1.heap.size + 1) g cap (Fk xs S M k) (Fk xs S M k).length (M - k) M _ (S (M - (k + 1))) w0 wr e HH0.out hcS (by omega) (by omega) m1 hs0 hs2 (by omega) (by omega) (by omega) (e.neh HH0.out) rfl
      have HCh : Hid (Calls Try.prog 11 #[.pointer (some ⟨W1.heap.size + 1 + 1, 0, none⟩)] wr fun e w' => EndPost W1.heap.size (W1.heap.size + 1 + 1) (W1.heap.size + 1) w0 (endB (Fk xs S M k) (S (M - (k + 1)))) (M - k - 1) M e w') := HC
      clear HC hcS hlen hs0 hs2 e
      go_wp2_with fail
      refine HCh.out.mono ?_
      rintro e w5 ⟨rfl, g2, cap2, e5⟩
      have HE5 : Hid (∃ g cap, Enc W1.heap.size (W1.heap.size + 1 + 1) (W1.heap.size + 1) w0 w5 g cap (Fk xs S M (k + 1)) (M - (k + 1)) M) := by
        refine ⟨g2, cap2, ?_⟩
        rw [Fk_succ HOx.out k hkM, show M - k - 1 = M - (k + 1) by omega] at e5
        exact e5
      clear e5 HE HCh
      go_wp2
      go_roundw
      case rel => exact ⟨k + 1, by omega, by go_num, HE5⟩
      case measure => simp [intOf]; omega
    · have ek : M = k := by omega
      subst ek
      obtain ⟨w5, hw5⟩ : ∃ w5, w5 = wr := ⟨wr, rfl⟩
      subst hw5
      obtain ⟨g, cap, e⟩ := HE.out
      rw [Nat.sub_self] at e
      obtain ⟨F, hF⟩ : ∃ F, F = Fk xs S M M := ⟨_, rfl⟩
      rw [← hF] at e
      obtain ⟨N, hN⟩ : ∃ N, N = F.length := ⟨_, rfl⟩
      have hNb : N ≤ 1048576 := by
        have := Fk_len HOx.out M (Nat.le_refl _)
        rw [← hF, ← hN, HXL.out] at this
        omega
      have HBy : Hid (∀ i, i < N → w5.cell? ⟨g, i, none⟩ = some (.int .u8 (F.getD i 0))) := fun i hi => e.byte i (by rw [← hN]; exact hi)
      have HB5 : Hid (Below w.heap.size w w5) := HB1.out.trans ((HB0.out.trans e.2.2.2).mono (by omega))
      have HC5 : Hid (Cl w.heap.size L M V O w5) := HCl.out.below (HB0.out.trans e.2.2.2)
      have cb : w5.cell? ⟨W1.heap.size + 1 + 1, 0, none⟩ = some (.slice (some ⟨g, 0, none⟩) N cap) := by rw [hN]; exact e.buf
      have co : w5.cell? ⟨W1.heap.size + 1 + 1, 1, none⟩ = some (.slice (some ⟨W1.heap.size + 1, 0, none⟩) 0 M) := e.open
      have HF : Hid (F = Fk xs S M M) := hF
      have HN : Hid (N = F.length) := hN
      clear e hF hN HE HCl HB1 HB0 HH0
      go_wp2_with fail
      refine (encOpen _ _ _ co).mono ?_
      rintro e w6 ⟨rfl, rfl⟩
      go_wp2_with fail
      refine (encBuf _ _ _ cb).mono ?_
      rintro e w6 ⟨rfl, rfl⟩
      clear cb co
      obtain ⟨s0, hs0⟩ : ∃ s0, s0 = S 0 := ⟨_, rfl⟩
      have c0' : w5.cell? ⟨w.heap.size + 1, 0, none⟩ = some (.int .i64 (s0 : Int)) := by rw [hs0, ← HO.out 0 hM0]; exact HC5.out.2.1 0 hM0
      have s1 : 1 ≤ s0 := by rw [hs0]; exact (HOrd.out 0 hM0).1
      have s2 : s0 ≤ L := by rw [hs0]; exact (HOrd.out 0 hM0).2.1
      have HD : Hid (F = xs.take (s0 - 1) ++ Gk xs S M M) := by
        show _ = _
        rw [HF.out, hs0]
        unfold Fk
        obtain ⟨k', rfl⟩ : ∃ k', M = k' + 1 := ⟨M - 1, by omega⟩
        show xs.take (S (k' + 1 - (k' + 1)) - 1) ++ _ = _
        rw [Nat.sub_self]
      have s3 : s0 - 1 ≤ N := by rw [HN.out, HD.out, List.length_append, List.length_take, HXL.out]; omega
      have s4 : (s0 : Int) - 1 ≤ (N : Int) := by omega
      clear hs0
      go_wp2_with fail
      go_loopw [9] (fun i wr => ∃ j q : Nat, j ≤ s0 - 1 ∧ i = .int .i64 j ∧ wr = w5.drewN q) (fun i _ => s0 - (intOf i).toNat)
      case atStart => exact ⟨0, 0, Nat.zero_le _, rfl, rfl⟩
      case round =>
        clear c0'
        obtain ⟨j, q1, hj, rfl, rfl⟩ := hrel
        by_cases hjs : j < s0 - 1
        · have hy : F.getD j 0 = V j := by
            rw [HD.out, ← HXV.out j (by omega)]
            have hl : j < (xs.take (s0 - 1)).length := by rw [List.length_take, HXL.out]; omega
            simp [List.getD, List.getElem?_append_left hl, hjs]
          have c1 : w5.cell? ⟨g, j, none⟩ = some (.int .u8 (V j)) := by rw [← hy]; exact HBy.out j (by omega)
          have c2 : w5.cell? ⟨w.heap.size, j, none⟩ = some (.int .u8 (V j)) := HC5.out.1 j (by omega)
          have i1 : (0 : Int) ≤ (j : Int) := by omega
          have i2 : (j : Int) < (N : Int) := by omega
          have i3 : (j : Int) < (L : Int) := by omega
          clear hy
          go_wp2_with fail
          go_quiet (fail)
          go_wp2
          go_roundw
          case rel => exact ⟨j + 1, _, by omega, by go_num, rfl⟩
          case measure => simp [intOf]; omega
        · have HD0 : Hid (F.drop (s0 - 1) = Gk xs S M (M - 0)) := by
            show _ = _
            rw [HD.out, Nat.sub_zero]
            exact drop_more (A := xs.take (s0 - 1)) (p := 0) rfl (by rw [List.length_take, HXL.out]; omega) |> fun h => by simpa using h
          clear HD HF s4
          go_wp2_with fail
          go_loopw [8, 10] (fun p i wr => ∃ t pp q : Nat, t ≤ M ∧ pp ≤ N ∧ i = .int .i64 t ∧ p = .int .i64 pp ∧ wr = w5.drewN q ∧ Hid (F.drop pp = Gk xs S M (M - t))) (fun _ i _ => M - (intOf i).toNat)
          case atStart => exact ⟨0, s0 - 1, q1, Nat.zero_le _, s3, rfl, by go_num, rfl, HD0⟩
          case round =>
            clear HD0
            obtain ⟨t, pp, q2, htM, hpp, rfl, rfl, rfl, HG⟩ := hrel
            by_cases htm : t < M
            · obtain ⟨k, hkt⟩ : ∃ k, M - t = k + 1 := ⟨M - t - 1, by omega⟩
              have R := round_facts HOrd.out HXL.out HXV.out HN.out htm hkt hpp HG.out
              obtain ⟨c, hb, s, bb, rc, rb1, rb2, rs, rs1, rs2, rbb, rsum1, rsum2, rfit, rat, rxb, rnext, rcase⟩ := R
              have HAT : Hid (∀ i, i < (ber c).length → F.getD (pp + i) 0 = (ber c).getD i 0) := rat
              have HXB : Hid (∀ x, x < bb - s → F.getD (pp + hb + x) 0 = V (s + x)) := rxb
              have HNX : Hid (F.drop (pp + hb + (bb - s)) = Gk xs S M (M - (t + 1))) := rnext
              have ct : w5.cell? ⟨w.heap.size + 1, t, none⟩ = some (.int .i64 (s : Int)) := by rw [rs, ← HO.out t htm]; exact HC5.out.2.1 t htm
              have HBL : Hid (hb = (ber c).length) := rc
              have hcN : c < 16777216 := by omega
              clear rat rxb rnext HG hkt rc rs
              have rcase2 : (t + 1 < M ∧ ∃ s1 : Nat, bb + 1 ≤ s1 ∧ s1 ≤ bb + 1 ∧ w5.cell? ⟨w.heap.size + 1, t + 1, none⟩ = some (.int .i64 (s1 : Int))) ∨ (M ≤ t + 1 ∧ bb ≤ L ∧ L ≤ bb) := by
                rcases rcase with ⟨h1, h2, h3⟩ | h
                · exact .inl ⟨h1, S (t + 1), h2, h3, by rw [← HO.out (t + 1) h1]; exact HC5.out.2.1 (t + 1) h1⟩
                · exact .inr h
              clear rcase
              go_wp2_with fail
              refine (decode g cap N pp c F _ (by omega) hcN (by exact HBy.out) HAT.out (by rw [← HBL.out]; omega)).mono ?_
              rw [← HBL.out]
              rintro e w6 ⟨rfl, rfl⟩
              rcases rcase2 with ⟨u1, s1', u2, u3, c4⟩ | ⟨u1, u2, u3⟩
              all_goals
                go_wp2_with fail
                go_loopw [17] (fun j wr => ∃ x q : Nat, x ≤ bb - s ∧ j = .int .i64 x ∧ wr = w5.drewN q) (fun j _ => bb - s - (intOf j).toNat)
                case atStart => exact ⟨0, q2, Nat.zero_le _, rfl, rfl⟩
                case round =>
                  obtain ⟨x, q3, hx, rfl, rfl⟩ := hrel
                  by_cases hxb : x < bb - s
                  · have c1 : w5.cell? ⟨g, pp + hb + x, none⟩ = some (.int .u8 (V (s + x))) := by rw [← HXB.out x hxb]; exact HBy.out (pp + hb + x) (by omega)
                    have c2 : w5.cell? ⟨w.heap.size, s + x, none⟩ = some (.int .u8 (V (s + x))) := HC5.out.1 (s + x) (by omega)
                    have i1 : (0 : Int) ≤ (pp : Int) + (hb : Int) + (x : Int) := by omega
                    have i2 : (pp : Int) + (hb : Int) + (x : Int) < (N : Int) := by omega
                    have i3 : (0 : Int) ≤ (s : Int) + (x : Int) := by omega
                    have i4 : (s : Int) + (x : Int) < (L : Int) := by omega
                    have i5 : (0 : Int) ≤ (t : Int) := by omega
                    have i6 : (t : Int) < (M : Int) := by omega
                    go_wp2_with fail
                    go_quiet (fail)
                    go_wp2
                    go_roundw
                    case rel => exact ⟨x + 1, _, by omega, by go_num, rfl⟩
                    case measure => simp [intOf]; omega
                  · go_wp2
                    go_roundw
                    case rel => exact ⟨t + 1, pp + hb + (bb - s), q3, by omega, by omega, by go_num, by go_num, rfl, HNX⟩
                    case measure => simp [intOf]; omega
            · have et : M = t := by omega
              subst et
              have hpN : pp = N := by
                have := HG.out
                rw [Nat.sub_self] at this
                have := congrArg List.length this
                rw [List.length_drop, ← HN.out] at this
                simp [Gk] at this
                omega
              have ht : ((pp : Int) == (N : Int)) = true := by rw [hpN]; simp
              clear hpN
              go_wp2
              go_ret
              exact ⟨rfl, below_drewN HB5.out q2⟩
end Go.Proofs.Qxb6634840a
