/-
  AN ENCODER IN MEMORY, and what each store does to it.
-/
import Derived.Test.Qxb6634840aBer
import Derived.Laws.CopyOwn
namespace Go.Proofs.Qxb6634840a
open Go.RowKit

/-- The encoder at block E: its buffer (block g) holds ys, its stack (block h) has m entries; below B, and in block h, nothing has turned since w0. -/
def Enc (B E h : Nat) (w0 w : World) (g cap : Nat) (ys : List Int) (m c : Nat) : Prop :=
  w.heap[E]? = some (.cells #[.slice (some ⟨g, 0, none⟩) ys.length cap, .slice (some ⟨h, 0, none⟩) m c] 35 (0, 0)) ∧
  w.ownsRow B 5 1 (.slice (some ⟨g, 0, none⟩) ys.length cap) ys.length (u8s ys) ∧
  w.heap[h]? = w0.heap[h]? ∧ Below B w0 w

section
variable {B E h : Nat} {w0 w : World} {g cap : Nat} {ys : List Int} {m c : Nat}

theorem Enc.row (e : Enc B E h w0 w g cap ys m c) : ∃ cur, w.heap[g]? = some (.cells cur 5 (0, 0)) ∧ B ≤ g ∧ ys.length ≤ cap ∧ cap ≤ maxLen ∧ cur.size = cap ∧ cur.toList.take ys.length = u8s ys := by
  rcases e.2.1.2 with ⟨h', _⟩ | ⟨g', cap', cur, h', hb, hg, hnc, hcm, hcs, htake⟩
  · simp at h'
  · simp only [Value.slice.injEq, Option.some.injEq, Addr.mk.injEq, and_true, true_and] at h'
    obtain ⟨rfl, rfl⟩ := h'
    exact ⟨cur, hg, hb, hnc, hcm, by omega, by rw [← htake, Nat.mul_one]⟩

theorem Enc.buf (e : Enc B E h w0 w g cap ys m c) : w.cell? ⟨E, 0, none⟩ = some (.slice (some ⟨g, 0, none⟩) ys.length cap) := by simp [World.cell?, e.1]
theorem Enc.open (e : Enc B E h w0 w g cap ys m c) : w.cell? ⟨E, 1, none⟩ = some (.slice (some ⟨h, 0, none⟩) m c) := by simp [World.cell?, e.1]
theorem Enc.free (e : Enc B E h w0 w g cap ys m c) (i : Nat) : w.frozen? ⟨E, i, none⟩ = false := by simp [World.frozen?, e.1]
theorem Enc.ne (e : Enc B E h w0 w g cap ys m c) : E ≠ g := by
  obtain ⟨cur, hg, _⟩ := e.row
  intro h'
  subst h'
  rw [e.1] at hg
  simp at hg
theorem Enc.ltE (e : Enc B E h w0 w g cap ys m c) : E < w.heap.size := lt_of_block e.1
theorem Enc.ltg (e : Enc B E h w0 w g cap ys m c) : g < w.heap.size := by
  obtain ⟨cur, hg, _⟩ := e.row
  exact lt_of_block hg
theorem Enc.byte (e : Enc B E h w0 w g cap ys m c) (i : Nat) (hi : i < ys.length) : w.cell? ⟨g, i, none⟩ = some (.int .u8 (ys.getD i 0)) := by
  rw [e.2.1.cellAt i (by omega), u8s_get _ _ hi]
theorem Enc.freeB (e : Enc B E h w0 w g cap ys m c) (i : Nat) : w.frozen? ⟨g, i, none⟩ = false := e.2.1.frozenAt i

theorem Enc.drewN (e : Enc B E h w0 w g cap ys m c) (q : Nat) : Enc B E h w0 (w.drewN q) g cap ys m c := ⟨e.1, e.2.1, e.2.2.1, below_drewN e.2.2.2 q⟩
theorem Enc.drew (e : Enc B E h w0 w g cap ys m c) : Enc B E h w0 w.drew g cap ys m c := ⟨e.1, e.2.1, e.2.2.1, e.2.2.2.drew⟩

theorem heap_set_at {w : World} {b i : Nat} {cs : Array Value} {t : TypeId} {u : Value} (hb : w.heap[b]? = some (.cells cs t (0, 0))) : (w.setCell ⟨b, i, none⟩ u).heap[b]? = some (.cells (cs.setIfInBounds i u) t (0, 0)) := heap_setCell_same w b i cs t u hb

/-- A new stack length. -/
theorem Enc.pop (e : Enc B E h w0 w g cap ys m c) (hEh : E ≠ h) (hBE : B ≤ E) (m' : Nat) : Enc B E h w0 (w.setCell ⟨E, 1, none⟩ (.slice (some ⟨h, 0, none⟩) m' c)) g cap ys m' c := by
  refine ⟨?_, ?_, ?_, e.2.2.2.setCell hBE _⟩
  · rw [heap_set_at e.1]; rfl
  · exact ownsRow_setCell_other e.2.1 (by simp [Value.ownBlock]; exact Ne.symm e.ne) _
  · rw [Below.heap_setCell _ _ _ _ (Ne.symm hEh)]; exact e.2.2.1

/-- A byte stored. -/
theorem Enc.put (e : Enc B E h w0 w g cap ys m c) (hgh : g ≠ h) (i : Nat) (x : Int) : Enc B E h w0 (w.setCell ⟨g, i, none⟩ (.int .u8 x)) g cap (ys.set i x) m c := by
  obtain ⟨cur, hg, hBg, _⟩ := e.row
  refine ⟨?_, ?_, ?_, e.2.2.2.setCell hBg _⟩
  · rw [Below.heap_setCell _ _ _ _ e.ne, List.length_set]; exact e.1
  · have := (e.2.1.stored i (.int .u8 x)).1
    rw [List.length_set]
    have hh : u8s (ys.set i x) = (u8s ys).set i (.int .u8 x) := by simp [u8s, List.map_set]
    rw [hh]; exact this
  · rw [Below.heap_setCell _ _ _ _ (Ne.symm hgh)]; exact e.2.2.1

/-- One byte appended: what the law on append leaves, and the new slice stored back. -/
theorem Enc.grow (e : Enc B E h w0 w g cap ys m c) (hBE : B ≤ E) (hEh : E ≠ h) (hgh : g ≠ h) (hh : h < w.heap.size) {w1 : World} {ob : Obj} {g' cap' : Nat} {x : Int}
    (hown : w1.ownsRow B 5 1 (.slice (some ⟨g', 0, none⟩) (ys.length + 1) cap') (ys.length + 1) (u8s ys ++ [.int .u8 x])) (hgrow : (w.alloc ob).grownBy w1 (Value.ownBlock (.slice (some ⟨g, 0, none⟩) ys.length cap))) :
    Enc B E h w0 (w1.setCell ⟨E, 0, none⟩ (.slice (some ⟨g', 0, none⟩) (ys.length + 1) cap')) g' cap' (ys ++ [x]) m c := by
  obtain ⟨cur, hg, hBg, _⟩ := e.row
  have hE1 : w1.heap[E]? = some (.cells #[.slice (some ⟨g, 0, none⟩) ys.length cap, .slice (some ⟨h, 0, none⟩) m c] 35 (0, 0)) := by
    rw [hgrow.block E (by simp; have := e.ltE; omega) (by simp [Value.ownBlock]; exact e.ne), Below.heap_alloc _ _ _ e.ltE]
    exact e.1
  have hne : E ≠ g' := by
    intro h'
    subst h'
    rcases hown.2 with ⟨h1, _⟩ | ⟨g2, cap2, cur2, h1, _, hg2, _⟩
    · simp at h1
    · simp only [Value.slice.injEq, Option.some.injEq, Addr.mk.injEq, and_true, true_and] at h1
      obtain ⟨rfl, rfl⟩ := h1
      rw [hE1] at hg2
      simp at hg2
  have hlen : (ys ++ [x]).length = ys.length + 1 := by simp
  have hBs : B ≤ w.heap.size := by have := e.ltE; omega
  refine ⟨?_, ?_, ?_, ((e.2.2.2.alloc hBs ob).grown hgrow (by simp; omega) (fun k hk => by simp [Value.ownBlock] at hk; omega)).setCell hBE _⟩
  · rw [heap_set_at hE1, hlen]; rfl
  · rw [hlen, u8s_append]
    exact ownsRow_setCell_other hown (by simp [Value.ownBlock]; exact Ne.symm hne) _
  · rw [Below.heap_setCell _ _ _ _ (Ne.symm hEh), hgrow.block h (by simp; omega) (by simp [Value.ownBlock]; exact Ne.symm hgh), Below.heap_alloc _ _ _ hh]
    exact e.2.2.1

/-- Bytes of the buffer copied within the buffer. -/
theorem Enc.move (e : Enc B E h w0 w g cap ys m c) (hgh : g ≠ h) (off soff n : Nat) (h1 : off + n ≤ ys.length) (h2 : soff + n ≤ ys.length) (cur : Array Value) (hg : w.heap[g]? = some (.cells cur 5 (0, 0))) :
    Enc B E h w0 (w.setRow g (cur.toList.take off ++ u8s ((ys.drop soff).take n) ++ cur.toList.drop (off + (u8s ((ys.drop soff).take n)).length)).toArray) g cap (ys.take off ++ ((ys.drop soff).take n ++ ys.drop (off + n))) m c := by
  obtain ⟨cur', hg', hBg, hyc, hcm, hcs, htake⟩ := e.row
  have hcc : cur' = cur := by rw [hg] at hg'; simpa using hg'.symm
  subst hcc
  have hl : ((ys.drop soff).take n).length = n := by simp; omega
  have hlen : (ys.take off ++ ((ys.drop soff).take n ++ ys.drop (off + n))).length = ys.length := by simp; omega
  refine ⟨?_, ⟨by rw [u8s_length]; omega, .inr ⟨g, cap, _, by rw [hlen], hBg, setRow_heap w g cur' _ 5 _ hg, by rw [hlen]; exact hyc, hcm, ?_, ?_⟩⟩, ?_, below_setRow e.2.2.2 hBg _⟩
  · rw [setRow_other w g E _ e.ne, hlen]; exact e.1
  · simp only [List.size_toArray, List.length_append, List.length_take, List.length_drop, u8s_length, Array.length_toList]
    omega
  · rw [hlen, u8s_length, hl, u8s_append, u8s_append]
    have e1 : u8s (ys.take off) = cur'.toList.take off := by
      have : u8s (ys.take off) = (u8s ys).take off := by simp [u8s, List.map_take]
      rw [this, ← htake, List.take_take, Nat.min_eq_left (by omega)]
    have e2 : u8s (ys.drop (off + n)) = (cur'.toList.drop (off + n)).take (ys.length - (off + n)) := by
      have : u8s (ys.drop (off + n)) = (u8s ys).drop (off + n) := by simp [u8s, List.map_drop]
      rw [this, ← htake, List.drop_take]
    rw [e1, e2]
    have l1 : (cur'.toList.take off).length = off := by rw [List.length_take, Array.length_toList]; omega
    have l2 : (u8s ((ys.drop soff).take n)).length = n := by rw [u8s_length, hl]
    have e3 : (cur'.toList.take off ++ u8s ((ys.drop soff).take n)).length = off + n := by rw [List.length_append, l1, l2]
    show List.take (ys.length * 1) (cur'.toList.take off ++ u8s ((ys.drop soff).take n) ++ cur'.toList.drop (off + n)) = _
    rw [List.take_append, e3, Nat.mul_one, List.take_of_length_le (by rw [e3]; omega), List.append_assoc]
  · rw [setRow_other w g h _ (Ne.symm hgh)]; exact e.2.2.1

theorem step_copy_enc {ops : Array Oper} {o : Oper} {a : Act} {K : Act → World → Prop} {Q : Exit → Act → World → Prop} {F : Prop} (hgd : o.guard = none) (d s : Operand)
    (ho : o.op = .call { callee := .builtin .copy, args := #[d, s], argTypes := #[22, 22] }) (e : Enc B E h w0 w g cap ys m c) (hgh : g ≠ h) (off soff n dLen dCap sCap : Nat)
    (hd : a.eval d = .slice (some ⟨g, off, none⟩) dLen dCap) (hs : a.eval s = .slice (some ⟨g, soff, none⟩) n sCap) (hn : n ≤ dLen) (h1 : off + n ≤ ys.length) (h2 : soff + n ≤ ys.length)
    (hK : ∀ w', Enc B E h w0 w' g cap (ys.take off ++ ((ys.drop soff).take n ++ ys.drop (off + n))) m c → K (a.put o.dst (goInt n)) w') :
    if Region.wanted o (yielded ops a.tmps) = true then Oper.wp Try.prog o a w K Q else F := by
  have hw : Region.wanted o (yielded ops a.tmps) = true := by simp [Region.wanted, hgd]
  rw [if_pos hw]
  obtain ⟨cur, hg, hBg, hyc, hcm, hcs, htake⟩ := e.row
  have hl : ((ys.drop soff).take n).length = n := by simp; omega
  have l2 : (u8s ((ys.drop soff).take n)).length = n := by rw [u8s_length, hl]
  have hrun := run_copy_row Try.prog w 22 22 o.type 5 g off dLen dCap ⟨g, soff, none⟩ n sCap cur 5 (u8s ((ys.drop soff).take n)) Try.underlying22 (by kernel_rfl) hg (by rw [l2]; exact (Nat.min_eq_left hn).symm)
    (fun j v hj => by
      have hj' : j < n := by
        have := (List.getElem?_eq_some_iff.1 hj).1
        omega
      rw [Go.WideShapes.add_plain, e.byte (soff + j) (by omega)]
      rw [u8s_get _ _ (by omega)] at hj
      rw [← hj]
      simp [List.getElem?_drop, hj'])
    (by rw [l2]; omega) (fun v hv => by simp only [u8s, List.mem_map] at hv; obtain ⟨x, _, rfl⟩ := hv; rfl)
  unfold Oper.wp
  simp [execOp, ho, resolve, invoke, builtin, hd, hs, hrun, Result.andThen]
  have := hK _ (e.move hgh off soff n h1 h2 cur hg)
  rw [l2, List.append_assoc] at this
  rw [l2]
  exact this
end

theorem cut_wp {P : Program} {code : Code} {Q : Exit → Act → World → Prop} {a : Act} {w : World} (R : World → Prop) (h : R w) (k : ∀ W, R W → Code.wp P code Q a W) : Code.wp P code Q a w := k w h
end Go.Proofs.Qxb6634840a
