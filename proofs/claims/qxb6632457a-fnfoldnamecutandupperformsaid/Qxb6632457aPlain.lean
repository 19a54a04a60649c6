/-
  THE PLAIN LAWS of the fold: no Go in sight.
-/
namespace Go.Proofs.Qxb6632457a

/-- Is the byte (as a number) an ASCII capital? -/
def upB (c : Int) : Bool := decide (65 ≤ c ∧ c ≤ 90)
/-- Is it a small ASCII letter? -/
def loB (c : Int) : Bool := decide (97 ≤ c ∧ c ≤ 122)
def leB (c : Int) : Bool := upB c || loB c

def low (c : UInt8) : UInt8 := if upB (c.toNat : Int) then c + 32 else c
def upp (c : UInt8) : UInt8 := if loB (c.toNat : Int) then c - 32 else c

def fold (s : ByteArray) : ByteArray := ⟨s.data.map low⟩
def upper (s : ByteArray) : ByteArray := ⟨s.data.map upp⟩

theorem all_bytes (p : UInt8 → Bool) (h : (List.range 256).all (fun n => p (UInt8.ofNat n)) = true) (c : UInt8) : p c = true := by
  have h1 := List.all_eq_true.1 h c.toNat (List.mem_range.2 c.toNat_lt)
  simpa using h1

theorem low_low (c : UInt8) : low (low c) = low c := by
  have := all_bytes (fun c => low (low c) == low c) (by decide +kernel) c
  simpa using this
theorem upB_low (c : UInt8) : upB ((low c).toNat : Int) = false := by
  have := all_bytes (fun c => !upB ((low c).toNat : Int)) (by decide +kernel) c
  simpa using this
theorem upp_low (c : UInt8) : upp (low c) = upp c := by
  have := all_bytes (fun c => upp (low c) == upp c) (by decide +kernel) c
  simpa using this
theorem low_toNat (c : UInt8) (h : upB (c.toNat : Int) = true) : ((low c).toNat : Int) = (c.toNat : Int) + 32 := by
  have := all_bytes (fun c => !upB (c.toNat : Int) || ((low c).toNat : Int) == (c.toNat : Int) + 32) (by decide +kernel) c
  simp [h] at this
  exact this
theorem low_not (c : UInt8) (h : upB (c.toNat : Int) = false) : low c = c := by simp [low, h]
theorem upp_toNat (c : UInt8) (h : loB (c.toNat : Int) = true) : ((upp c).toNat : Int) = (c.toNat : Int) - 32 := by
  have := all_bytes (fun c => !loB (c.toNat : Int) || ((upp c).toNat : Int) == (c.toNat : Int) - 32) (by decide +kernel) c
  simp [h] at this
  exact this
theorem upp_not (c : UInt8) (h : loB (c.toNat : Int) = false) : upp c = c := by simp [upp, h]

theorem fold_size (s : ByteArray) : (fold s).size = s.size := Array.size_map ..
theorem upper_size (s : ByteArray) : (upper s).size = s.size := Array.size_map ..
theorem fold_append (a b : ByteArray) : fold (a ++ b) = fold a ++ fold b := by
  apply ByteArray.ext
  simp [fold, ByteArray.data_append]
theorem fold_fold (s : ByteArray) : fold (fold s) = fold s := by
  apply ByteArray.ext
  simp [fold, low_low, Function.comp_def]
theorem upper_fold (s : ByteArray) : upper (fold s) = upper s := by
  apply ByteArray.ext
  simp [fold, upper, upp_low, Function.comp_def]
theorem fold_get (s : ByteArray) (i : Nat) (h : i < (fold s).size) : (fold s)[i] = low (s[i]'(by rw [fold_size] at h; exact h)) := by
  simp [fold, ByteArray.getElem_eq_getElem_data]
theorem fold_none (s : ByteArray) (h : ∀ (i : Nat) (hi : i < s.size), upB ((s[i]).toNat : Int) = false) : fold s = s := by
  apply ByteArray.ext
  apply Array.ext
  · simp [fold]
  · intro i h1 h2
    have := low_not _ (h i h2)
    simpa [fold, ByteArray.getElem_eq_getElem_data] using this
end Go.Proofs.Qxb6632457a
