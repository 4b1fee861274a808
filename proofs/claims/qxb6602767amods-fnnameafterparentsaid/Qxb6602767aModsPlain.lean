/-
  The plain mathematics of slashes in a string of bytes. Nothing of the program.
-/
namespace Go.Proofs.Qxb6602767aMods

/-- Is byte k of s there, and a slash? -/
def isSl (s : ByteArray) (k : Nat) : Bool := if h : k < s.size then s[k].toNat == 47 else false

theorem isSl_of {s : ByteArray} {k : Nat} (h : k < s.size) : isSl s k = (s[k].toNat == 47) := by simp [isSl, h]

theorem isSl_lt {s : ByteArray} {k : Nat} (h : isSl s k = true) : k < s.size := by
  unfold isSl at h
  split at h
  · assumption
  · cases h

theorem isSl_byte {s : ByteArray} {k : Nat} (h : isSl s k = true) (hk : k < s.size) : s[k].toNat = 47 := by
  rw [isSl_of hk] at h
  simpa using h

/-- The places of the slashes among the first k bytes, in order. -/
def sl (s : ByteArray) : Nat → List Nat
  | 0 => []
  | k + 1 => if isSl s k = true then sl s k ++ [k] else sl s k

theorem sl_hit {s : ByteArray} {k : Nat} (h : isSl s k = true) : sl s (k + 1) = sl s k ++ [k] := by rw [sl, if_pos h]
theorem sl_miss {s : ByteArray} {k : Nat} (h : isSl s k = false) : sl s (k + 1) = sl s k := by rw [sl, if_neg (by simp [h])]

theorem sl_le (s : ByteArray) : ∀ k, (sl s k).length ≤ k
  | 0 => by simp [sl]
  | k + 1 => by
    have ih := sl_le s k
    cases h : isSl s k
    · rw [sl_miss h]; omega
    · rw [sl_hit h]; simp; omega

theorem sl_mem (s : ByteArray) : ∀ k p, p ∈ sl s k → p < k ∧ isSl s p = true
  | 0, p => by simp [sl]
  | k + 1, p => by
    have ih := sl_mem s k p
    cases h : isSl s k
    · rw [sl_miss h]; intro hp; have := ih hp; exact ⟨by omega, this.2⟩
    · rw [sl_hit h]
      intro hp
      rcases List.mem_append.1 hp with hp | hp
      · have := ih hp; exact ⟨by omega, this.2⟩
      · simp at hp; subst hp; exact ⟨by omega, h⟩

theorem sl_all (s : ByteArray) : ∀ k p, p < k → isSl s p = true → p ∈ sl s k
  | 0, p => by intro h; omega
  | k + 1, p => by
    intro hp hs
    by_cases e : p = k
    · subst e; rw [sl_hit hs]; simp
    · have ih := sl_all s k p (by omega) hs
      cases h : isSl s k
      · rw [sl_miss h]; exact ih
      · rw [sl_hit h]; exact List.mem_append.2 (Or.inl ih)

/-- The place of the j-th slash. -/
def slAt (s : ByteArray) (j : Nat) : Nat := ((sl s s.size)[j]?).getD 0

theorem sl_asc (s : ByteArray) : ∀ k i j a b : Nat, (sl s k)[i]? = some a → (sl s k)[j]? = some b → i < j → a < b
  | 0, i, j, a, b => by simp [sl]
  | k + 1, i, j, a, b => by
    have ih := sl_asc s k i j a b
    cases h : isSl s k
    · rw [sl_miss h]; exact ih
    · rw [sl_hit h]
      intro ha hb hij
      have hi : i < (sl s k).length := by
        have := (List.getElem?_eq_some_iff.1 hb).1
        simp at this
        omega
      rw [List.getElem?_append_left hi] at ha
      by_cases hj : j < (sl s k).length
      · rw [List.getElem?_append_left hj] at hb
        exact ih ha hb hij
      · rw [List.getElem?_append_right (by omega)] at hb
        have hjj : j - (sl s k).length = 0 := by
          have := (List.getElem?_eq_some_iff.1 hb).1
          simp at this
          omega
        rw [hjj] at hb
        simp at hb
        subst hb
        exact (sl_mem s k a (List.mem_of_getElem? ha)).1

theorem slAt_get {s : ByteArray} {j : Nat} (h : j < (sl s s.size).length) : (sl s s.size)[j]? = some (slAt s j) := by
  unfold slAt
  rw [List.getElem?_eq_getElem h]
  rfl

theorem slAt_lt {s : ByteArray} {j : Nat} (h : j < (sl s s.size).length) : slAt s j < s.size ∧ isSl s (slAt s j) = true :=
  sl_mem s s.size _ (List.mem_of_getElem? (slAt_get h))

theorem slAt_asc {s : ByteArray} {i j : Nat} (h : i < j) (hj : j < (sl s s.size).length) : slAt s i < slAt s j :=
  sl_asc s s.size i j _ _ (slAt_get (by omega)) (slAt_get hj) h

end Go.Proofs.Qxb6602767aMods
