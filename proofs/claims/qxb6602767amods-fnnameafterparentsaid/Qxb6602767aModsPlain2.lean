/-
  The plain mathematics of a path's last segment. Nothing of the program.
-/
import Derived.Test.Qxb6602767aModsPlain
namespace Go.Proofs.Qxb6602767aMods

/-- One behind the last slash among the first k bytes; 0 where there is none. -/
def st (s : ByteArray) : Nat → Nat
  | 0 => 0
  | k + 1 => if isSl s k = true then k + 1 else st s k

theorem st_hit {s : ByteArray} {k : Nat} (h : isSl s k = true) : st s (k + 1) = k + 1 := by rw [st, if_pos h]
theorem st_miss {s : ByteArray} {k : Nat} (h : isSl s k = false) : st s (k + 1) = st s k := by rw [st, if_neg (by simp [h])]

theorem st_le (s : ByteArray) : ∀ k, st s k ≤ k
  | 0 => Nat.le_refl _
  | k + 1 => by
    have ih := st_le s k
    cases h : isSl s k
    · rw [st_miss h]; omega
    · rw [st_hit h]; omega

theorem st_pred (s : ByteArray) : ∀ k j, st s k = j + 1 → isSl s j = true
  | 0, j => by simp [st]
  | k + 1, j => by
    have ih := st_pred s k j
    cases h : isSl s k
    · rw [st_miss h]; exact ih
    · rw [st_hit h]; intro e; obtain rfl : k = j := by omega
      exact h

theorem st_free (s : ByteArray) : ∀ k i, st s k ≤ i → i < k → isSl s i = false
  | 0, i => by intro _ h; omega
  | k + 1, i => by
    have ih := st_free s k i
    cases h : isSl s k
    · rw [st_miss h]; intro h1 h2
      by_cases e : i = k
      · subst e; exact h
      · exact ih h1 (by omega)
    · rw [st_hit h]; intro h1 h2; omega

theorem st_congr {s x : ByteArray} : ∀ k, (∀ i, i < k → isSl x i = isSl s i) → st x k = st s k
  | 0, _ => rfl
  | k + 1, h => by
    have ih := st_congr k (fun i hi => h i (by omega))
    have hk := h k (by omega)
    cases e : isSl s k
    · rw [st_miss e, st_miss (by rw [hk]; exact e), ih]
    · rw [st_hit e, st_hit (by rw [hk]; exact e)]

/-- How long s is without its one trailing slash. -/
def tl (s : ByteArray) : Nat := if isSl s (s.size - 1) = true then s.size - 1 else s.size

/-- Where the last segment begins. -/
def seg (s : ByteArray) : Nat := st s (tl s)

theorem tl_hit {s : ByteArray} (h : isSl s (s.size - 1) = true) : tl s = s.size - 1 := by rw [tl, if_pos h]
theorem tl_miss {s : ByteArray} (h : isSl s (s.size - 1) = false) : tl s = s.size := by rw [tl, if_neg (by simp [h])]

theorem seg_lt {s : ByteArray} (h : 0 < s.size) : seg s < s.size := by
  unfold seg
  have hle := st_le s (tl s)
  cases e : isSl s (s.size - 1)
  · rw [tl_miss e] at hle ⊢
    by_cases hh : st s s.size = s.size
    · have := st_pred s s.size (s.size - 1) (by omega)
      rw [e] at this
      cases this
    · omega
  · rw [tl_hit e] at hle ⊢
    omega

theorem isSl_extract {s : ByteArray} {a b i : Nat} (hi : i < (s.extract a b).size) : isSl (s.extract a b) i = isSl s (a + i) := by
  have hsz := @ByteArray.size_extract s a b
  rw [isSl_of hi, isSl_of (show a + i < s.size by omega), ByteArray.getElem_extract]

theorem seg_none {s : ByteArray} {b i : Nat} (hb : b ≤ tl s) (hi : i < (s.extract (seg s) b).size) : isSl (s.extract (seg s) b) i = false := by
  have hsz := @ByteArray.size_extract s (seg s) b
  rw [isSl_extract hi]
  exact st_free s (tl s) _ (by unfold seg; omega) (by omega)

theorem sl_st (s : ByteArray) : ∀ k, (st s k = 0 ∧ sl s k = []) ∨ ∃ j l, st s k = j + 1 ∧ sl s k = l ++ [j]
  | 0 => .inl ⟨rfl, rfl⟩
  | k + 1 => by
    have ih := sl_st s k
    cases h : isSl s k
    · rw [st_miss h, sl_miss h]; exact ih
    · rw [st_hit h, sl_hit h]; exact .inr ⟨k, _, rfl, rfl⟩

/-- The parent's text, a slash, the last segment: the whole. -/
theorem join (s : ByteArray) (j : Nat) (h : isSl s j = true) : s.extract 0 j ++ ⟨#[47]⟩ ++ s.extract (j + 1) s.size = s := by
  have hj := isSl_lt h
  have hb := isSl_byte h hj
  have e : (⟨#[47]⟩ : ByteArray) = s.extract j (j + 1) := by
    refine ByteArray.ext_getElem ?_ ?_
    · rw [ByteArray.size_extract]
      show 1 = _
      omega
    · intro i hi hi'
      have hi0 : i = 0 := by
        have : i < 1 := hi
        omega
      subst hi0
      rw [ByteArray.getElem_extract]
      apply UInt8.toNat.inj
      show 47 = _
      simpa using hb.symm
  rw [e, ← ByteArray.extract_eq_extract_append_extract j (by omega) (by omega), ← ByteArray.extract_eq_extract_append_extract (j + 1) (by omega) (by omega)]
  exact ByteArray.extract_zero_size

end Go.Proofs.Qxb6602767aMods
