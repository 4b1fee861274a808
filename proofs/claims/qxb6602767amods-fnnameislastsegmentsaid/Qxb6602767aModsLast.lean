import Derived.Test.Qxb6602767aModsName
namespace Go.Proofs.Qxb6602767aMods
open Go.RowKit

theorem bytes10 (a : ByteArray) (wa : a.size ≤ 9223372036854775807) (w : World) : Calls Trym.prog 10 #[.string a] w fun e w' => RetB w e w' := by
  go_enter Trym.func10, Trym.ntmps10
  go_wp2
  all_goals
    go_ret
    exact ⟨_, rfl, rfl⟩

/-- Behind Name: what is asked of the name r, the last segment of s from k on. -/
structure Seg (s r : ByteArray) (k n : Nat) : Prop where
  size : s.size = k + (n + 1)
  rsize : r.size = n + 1
  whole : s.extract k (k + (n + 1)) = r
  pred : ∀ j, k = j + 1 → isSl s j = true
  free : isSl r n = false → ∀ i, i < r.size → isSl r i = false
  cut : isSl r n = true → ∀ i, i < (r.extract 0 n).size → isSl (r.extract 0 n) i = false

theorem seg_of (s : ByteArray) (h : 0 < s.size) : ∃ n, Seg s (s.extract (seg s) s.size) (seg s) n := by
  have hlt := seg_lt h
  have hsz := @ByteArray.size_extract s (seg s) s.size
  refine ⟨s.size - seg s - 1, by omega, by omega, by congr 1; omega, fun j hj => st_pred s (tl s) j hj, ?_, ?_⟩
  · intro h1 i hi
    rw [isSl_extract (by omega)] at h1
    have e : seg s + (s.size - seg s - 1) = s.size - 1 := by omega
    rw [e] at h1
    exact seg_none (by rw [tl_miss h1]; exact Nat.le_refl _) hi
  · intro h1 i hi
    rw [isSl_extract (by omega)] at h1
    have e : seg s + (s.size - seg s - 1) = s.size - 1 := by omega
    rw [e] at h1
    have ht := tl_hit h1
    have e2 : (s.extract (seg s) s.size).extract 0 (s.size - seg s - 1) = s.extract (seg s) (s.size - 1) := by
      rw [ByteArray.extract_extract]
      congr 1 <;> omega
    rw [e2] at hi ⊢
    exact seg_none (by omega) hi

set_option maxHeartbeats 1000000 in
theorem last3 (s : ByteArray) (hs : s.size ≤ 9223372036854775807) (w : World) : Calls Trym.prog 3 #[.string s] w fun e w' => e = .returned (.bool true) ∧ Below w.heap.size w w' := by
  by_cases c0 : s.size ≤ 1048576
  case neg =>
    have d0 : (1048576 : Int) < (s.size : Int) := by omega
    go_enter Trym.func3, Trym.ntmps3
    go_wp2_with fail
    refine (bytes10 s hs _).mono ?_
    rintro e w' ⟨r, rfl, rfl⟩
    cases r
    all_goals
      go_wp2
      go_ret
      exact ⟨rfl, Below.refl _ _⟩
  go_enter Trym.func3, Trym.ntmps3
  go_wp2_with fail
  refine (bytes10 s hs _).mono ?_
  rintro e w' ⟨r, rfl, hw⟩
  obtain rfl := hw.symm
  clear hw
  cases r
  · go_wp2
    go_ret
    exact ⟨rfl, Below.refl _ _⟩
  go_wp2_with fail
  refine (path11 s _).mono ?_
  rintro e x1 ⟨rfl, B1⟩
  go_wp2_with fail
  by_cases h0 : s.size = 0
  · refine (name12z s h0 _).mono ?_
    rintro e x2 ⟨rfl, B2⟩
    obtain rfl : s = ByteArray.empty := ByteArray.ext_getElem h0 (fun i hi => by omega)
    clear h0
    go_wp2
    go_ret
    exact ⟨rfl, B1.trans (B2.mono B1.size)⟩
  · have hpos : 0 < s.size := by omega
    refine (name12 s hpos hs _).mono ?_
    rintro e x2 ⟨rfl, B2⟩
    have HB := hid_of (B1.trans (B2.mono B1.size))
    clear B1 B2
    obtain ⟨n, hg⟩ := seg_of s hpos
    have hne := not_nil hpos
    obtain ⟨r, hr⟩ : ∃ r, r = s.extract (seg s) s.size := ⟨_, rfl⟩
    rw [← hr] at hg ⊢
    clear hr
    generalize seg s = k at hg
    have e1 := hg.size
    have e2 := hg.rsize
    have e3 := hg.whole
    have HP := hid_of hg.pred
    have HF := hid_of hg.free
    have HC := hid_of hg.cut
    clear hg hpos h0
    cases k with
    | zero =>
      simp only [Nat.zero_add] at e1 e3
      cases hl : isSl r n
      · have hq : ((r[n].toNat : Int) == 47) = false := by rw [isSl_of (by omega)] at hl; simp at hl ⊢; omega
        have HF2 := hid_of (HF.out hl)
        clear hl HF HC
        go_wp2_with fail
        refine (has13 r (by omega) HF2.out _).mono ?_
        rintro e x3 ⟨rfl, rfl⟩
        go_wp2
        go_ret
        exact ⟨rfl, HB.out⟩
      · have hq : ((r[n].toNat : Int) == 47) = true := by rw [isSl_of (by omega)] at hl; simp at hl ⊢; omega
        have HC2 := hid_of (HC.out hl)
        have hes : (r.extract 0 n).size ≤ 9223372036854775807 := by rw [ByteArray.size_extract]; omega
        have HE := hid_of hes
        clear hl HF HC hes
        go_wp2_with fail
        refine (has13 (r.extract 0 n) HE.out HC2.out _).mono ?_
        rintro e x3 ⟨rfl, rfl⟩
        go_wp2
        go_ret
        exact ⟨rfl, HB.out⟩
    | succ j =>
      have hj := HP.out j rfl
      have hjq : s[j].toNat = 47 := isSl_byte hj (by omega)
      have hz : ((n : Int) + 1 == 0) = false := by simp; omega
      clear HP hj
      cases hl : isSl r n
      · have hq : ((r[n].toNat : Int) == 47) = false := by rw [isSl_of (by omega)] at hl; simp at hl ⊢; omega
        have HF2 := hid_of (HF.out hl)
        clear hl HF HC
        go_wp2_with fail
        refine (has13 r (by omega) HF2.out _).mono ?_
        rintro e x3 ⟨rfl, rfl⟩
        go_wp2
        go_ret
        exact ⟨rfl, HB.out⟩
      · have hq : ((r[n].toNat : Int) == 47) = true := by rw [isSl_of (by omega)] at hl; simp at hl ⊢; omega
        have HC2 := hid_of (HC.out hl)
        have hes : (r.extract 0 n).size ≤ 9223372036854775807 := by rw [ByteArray.size_extract]; omega
        have HE := hid_of hes
        clear hl HF HC hes
        go_wp2_with fail
        refine (has13 (r.extract 0 n) HE.out HC2.out _).mono ?_
        rintro e x3 ⟨rfl, rfl⟩
        go_wp2
        go_ret
        exact ⟨rfl, HB.out⟩
end Go.Proofs.Qxb6602767aMods
