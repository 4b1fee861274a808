import Derived.Test.Qxb6602767aModsEvery
import Derived.Test.Qxb6602767aModsName
namespace Go.Proofs.Qxb6602767aMods
open Go.RowKit

theorem bytes14 (a : ByteArray) (wa : a.size ≤ 9223372036854775807) (w : World) : Calls Trym.prog 14 #[.string a] w fun e w' => RetB w e w' := by
  go_enter Trym.func14, Trym.ntmps14
  go_wp2
  all_goals
    go_ret
    exact ⟨_, rfl, rfl⟩

theorem slAt_of {s : ByteArray} {l l' : List Nat} {j : Nat} (h : sl s s.size = l ++ j :: l') : slAt s l.length = j := by
  unfold slAt
  rw [h]
  simp

theorem parent_cases {s : ByteArray} {q : Nat} (h : s.size = q + 1) :
    (isSl s q = false ∧ (sl s s.size).length = 0 ∧ s.extract (seg s) s.size = s) ∨
    (isSl s q = false ∧ ∃ M, (sl s s.size).length = M + 1 ∧ s.extract 0 (slAt s M) ++ ⟨#[47]⟩ ++ s.extract (seg s) s.size = s) ∨
    (isSl s q = true ∧ (sl s s.size).length = 1 ∧ s.extract (seg s) s.size = s) ∨
    (isSl s q = true ∧ ∃ M, (sl s s.size).length = M + 1 + 1 ∧ s.extract 0 (slAt s M) ++ ⟨#[47]⟩ ++ s.extract (seg s) s.size = s) := by
  have e : s.size - 1 = q := by omega
  cases hq : isSl s q
  · have ht : tl s = s.size := tl_miss (by rw [e]; exact hq)
    rcases sl_st s s.size with ⟨h1, h2⟩ | ⟨j, l, h1, h2⟩
    · refine .inl ⟨rfl, by rw [h2]; rfl, ?_⟩
      unfold seg
      rw [ht, h1]
      exact ByteArray.extract_zero_size
    · refine .inr (.inl ⟨rfl, l.length, by rw [h2]; simp, ?_⟩)
      have hj := slAt_of (s := s) (l := l) (l' := []) (j := j) h2
      unfold seg
      rw [ht, h1, hj]
      exact join s j (st_pred s _ j h1)
  · have ht : tl s = q := by rw [tl_hit (by rw [e]; exact hq), e]
    have hs : sl s s.size = sl s q ++ [q] := by rw [h, sl_hit hq]
    rcases sl_st s q with ⟨h1, h2⟩ | ⟨j, l, h1, h2⟩
    · refine .inr (.inr (.inl ⟨rfl, by rw [hs, h2]; rfl, ?_⟩))
      unfold seg
      rw [ht, h1]
      exact ByteArray.extract_zero_size
    · refine .inr (.inr (.inr ⟨rfl, l.length, by rw [hs, h2]; simp, ?_⟩))
      have hj := slAt_of (s := s) (l := l) (l' := [q]) (j := j) (by rw [hs, h2]; simp)
      unfold seg
      rw [ht, h1, hj]
      exact join s j (st_pred s _ j h1)

set_option maxHeartbeats 1000000 in
theorem parent4 (s : ByteArray) (hs : s.size ≤ 9223372036854775807) (w : World) : Calls Trym.prog 4 #[.string s] w fun e w' => e = .returned (.bool true) ∧ Below w.heap.size w w' := by
  by_cases c0 : s.size ≤ 1048576
  case neg =>
    have d0 : (1048576 : Int) < (s.size : Int) := by omega
    go_enter Trym.func4, Trym.ntmps4
    go_wp2_with fail
    refine (bytes14 s hs _).mono ?_
    rintro e w' ⟨r, rfl, rfl⟩
    cases r
    all_goals
      go_wp2
      go_ret
      exact ⟨rfl, Below.refl _ _⟩
  have hle := sl_le s s.size
  go_enter Trym.func4, Trym.ntmps4
  go_wp2_with fail
  refine (bytes14 s hs _).mono ?_
  rintro e w' ⟨r, rfl, hw⟩
  obtain rfl := hw.symm
  clear hw
  cases r
  · go_wp2
    go_ret
    exact ⟨rfl, Below.refl _ _⟩
  go_wp2_with fail
  refine (above15 s c0 _).mono ?_
  rintro e x1 ⟨ao, cap, rfl, hrow, B1⟩
  go_wp2_with fail
  refine (path11 s _).mono ?_
  rintro e x2 ⟨rfl, B2⟩
  go_wp2_with fail
  have HB2 := hid_of (B1.trans (B2.mono B1.size))
  by_cases h0 : s.size = 0
  · refine (name12z s h0 _).mono ?_
    rintro e x3 ⟨rfl, B3⟩
    have hN : (sl s s.size).length = 0 := by omega
    have hnil : s.toList.isEmpty = true := by
      obtain rfl : s = ByteArray.empty := ByteArray.ext_getElem h0 (fun i hi => by omega)
      rw [ByteArray.toList_eq]
      rfl
    have HB := hid_of (HB2.out.trans (B3.mono HB2.out.size))
    clear B1 B2 B3 HB2 hrow hle
    generalize (sl s s.size).length = N at hN ⊢
    subst hN
    go_wp2
    go_ret
    exact ⟨rfl, HB.out⟩
  · have hpos : 0 < s.size := by omega
    refine (name12 s hpos hs _).mono ?_
    rintro e x3 ⟨rfl, B3⟩
    have hne := not_nil hpos
    have HB := hid_of (HB2.out.trans (B3.mono HB2.out.size))
    have HR := hid_of ((hrow.keep B2).keep B3)
    obtain ⟨q, hq⟩ : ∃ q, s.size = q + 1 := ⟨s.size - 1, by omega⟩
    have hcs := parent_cases hq
    have hrs : (s.extract (seg s) s.size).size ≤ 1048576 := by rw [ByteArray.size_extract]; omega
    obtain ⟨r, hr⟩ : ∃ r, r = s.extract (seg s) s.size := ⟨_, rfl⟩
    rw [← hr] at hcs hrs ⊢
    clear hr B1 B2 B3 HB2 hrow hpos h0
    generalize (sl s s.size).length = N at hcs HR hle ⊢
    rcases hcs with ⟨hl, rfl, hr⟩ | ⟨hl, M, rfl, hcat⟩ | ⟨hl, rfl, hr⟩ | ⟨hl, M, rfl, hcat⟩
    · subst hr
      have hb : ((r[q].toNat : Int) == 47) = false := by rw [isSl_of (by omega)] at hl; simp at hl ⊢; omega
      clear hl HR
      go_wp2
      go_ret
      exact ⟨rfl, HB.out⟩
    · have hb : ((s[q].toNat : Int) == 47) = false := by rw [isSl_of (by omega)] at hl; simp at hl ⊢; omega
      have hz : ((M : Int) + 1 == 0) = false := by simp; omega
      obtain ⟨g, hao, hgl, hc⟩ := HR.out (by omega)
      have hck := hc M (by omega)
      have hxs : (s.extract 0 (slAt s M)).size ≤ 1048576 := by rw [ByteArray.size_extract]; omega
      generalize s.extract 0 (slAt s M) = x at hck hxs hcat
      subst hao
      clear hl HR hc
      go_wp2_with fail
      refine (rel16 x _).mono ?_
      rintro e x4 ⟨rfl, rfl⟩
      go_wp2
      go_ret
      exact ⟨rfl, HB.out.alloc HB.out.size _⟩
    · subst hr
      have hb : ((r[q].toNat : Int) == 47) = true := by rw [isSl_of (by omega)] at hl; simp at hl ⊢; omega
      clear hl HR
      go_wp2
      go_ret
      exact ⟨rfl, HB.out⟩
    · have hb : ((s[q].toNat : Int) == 47) = true := by rw [isSl_of (by omega)] at hl; simp at hl ⊢; omega
      have hz : ((M : Int) + 1 == 0) = false := by simp; omega
      obtain ⟨g, hao, hgl, hc⟩ := HR.out (by omega)
      have hck := hc M (by omega)
      have hxs : (s.extract 0 (slAt s M)).size ≤ 1048576 := by rw [ByteArray.size_extract]; omega
      generalize s.extract 0 (slAt s M) = x at hck hxs hcat
      subst hao
      clear hl HR hc
      go_wp2_with fail
      refine (rel16 x _).mono ?_
      rintro e x4 ⟨rfl, rfl⟩
      go_wp2
      go_ret
      exact ⟨rfl, HB.out.alloc HB.out.size _⟩
end Go.Proofs.Qxb6602767aMods
