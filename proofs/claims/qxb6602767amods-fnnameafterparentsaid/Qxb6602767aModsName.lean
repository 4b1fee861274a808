import Derived.Test.Qxb6602767aModsProg
import Derived.Test.Qxb6602767aModsPlain2
import Derived.Test.Qxb6602767aModsBase
import Derived.WalkKit
import Derived.Outline
import Derived.WalkLawsBesides
import Derived.WalkSpells
import Derived.KernelRfl
namespace Go.Proofs.Qxb6602767aMods
open Go.RowKit

theorem one_slash {s : ByteArray} {n : Nat} (hn : s.size = n + 1) (h : isSl s n = true) : s.extract n (n + 1) = ⟨#[47]⟩ := by
  have hb := isSl_byte h (by omega)
  refine ByteArray.ext_getElem ?_ ?_
  · rw [ByteArray.size_extract]
    show _ = 1
    omega
  · intro i hi hi'
    have hi0 : i = 0 := by
      have : i < 1 := hi'
      omega
    subst hi0
    rw [ByteArray.getElem_extract]
    apply UInt8.toNat.inj
    show _ = 47
    simpa using hb

theorem no_slash {s : ByteArray} {n : Nat} (hn : s.size = n + 1) (h : isSl s n = false) : ((s.extract n (n + 1)).toList == [47]) = false := by
  cases e : (s.extract n (n + 1)).toList == [47]
  · rfl
  · have e1 : (s.extract n (n + 1)).toList = [47] := by simpa using e
    rw [ByteArray.toList_eq] at e1
    have e2 : s.extract n (n + 1) = ⟨#[47]⟩ := ByteArray.ext (Array.toList_inj.1 (by rw [e1]))
    have hsz := @ByteArray.size_extract s n (n + 1)
    have e3 := isSl_extract (s := s) (a := n) (b := n + 1) (i := 0) (by omega)
    rw [e2, Nat.add_zero, h] at e3
    cases e3

set_option maxHeartbeats 400000 in
theorem suffix31 (s : ByteArray) (hs : s.size ≤ 9223372036854775807) (w : World) : Calls Trym.prog 31 #[.string s, .string ⟨#[47]⟩] w fun e w' => e = .returned (.bool (isSl s (s.size - 1))) ∧ w' = w := by
  cases hsz : s.size with
  | zero =>
    have h0 : isSl s (0 - 1) = false := by simp [isSl, hsz]
    rw [h0]
    rw [hsz] at hs
    go_enter Trym.func31, Trym.ntmps31
    go_wp2
    go_ret
    exact ⟨rfl, rfl⟩
  | succ n =>
    simp only [Nat.add_sub_cancel]
    cases h : isSl s n
    · have he := no_slash hsz h
      go_enter Trym.func31, Trym.ntmps31
      go_wp2
      go_ret
      exact ⟨rfl, rfl⟩
    · have he := one_slash hsz h
      go_enter Trym.func31, Trym.ntmps31
      go_wp2
      go_ret
      exact ⟨rfl, rfl⟩

/-- s without its one trailing slash, as far as slashes go. -/
def Trimmed (s x : ByteArray) : Prop := x.size = tl s ∧ ∀ i, i < x.size → isSl x i = isSl s i

set_option maxHeartbeats 400000 in
theorem trim29 (s : ByteArray) (hs : s.size ≤ 9223372036854775807) (w : World) : Calls Trym.prog 29 #[.string s, .string ⟨#[47]⟩] w fun e w' => ∃ x, e = .returned (.string x) ∧ Trimmed s x ∧ w' = w := by
  cases h : isSl s (s.size - 1)
  · have T : Trimmed s s := ⟨(tl_miss h).symm, fun _ _ => rfl⟩
    go_enter Trym.func29, Trym.ntmps29
    go_wp2_with fail
    refine (suffix31 s hs _).mono ?_
    rintro e w' ⟨rfl, hw⟩
    obtain rfl := hw.symm
    clear hw
    go_wp2
    go_ret
    exact ⟨s, rfl, T, rfl⟩
  · have hlt := isSl_lt h
    have T : Trimmed s (s.extract 0 (s.size - 1)) := by
      have hsz := @ByteArray.size_extract s 0 (s.size - 1)
      refine ⟨by rw [tl_hit h, hsz]; omega, fun i hi => ?_⟩
      rw [isSl_extract hi, Nat.zero_add]
    have HT := hid_of T
    clear T
    have hge : (1 : Int) ≤ (s.size : Int) := by omega
    have hnn : ((s.size : Int) - 1).toNat = s.size - 1 := by omega
    go_enter Trym.func29, Trym.ntmps29
    go_wp2_with fail
    refine (suffix31 s hs _).mono ?_
    rintro e w' ⟨rfl, hw⟩
    obtain rfl := hw.symm
    clear hw
    go_wp2
    go_ret
    exact ⟨_, rfl, HT.out, rfl⟩

theorem trim25 (s : ByteArray) (hs : s.size ≤ 9223372036854775807) (w : World) : Calls Trym.prog 25 #[.string s, .string ⟨#[47]⟩] w fun e w' => ∃ x, e = .returned (.string x) ∧ Trimmed s x ∧ w' = w := by
  go_enter Trym.func25, Trym.ntmps25
  go_wp2_with fail
  refine (trim29 s hs _).mono ?_
  rintro e w' ⟨x, rfl, ht, hw⟩
  obtain rfl := hw.symm
  clear hw
  go_wp2
  go_ret
  exact ⟨x, rfl, ht, rfl⟩

set_option maxHeartbeats 400000 in
theorem last28 (x : ByteArray) (hx : x.size ≤ 9223372036854775807) (w : World) : Calls Trym.prog 28 #[.string x, .int .u8 47] w fun e w' => e = .returned (.int .i64 ((st x x.size : Int) - 1)) ∧ w' = w := by
  go_enter Trym.func28, Trym.ntmps28
  go_wp2
  go_loop [5] (fun i => ∃ n : Int, i = .int .i64 n ∧ -1 ≤ n ∧ n < x.size ∧ Hid (st x x.size = st x (n + 1).toNat)) (fun i => (intOf i + 1).toNat)
  case atStart => exact ⟨(x.size : Int) - 1, rfl, by omega, by omega, by unfold Hid; congr 1; omega⟩
  case round =>
    obtain ⟨n, rfl, h1, h2, h3⟩ := hrel
    by_cases h0 : 0 ≤ n
    · obtain ⟨p, rfl⟩ := Int.eq_ofNat_of_zero_le h0
      have hp : p < x.size := by omega
      have e1 : ((p : Int) + 1).toNat = p + 1 := by omega
      cases hsl : isSl x p
      · have hq : ((x[p].toNat : Int) == 47) = false := by rw [isSl_of hp] at hsl; simp at hsl ⊢; omega
        have HS := hid_of (show st x x.size = st x ((p : Int) - 1 + 1).toNat by
          have e2 : ((p : Int) - 1 + 1).toNat = p := by omega
          rw [h3.out, e1, st_miss hsl, e2])
        clear hsl h3 e1
        go_wp2
        go_round
        case rel => exact ⟨(p : Int) - 1, rfl, by omega, by omega, HS⟩
        case measure => simp [intOf]
      · have hq : ((x[p].toNat : Int) == 47) = true := by rw [isSl_of hp] at hsl; simp at hsl ⊢; omega
        have HS := hid_of (show (p : Int) = (st x x.size : Int) - 1 by
          rw [h3.out, e1, st_hit hsl]; omega)
        clear hsl h3 e1
        go_wp2
        go_ret
        exact ⟨ret_int HS.out, rfl⟩
    · obtain rfl : n = -1 := by omega
      have HS := hid_of (show (-1 : Int) = (st x x.size : Int) - 1 by rw [h3.out]; rfl)
      clear h3
      go_wp2
      go_ret
      exact ⟨ret_int HS.out, rfl⟩

theorem last24 (x : ByteArray) (hx : x.size ≤ 9223372036854775807) (w : World) : Calls Trym.prog 24 #[.string x, .int .u8 47] w fun e w' => e = .returned (.int .i64 ((st x x.size : Int) - 1)) ∧ w' = w := by
  go_enter Trym.func24, Trym.ntmps24
  go_wp2_with fail
  refine (last28 x hx _).mono ?_
  rintro e w' ⟨rfl, hw⟩
  obtain rfl := hw.symm
  clear hw
  go_wp2
  go_ret
  exact ⟨rfl, rfl⟩

set_option maxHeartbeats 400000 in
theorem has13 (x : ByteArray) (hx : x.size ≤ 9223372036854775807) (hn : ∀ i, i < x.size → isSl x i = false) (w : World) : Calls Trym.prog 13 #[.string x] w fun e w' => e = .returned (.bool false) ∧ w' = w := by
  have HN := hid_of hn
  clear hn
  go_enter Trym.func13, Trym.ntmps13
  go_wp2
  go_loop [3] (fun i => ∃ k : Nat, k ≤ x.size ∧ i = .int .i64 k) (fun i => x.size - (intOf i).toNat)
  case atStart => exact ⟨0, Nat.zero_le _, rfl⟩
  case round =>
    obtain ⟨k, hk, rfl⟩ := hrel
    by_cases hlt : k < x.size
    · have hsl := HN.out k hlt
      have hq : ((x[k].toNat : Int) == 47) = false := by rw [isSl_of hlt] at hsl; simp at hsl ⊢; omega
      clear hsl
      go_wp2
      go_round
      case rel => exact ⟨k + 1, by omega, by go_num⟩
      case measure => simp [intOf]; omega
    · go_wp2
      go_ret
      exact ⟨rfl, rfl⟩

/-- The root's name. -/
theorem name12z (s : ByteArray) (hs : s.size = 0) (w : World) : Calls Trym.prog 12 #[.agg #[.string s]] w fun e w' => e = .returned (.string ⟨#[47]⟩) ∧ Below w.heap.size w w' := by
  obtain rfl : s = ByteArray.empty := ByteArray.ext_getElem hs (fun i hi => by omega)
  go_enter Trym.func12, Trym.ntmps12
  go_wp2
  go_ret
  exact ⟨rfl, (Below.refl _ _).alloc (Nat.le_refl _) _⟩

theorem not_nil {s : ByteArray} (hs : 0 < s.size) : s.toList.isEmpty = false := by
  rw [ByteArray.toList_eq]
  cases h : s.data.toList.isEmpty
  · rfl
  · have e : s.data.toList = [] := by simpa using h
    have l0 : s.data.toList.length = 0 := by rw [e]; rfl
    have l1 : s.data.toList.length = s.size := rfl
    omega

set_option maxHeartbeats 400000 in
theorem name12 (s : ByteArray) (hs : 0 < s.size) (hs1 : s.size ≤ 9223372036854775807) (w : World) : Calls Trym.prog 12 #[.agg #[.string s]] w fun e w' => e = .returned (.string (s.extract (seg s) s.size)) ∧ Below w.heap.size w w' := by
  have hne := not_nil hs
  have hlt := seg_lt hs
  go_enter Trym.func12, Trym.ntmps12
  go_wp2_with fail
  refine (trim25 s hs1 _).mono ?_
  rintro e w' ⟨x, rfl, ht, hw⟩
  obtain rfl := hw.symm
  clear hw
  have hst : st x x.size = seg s := by
    unfold seg
    rw [st_congr x.size ht.2, ht.1]
  have hxs : x.size ≤ 9223372036854775807 := by
    rw [ht.1]
    unfold tl
    split <;> omega
  have HT := hid_of hst
  clear hst ht
  go_wp2_with fail
  refine (last24 x hxs _).mono ?_
  rintro e w' ⟨rfl, hw⟩
  obtain rfl := hw.symm
  clear hw
  rw [HT.out]
  go_wp2
  go_ret
  exact ⟨rfl, (Below.refl _ _).alloc (Nat.le_refl _) _⟩

theorem path11 (x : ByteArray) (w : World) : Calls Trym.prog 11 #[.string x] w fun e w' => e = .returned (.agg #[.string x]) ∧ Below w.heap.size w w' := by
  go_enter Trym.func11, Trym.ntmps11
  go_wp2
  exact bodyPost_ret (v := .agg #[.string x]) (by simp [results, Trym.results11, go_sem]) rfl ⟨rfl, (Below.refl _ _).alloc (Nat.le_refl _) _⟩

end Go.Proofs.Qxb6602767aMods
