import Derived.Test.Qxb6602445aModsDeep
import Derived.Test.Qxb6602445aModsZze
namespace Go.Proofs.Qxb6602445aMods
open Go.RowKit

theorem spec_new (w : World) (t : ByteArray) (v1 v2 v3 : Value) : Spec (w.alloc (.cells #[.string t, v1, v2, v3] 48)) w.heap.size t v1 v2 v3 := heap_alloc_new w _

theorem below_new (w : World) (o : Obj) : Below w.heap.size w (w.alloc o) := (Below.refl _ _).alloc (Nat.le_refl _) _

theorem below_step {B : Nat} {a b c : World} (h : Below B a b) (hB : B ≤ a.heap.size) (k : Below b.heap.size b c) : Below B a c := h.trans (k.mono (Nat.le_trans hB h.size))

set_option maxRecDepth 100000 in
set_option maxHeartbeats 1000000 in
theorem exact6n1 (a0 : ByteArray) (ao1 : Option Addr) (len1 cap1 : Nat) (S1 : Nat → ByteArray) (ao2 : Option Addr) (len2 cap2 : Nat) (S2 : Nat → ByteArray) (ao3 : Option Addr) (len3 cap3 : Nat) (S3 : Nat → ByteArray) (a4 : ByteArray) (ao5 : Option Addr) (len5 cap5 : Nat) (S5 : Nat → ByteArray) (ao6 : Option Addr) (len6 cap6 : Nat) (S6 : Nat → ByteArray) (ao7 : Option Addr) (len7 cap7 : Nat) (S7 : Nat → ByteArray) (w : World) (w0 : a0.size ≤ 9223372036854775807) (h1 : IsS w ao1 len1 S1) (m1 : len1 ≤ 9223372036854775807) (h2 : IsS w ao2 len2 S2) (m2 : len2 ≤ 9223372036854775807) (h3 : IsS w ao3 len3 S3) (m3 : len3 ≤ 9223372036854775807) (w4 : a4.size ≤ 9223372036854775807) (h5 : IsS w ao5 len5 S5) (m5 : len5 ≤ 9223372036854775807) (h6 : IsS w ao6 len6 S6) (m6 : len6 ≤ 9223372036854775807) (h7 : IsS w ao7 len7 S7) (m7 : len7 ≤ 9223372036854775807)  (d0 : (65536 : Int) < (len1 : Int)) :
    Calls Trym.prog 6 #[.string a0, .slice ao1 len1 cap1, .slice ao2 len2 cap2, .slice ao3 len3 cap3, .string a4, .slice ao5 len5 cap5, .slice ao6 len6 cap6, .slice ao7 len7 cap7] w fun e w' => e = .returned (.bool true) ∧ Below w.heap.size w w' := by
  go_enter Trym.func6, Trym.ntmps6
  go_wp2_with fail
  refine (bytes14 a0 ao1 len1 cap1 S1 ao2 len2 cap2 S2 ao3 len3 cap3 S3 a4 ao5 len5 cap5 S5 ao6 len6 cap6 S6 ao7 len7 cap7 S7 _ w0 h1 m1 h2 m2 h3 m3 w4 h5 m5 h6 m6 h7 m7).mono ?_
  rintro e w' ⟨r, rfl, rfl⟩
  cases r
  all_goals
    go_wp2
    go_ret
    exact ⟨rfl, Below.refl _ _⟩

set_option maxRecDepth 100000 in
set_option maxHeartbeats 1000000 in
theorem exact6n2 (a0 : ByteArray) (ao1 : Option Addr) (len1 cap1 : Nat) (S1 : Nat → ByteArray) (ao2 : Option Addr) (len2 cap2 : Nat) (S2 : Nat → ByteArray) (ao3 : Option Addr) (len3 cap3 : Nat) (S3 : Nat → ByteArray) (a4 : ByteArray) (ao5 : Option Addr) (len5 cap5 : Nat) (S5 : Nat → ByteArray) (ao6 : Option Addr) (len6 cap6 : Nat) (S6 : Nat → ByteArray) (ao7 : Option Addr) (len7 cap7 : Nat) (S7 : Nat → ByteArray) (w : World) (w0 : a0.size ≤ 9223372036854775807) (h1 : IsS w ao1 len1 S1) (m1 : len1 ≤ 9223372036854775807) (h2 : IsS w ao2 len2 S2) (m2 : len2 ≤ 9223372036854775807) (h3 : IsS w ao3 len3 S3) (m3 : len3 ≤ 9223372036854775807) (w4 : a4.size ≤ 9223372036854775807) (h5 : IsS w ao5 len5 S5) (m5 : len5 ≤ 9223372036854775807) (h6 : IsS w ao6 len6 S6) (m6 : len6 ≤ 9223372036854775807) (h7 : IsS w ao7 len7 S7) (m7 : len7 ≤ 9223372036854775807)  (l1 : len1 ≤ 65536) (d0 : (65536 : Int) < (len2 : Int)) :
    Calls Trym.prog 6 #[.string a0, .slice ao1 len1 cap1, .slice ao2 len2 cap2, .slice ao3 len3 cap3, .string a4, .slice ao5 len5 cap5, .slice ao6 len6 cap6, .slice ao7 len7 cap7] w fun e w' => e = .returned (.bool true) ∧ Below w.heap.size w w' := by
  go_enter Trym.func6, Trym.ntmps6
  go_wp2_with fail
  refine (bytes14 a0 ao1 len1 cap1 S1 ao2 len2 cap2 S2 ao3 len3 cap3 S3 a4 ao5 len5 cap5 S5 ao6 len6 cap6 S6 ao7 len7 cap7 S7 _ w0 h1 m1 h2 m2 h3 m3 w4 h5 m5 h6 m6 h7 m7).mono ?_
  rintro e w' ⟨r, rfl, rfl⟩
  cases r
  all_goals
    go_wp2
    go_ret
    exact ⟨rfl, Below.refl _ _⟩

set_option maxRecDepth 100000 in
set_option maxHeartbeats 1000000 in
theorem exact6n3 (a0 : ByteArray) (ao1 : Option Addr) (len1 cap1 : Nat) (S1 : Nat → ByteArray) (ao2 : Option Addr) (len2 cap2 : Nat) (S2 : Nat → ByteArray) (ao3 : Option Addr) (len3 cap3 : Nat) (S3 : Nat → ByteArray) (a4 : ByteArray) (ao5 : Option Addr) (len5 cap5 : Nat) (S5 : Nat → ByteArray) (ao6 : Option Addr) (len6 cap6 : Nat) (S6 : Nat → ByteArray) (ao7 : Option Addr) (len7 cap7 : Nat) (S7 : Nat → ByteArray) (w : World) (w0 : a0.size ≤ 9223372036854775807) (h1 : IsS w ao1 len1 S1) (m1 : len1 ≤ 9223372036854775807) (h2 : IsS w ao2 len2 S2) (m2 : len2 ≤ 9223372036854775807) (h3 : IsS w ao3 len3 S3) (m3 : len3 ≤ 9223372036854775807) (w4 : a4.size ≤ 9223372036854775807) (h5 : IsS w ao5 len5 S5) (m5 : len5 ≤ 9223372036854775807) (h6 : IsS w ao6 len6 S6) (m6 : len6 ≤ 9223372036854775807) (h7 : IsS w ao7 len7 S7) (m7 : len7 ≤ 9223372036854775807)  (l1 : len1 ≤ 65536) (l2 : len2 ≤ 65536) (d0 : (65536 : Int) < (len3 : Int)) :
    Calls Trym.prog 6 #[.string a0, .slice ao1 len1 cap1, .slice ao2 len2 cap2, .slice ao3 len3 cap3, .string a4, .slice ao5 len5 cap5, .slice ao6 len6 cap6, .slice ao7 len7 cap7] w fun e w' => e = .returned (.bool true) ∧ Below w.heap.size w w' := by
  go_enter Trym.func6, Trym.ntmps6
  go_wp2_with fail
  refine (bytes14 a0 ao1 len1 cap1 S1 ao2 len2 cap2 S2 ao3 len3 cap3 S3 a4 ao5 len5 cap5 S5 ao6 len6 cap6 S6 ao7 len7 cap7 S7 _ w0 h1 m1 h2 m2 h3 m3 w4 h5 m5 h6 m6 h7 m7).mono ?_
  rintro e w' ⟨r, rfl, rfl⟩
  cases r
  all_goals
    go_wp2
    go_ret
    exact ⟨rfl, Below.refl _ _⟩

set_option maxRecDepth 100000 in
set_option maxHeartbeats 1000000 in
theorem exact6n5 (a0 : ByteArray) (ao1 : Option Addr) (len1 cap1 : Nat) (S1 : Nat → ByteArray) (ao2 : Option Addr) (len2 cap2 : Nat) (S2 : Nat → ByteArray) (ao3 : Option Addr) (len3 cap3 : Nat) (S3 : Nat → ByteArray) (a4 : ByteArray) (ao5 : Option Addr) (len5 cap5 : Nat) (S5 : Nat → ByteArray) (ao6 : Option Addr) (len6 cap6 : Nat) (S6 : Nat → ByteArray) (ao7 : Option Addr) (len7 cap7 : Nat) (S7 : Nat → ByteArray) (w : World) (w0 : a0.size ≤ 9223372036854775807) (h1 : IsS w ao1 len1 S1) (m1 : len1 ≤ 9223372036854775807) (h2 : IsS w ao2 len2 S2) (m2 : len2 ≤ 9223372036854775807) (h3 : IsS w ao3 len3 S3) (m3 : len3 ≤ 9223372036854775807) (w4 : a4.size ≤ 9223372036854775807) (h5 : IsS w ao5 len5 S5) (m5 : len5 ≤ 9223372036854775807) (h6 : IsS w ao6 len6 S6) (m6 : len6 ≤ 9223372036854775807) (h7 : IsS w ao7 len7 S7) (m7 : len7 ≤ 9223372036854775807)  (l1 : len1 ≤ 65536) (l2 : len2 ≤ 65536) (l3 : len3 ≤ 65536) (d0 : (65536 : Int) < (len5 : Int)) :
    Calls Trym.prog 6 #[.string a0, .slice ao1 len1 cap1, .slice ao2 len2 cap2, .slice ao3 len3 cap3, .string a4, .slice ao5 len5 cap5, .slice ao6 len6 cap6, .slice ao7 len7 cap7] w fun e w' => e = .returned (.bool true) ∧ Below w.heap.size w w' := by
  go_enter Trym.func6, Trym.ntmps6
  go_wp2_with fail
  refine (bytes14 a0 ao1 len1 cap1 S1 ao2 len2 cap2 S2 ao3 len3 cap3 S3 a4 ao5 len5 cap5 S5 ao6 len6 cap6 S6 ao7 len7 cap7 S7 _ w0 h1 m1 h2 m2 h3 m3 w4 h5 m5 h6 m6 h7 m7).mono ?_
  rintro e w' ⟨r, rfl, rfl⟩
  cases r
  all_goals
    go_wp2
    go_ret
    exact ⟨rfl, Below.refl _ _⟩

set_option maxRecDepth 100000 in
set_option maxHeartbeats 1000000 in
theorem exact6n6 (a0 : ByteArray) (ao1 : Option Addr) (len1 cap1 : Nat) (S1 : Nat → ByteArray) (ao2 : Option Addr) (len2 cap2 : Nat) (S2 : Nat → ByteArray) (ao3 : Option Addr) (len3 cap3 : Nat) (S3 : Nat → ByteArray) (a4 : ByteArray) (ao5 : Option Addr) (len5 cap5 : Nat) (S5 : Nat → ByteArray) (ao6 : Option Addr) (len6 cap6 : Nat) (S6 : Nat → ByteArray) (ao7 : Option Addr) (len7 cap7 : Nat) (S7 : Nat → ByteArray) (w : World) (w0 : a0.size ≤ 9223372036854775807) (h1 : IsS w ao1 len1 S1) (m1 : len1 ≤ 9223372036854775807) (h2 : IsS w ao2 len2 S2) (m2 : len2 ≤ 9223372036854775807) (h3 : IsS w ao3 len3 S3) (m3 : len3 ≤ 9223372036854775807) (w4 : a4.size ≤ 9223372036854775807) (h5 : IsS w ao5 len5 S5) (m5 : len5 ≤ 9223372036854775807) (h6 : IsS w ao6 len6 S6) (m6 : len6 ≤ 9223372036854775807) (h7 : IsS w ao7 len7 S7) (m7 : len7 ≤ 9223372036854775807)  (l1 : len1 ≤ 65536) (l2 : len2 ≤ 65536) (l3 : len3 ≤ 65536) (l5 : len5 ≤ 65536) (d0 : (65536 : Int) < (len6 : Int)) :
    Calls Trym.prog 6 #[.string a0, .slice ao1 len1 cap1, .slice ao2 len2 cap2, .slice ao3 len3 cap3, .string a4, .slice ao5 len5 cap5, .slice ao6 len6 cap6, .slice ao7 len7 cap7] w fun e w' => e = .returned (.bool true) ∧ Below w.heap.size w w' := by
  go_enter Trym.func6, Trym.ntmps6
  go_wp2_with fail
  refine (bytes14 a0 ao1 len1 cap1 S1 ao2 len2 cap2 S2 ao3 len3 cap3 S3 a4 ao5 len5 cap5 S5 ao6 len6 cap6 S6 ao7 len7 cap7 S7 _ w0 h1 m1 h2 m2 h3 m3 w4 h5 m5 h6 m6 h7 m7).mono ?_
  rintro e w' ⟨r, rfl, rfl⟩
  cases r
  all_goals
    go_wp2
    go_ret
    exact ⟨rfl, Below.refl _ _⟩

set_option maxRecDepth 100000 in
set_option maxHeartbeats 1000000 in
theorem exact6n7 (a0 : ByteArray) (ao1 : Option Addr) (len1 cap1 : Nat) (S1 : Nat → ByteArray) (ao2 : Option Addr) (len2 cap2 : Nat) (S2 : Nat → ByteArray) (ao3 : Option Addr) (len3 cap3 : Nat) (S3 : Nat → ByteArray) (a4 : ByteArray) (ao5 : Option Addr) (len5 cap5 : Nat) (S5 : Nat → ByteArray) (ao6 : Option Addr) (len6 cap6 : Nat) (S6 : Nat → ByteArray) (ao7 : Option Addr) (len7 cap7 : Nat) (S7 : Nat → ByteArray) (w : World) (w0 : a0.size ≤ 9223372036854775807) (h1 : IsS w ao1 len1 S1) (m1 : len1 ≤ 9223372036854775807) (h2 : IsS w ao2 len2 S2) (m2 : len2 ≤ 9223372036854775807) (h3 : IsS w ao3 len3 S3) (m3 : len3 ≤ 9223372036854775807) (w4 : a4.size ≤ 9223372036854775807) (h5 : IsS w ao5 len5 S5) (m5 : len5 ≤ 9223372036854775807) (h6 : IsS w ao6 len6 S6) (m6 : len6 ≤ 9223372036854775807) (h7 : IsS w ao7 len7 S7) (m7 : len7 ≤ 9223372036854775807)  (l1 : len1 ≤ 65536) (l2 : len2 ≤ 65536) (l3 : len3 ≤ 65536) (l5 : len5 ≤ 65536) (l6 : len6 ≤ 65536) (d0 : (65536 : Int) < (len7 : Int)) :
    Calls Trym.prog 6 #[.string a0, .slice ao1 len1 cap1, .slice ao2 len2 cap2, .slice ao3 len3 cap3, .string a4, .slice ao5 len5 cap5, .slice ao6 len6 cap6, .slice ao7 len7 cap7] w fun e w' => e = .returned (.bool true) ∧ Below w.heap.size w w' := by
  go_enter Trym.func6, Trym.ntmps6
  go_wp2_with fail
  refine (bytes14 a0 ao1 len1 cap1 S1 ao2 len2 cap2 S2 ao3 len3 cap3 S3 a4 ao5 len5 cap5 S5 ao6 len6 cap6 S6 ao7 len7 cap7 S7 _ w0 h1 m1 h2 m2 h3 m3 w4 h5 m5 h6 m6 h7 m7).mono ?_
  rintro e w' ⟨r, rfl, rfl⟩
  cases r
  all_goals
    go_wp2
    go_ret
    exact ⟨rfl, Below.refl _ _⟩

set_option maxRecDepth 100000 in
set_option maxHeartbeats 1000000 in
theorem exact6n0 (a0 : ByteArray) (ao1 : Option Addr) (len1 cap1 : Nat) (S1 : Nat → ByteArray) (ao2 : Option Addr) (len2 cap2 : Nat) (S2 : Nat → ByteArray) (ao3 : Option Addr) (len3 cap3 : Nat) (S3 : Nat → ByteArray) (a4 : ByteArray) (ao5 : Option Addr) (len5 cap5 : Nat) (S5 : Nat → ByteArray) (ao6 : Option Addr) (len6 cap6 : Nat) (S6 : Nat → ByteArray) (ao7 : Option Addr) (len7 cap7 : Nat) (S7 : Nat → ByteArray) (w : World) (w0 : a0.size ≤ 9223372036854775807) (h1 : IsS w ao1 len1 S1) (m1 : len1 ≤ 9223372036854775807) (h2 : IsS w ao2 len2 S2) (m2 : len2 ≤ 9223372036854775807) (h3 : IsS w ao3 len3 S3) (m3 : len3 ≤ 9223372036854775807) (w4 : a4.size ≤ 9223372036854775807) (h5 : IsS w ao5 len5 S5) (m5 : len5 ≤ 9223372036854775807) (h6 : IsS w ao6 len6 S6) (m6 : len6 ≤ 9223372036854775807) (h7 : IsS w ao7 len7 S7) (m7 : len7 ≤ 9223372036854775807)  (l1 : len1 ≤ 65536) (l2 : len2 ≤ 65536) (l3 : len3 ≤ 65536) (l5 : len5 ≤ 65536) (l6 : len6 ≤ 65536) (l7 : len7 ≤ 65536) (d0 : (1048576 : Int) < (a0.size : Int)) :
    Calls Trym.prog 6 #[.string a0, .slice ao1 len1 cap1, .slice ao2 len2 cap2, .slice ao3 len3 cap3, .string a4, .slice ao5 len5 cap5, .slice ao6 len6 cap6, .slice ao7 len7 cap7] w fun e w' => e = .returned (.bool true) ∧ Below w.heap.size w w' := by
  go_enter Trym.func6, Trym.ntmps6
  go_wp2_with fail
  refine (bytes14 a0 ao1 len1 cap1 S1 ao2 len2 cap2 S2 ao3 len3 cap3 S3 a4 ao5 len5 cap5 S5 ao6 len6 cap6 S6 ao7 len7 cap7 S7 _ w0 h1 m1 h2 m2 h3 m3 w4 h5 m5 h6 m6 h7 m7).mono ?_
  rintro e w' ⟨r, rfl, rfl⟩
  cases r
  all_goals
    go_wp2
    go_ret
    exact ⟨rfl, Below.refl _ _⟩

set_option maxRecDepth 100000 in
set_option maxHeartbeats 1000000 in
theorem exact6n4 (a0 : ByteArray) (ao1 : Option Addr) (len1 cap1 : Nat) (S1 : Nat → ByteArray) (ao2 : Option Addr) (len2 cap2 : Nat) (S2 : Nat → ByteArray) (ao3 : Option Addr) (len3 cap3 : Nat) (S3 : Nat → ByteArray) (a4 : ByteArray) (ao5 : Option Addr) (len5 cap5 : Nat) (S5 : Nat → ByteArray) (ao6 : Option Addr) (len6 cap6 : Nat) (S6 : Nat → ByteArray) (ao7 : Option Addr) (len7 cap7 : Nat) (S7 : Nat → ByteArray) (w : World) (w0 : a0.size ≤ 9223372036854775807) (h1 : IsS w ao1 len1 S1) (m1 : len1 ≤ 9223372036854775807) (h2 : IsS w ao2 len2 S2) (m2 : len2 ≤ 9223372036854775807) (h3 : IsS w ao3 len3 S3) (m3 : len3 ≤ 9223372036854775807) (w4 : a4.size ≤ 9223372036854775807) (h5 : IsS w ao5 len5 S5) (m5 : len5 ≤ 9223372036854775807) (h6 : IsS w ao6 len6 S6) (m6 : len6 ≤ 9223372036854775807) (h7 : IsS w ao7 len7 S7) (m7 : len7 ≤ 9223372036854775807)  (l1 : len1 ≤ 65536) (l2 : len2 ≤ 65536) (l3 : len3 ≤ 65536) (l5 : len5 ≤ 65536) (l6 : len6 ≤ 65536) (l7 : len7 ≤ 65536) (c0 : a0.size ≤ 1048576) (d0 : (1048576 : Int) < (a4.size : Int)) :
    Calls Trym.prog 6 #[.string a0, .slice ao1 len1 cap1, .slice ao2 len2 cap2, .slice ao3 len3 cap3, .string a4, .slice ao5 len5 cap5, .slice ao6 len6 cap6, .slice ao7 len7 cap7] w fun e w' => e = .returned (.bool true) ∧ Below w.heap.size w w' := by
  go_enter Trym.func6, Trym.ntmps6
  go_wp2_with fail
  refine (bytes14 a0 ao1 len1 cap1 S1 ao2 len2 cap2 S2 ao3 len3 cap3 S3 a4 ao5 len5 cap5 S5 ao6 len6 cap6 S6 ao7 len7 cap7 S7 _ w0 h1 m1 h2 m2 h3 m3 w4 h5 m5 h6 m6 h7 m7).mono ?_
  rintro e w' ⟨r, rfl, rfl⟩
  cases r
  all_goals
    go_wp2
    go_ret
    exact ⟨rfl, Below.refl _ _⟩
end Go.Proofs.Qxb6602445aMods
