import Derived.Test.Qxb6602445aModsDeep
import Derived.Test.Qxb6602445aModsZzs
namespace Go.Proofs.Qxb6602445aMods
open Go.RowKit

theorem spec_new (w : World) (t : ByteArray) (v1 v2 v3 : Value) : Spec (w.alloc (.cells #[.string t, v1, v2, v3] 48)) w.heap.size t v1 v2 v3 := heap_alloc_new w _

theorem below_new (w : World) (o : Obj) : Below w.heap.size w (w.alloc o) := (Below.refl _ _).alloc (Nat.le_refl _) _

theorem below_step {B : Nat} {a b c : World} (h : Below B a b) (hB : B ≤ a.heap.size) (k : Below b.heap.size b c) : Below B a c := h.trans (k.mono (Nat.le_trans hB h.size))

theorem below_drawn {B : Nat} {a w : World} (h : Below B a w) (n : Nat) : Below B a (w.drewN n) := ⟨h.os, h.tape, h.output, h.size, h.block⟩

theorem own_far {W : World} {E : TypeId} {ao bo : Option Addr} {len : Nat} {S : Nat → ByteArray} (h : Own W E ao len S) (hg : ∀ b, bo = some b → W.heap.size ≤ b.block) : ∀ a b, ao = some a → bo = some b → b.block ≠ a.block := by
  intro a b ha hb
  have := h.lt a ha
  have := hg b hb
  omega

theorem spec_touch {x y : World} {E : TypeId} {bo : Option Addr} {q n : Nat} {S : Nat → ByteArray} {t : ByteArray} {v1 v2 v3 : Value} (hq : Spec x q t v1 v2 v3) (T : Touch x y bo) (o : Own x E bo n S) (hE : E ≠ 48) : Spec y q t v1 v2 v3 :=
  hq.keep (T.2.2.2.2 q hq.lt (fun a ha e => own_spec o hq hE a ⟨q, 0, none⟩ ha rfl e.symm))

theorem below_touch {w x y : World} {bo : Option Addr} (hB : Below w.heap.size w x) (T : Touch x y bo) (r : ∀ b, bo = some b → w.heap.size ≤ b.block) : Below w.heap.size w y := hB.trans (T.below r hB.size)


theorem smark1 {w x y : World} {q : Nat} {t : ByteArray} {q1 q2 q3 : Value} {b1 b2 b3 u1 u2 u3 : Option Addr} {n1 n2 n3 : Nat} {S1 S2 S3 : Nat → ByteArray} {k : Nat}
    (h : Spec x q t q1 q2 q3 ∧ Below w.heap.size w x ∧ Own x 58 b1 n1 S1 ∧ Own x 60 b2 n2 S2 ∧ Own x 61 b3 n3 S3 ∧ Own x 58 u1 n1 S1 ∧ Own x 60 u2 n2 S2 ∧ Own x 61 u3 n3 S3)
    (T0 : Touch (x.drewN k) y u1) (r : ∀ b, u1 = some b → w.heap.size ≤ b.block)
    (f1 : ∀ a b, b1 = some a → u1 = some b → b.block ≠ a.block) (f2 : ∀ a b, b2 = some a → u1 = some b → b.block ≠ a.block) (f3 : ∀ a b, b3 = some a → u1 = some b → b.block ≠ a.block) :
    Spec y q t q1 q2 q3 ∧ Below w.heap.size w y ∧ Own y 58 b1 n1 S1 ∧ Own y 60 b2 n2 S2 ∧ Own y 61 b3 n3 S3 ∧ Own y 60 u2 n2 S2 ∧ Own y 61 u3 n3 S3 := by
  have T : Touch x y u1 := T0
  obtain ⟨Q, B, o1, o2, o3, v1, v2, v3⟩ := h
  exact ⟨spec_touch Q T v1 (by decide), below_touch B T r, own_touch o1 T f1, own_touch o2 T f2, own_touch o3 T f3, own_touch v2 T (own_own v2 v1 (by decide)), own_touch v3 T (own_own v3 v1 (by decide))⟩

theorem smark2 {w x y : World} {q : Nat} {t : ByteArray} {q1 q2 q3 : Value} {b1 b2 b3 u2 u3 : Option Addr} {n1 n2 n3 : Nat} {S1 S2 S3 : Nat → ByteArray}
    (h : Spec x q t q1 q2 q3 ∧ Below w.heap.size w x ∧ Own x 58 b1 n1 S1 ∧ Own x 60 b2 n2 S2 ∧ Own x 61 b3 n3 S3 ∧ Own x 60 u2 n2 S2 ∧ Own x 61 u3 n3 S3)
    (T : Touch x y u2) (r : ∀ b, u2 = some b → w.heap.size ≤ b.block)
    (f1 : ∀ a b, b1 = some a → u2 = some b → b.block ≠ a.block) (f2 : ∀ a b, b2 = some a → u2 = some b → b.block ≠ a.block) (f3 : ∀ a b, b3 = some a → u2 = some b → b.block ≠ a.block) :
    Spec y q t q1 q2 q3 ∧ Below w.heap.size w y ∧ Own y 58 b1 n1 S1 ∧ Own y 60 b2 n2 S2 ∧ Own y 61 b3 n3 S3 ∧ Own y 61 u3 n3 S3 := by
  obtain ⟨Q, B, o1, o2, o3, v2, v3⟩ := h
  exact ⟨spec_touch Q T v2 (by decide), below_touch B T r, own_touch o1 T f1, own_touch o2 T f2, own_touch o3 T f3, own_touch v3 T (own_own v3 v2 (by decide))⟩

theorem smark3 {w x y : World} {q : Nat} {t : ByteArray} {q1 q2 q3 : Value} {b1 b2 b3 u3 : Option Addr} {n1 n2 n3 : Nat} {S1 S2 S3 : Nat → ByteArray}
    (h : Spec x q t q1 q2 q3 ∧ Below w.heap.size w x ∧ Own x 58 b1 n1 S1 ∧ Own x 60 b2 n2 S2 ∧ Own x 61 b3 n3 S3 ∧ Own x 61 u3 n3 S3)
    (T : Touch x y u3) (r : ∀ b, u3 = some b → w.heap.size ≤ b.block)
    (f1 : ∀ a b, b1 = some a → u3 = some b → b.block ≠ a.block) (f2 : ∀ a b, b2 = some a → u3 = some b → b.block ≠ a.block) (f3 : ∀ a b, b3 = some a → u3 = some b → b.block ≠ a.block) :
    Spec y q t q1 q2 q3 ∧ Below w.heap.size w y ∧ Own y 58 b1 n1 S1 ∧ Own y 60 b2 n2 S2 ∧ Own y 61 b3 n3 S3 := by
  obtain ⟨Q, B, o1, o2, o3, v3⟩ := h
  exact ⟨spec_touch Q T v3 (by decide), below_touch B T r, own_touch o1 T f1, own_touch o2 T f2, own_touch o3 T f3⟩

set_option maxRecDepth 100000 in
set_option maxHeartbeats 1000000 in
theorem self7n1 (a0 : ByteArray) (ao1 : Option Addr) (len1 cap1 : Nat) (S1 : Nat → ByteArray) (ao2 : Option Addr) (len2 cap2 : Nat) (S2 : Nat → ByteArray) (ao3 : Option Addr) (len3 cap3 : Nat) (S3 : Nat → ByteArray) (w : World) (w0 : a0.size ≤ 9223372036854775807) (h1 : IsS w ao1 len1 S1) (m1 : len1 ≤ 9223372036854775807) (h2 : IsS w ao2 len2 S2) (m2 : len2 ≤ 9223372036854775807) (h3 : IsS w ao3 len3 S3) (m3 : len3 ≤ 9223372036854775807)  (d0 : (65536 : Int) < (len1 : Int)) :
    Calls Trym.prog 7 #[.string a0, .slice ao1 len1 cap1, .slice ao2 len2 cap2, .slice ao3 len3 cap3] w fun e w' => e = .returned (.bool true) ∧ Below w.heap.size w w' := by
  go_enter Trym.func7, Trym.ntmps7
  go_wp2_with fail
  refine (bytes26 a0 ao1 len1 cap1 S1 ao2 len2 cap2 S2 ao3 len3 cap3 S3 _ w0 h1 m1 h2 m2 h3 m3).mono ?_
  rintro e w' ⟨r, rfl, rfl⟩
  cases r
  all_goals
    go_wp2
    go_ret
    exact ⟨rfl, Below.refl _ _⟩

set_option maxRecDepth 100000 in
set_option maxHeartbeats 1000000 in
theorem self7n2 (a0 : ByteArray) (ao1 : Option Addr) (len1 cap1 : Nat) (S1 : Nat → ByteArray) (ao2 : Option Addr) (len2 cap2 : Nat) (S2 : Nat → ByteArray) (ao3 : Option Addr) (len3 cap3 : Nat) (S3 : Nat → ByteArray) (w : World) (w0 : a0.size ≤ 9223372036854775807) (h1 : IsS w ao1 len1 S1) (m1 : len1 ≤ 9223372036854775807) (h2 : IsS w ao2 len2 S2) (m2 : len2 ≤ 9223372036854775807) (h3 : IsS w ao3 len3 S3) (m3 : len3 ≤ 9223372036854775807)  (l1 : len1 ≤ 65536) (d0 : (65536 : Int) < (len2 : Int)) :
    Calls Trym.prog 7 #[.string a0, .slice ao1 len1 cap1, .slice ao2 len2 cap2, .slice ao3 len3 cap3] w fun e w' => e = .returned (.bool true) ∧ Below w.heap.size w w' := by
  go_enter Trym.func7, Trym.ntmps7
  go_wp2_with fail
  refine (bytes26 a0 ao1 len1 cap1 S1 ao2 len2 cap2 S2 ao3 len3 cap3 S3 _ w0 h1 m1 h2 m2 h3 m3).mono ?_
  rintro e w' ⟨r, rfl, rfl⟩
  cases r
  all_goals
    go_wp2
    go_ret
    exact ⟨rfl, Below.refl _ _⟩

set_option maxRecDepth 100000 in
set_option maxHeartbeats 1000000 in
theorem self7n3 (a0 : ByteArray) (ao1 : Option Addr) (len1 cap1 : Nat) (S1 : Nat → ByteArray) (ao2 : Option Addr) (len2 cap2 : Nat) (S2 : Nat → ByteArray) (ao3 : Option Addr) (len3 cap3 : Nat) (S3 : Nat → ByteArray) (w : World) (w0 : a0.size ≤ 9223372036854775807) (h1 : IsS w ao1 len1 S1) (m1 : len1 ≤ 9223372036854775807) (h2 : IsS w ao2 len2 S2) (m2 : len2 ≤ 9223372036854775807) (h3 : IsS w ao3 len3 S3) (m3 : len3 ≤ 9223372036854775807)  (l1 : len1 ≤ 65536) (l2 : len2 ≤ 65536) (d0 : (65536 : Int) < (len3 : Int)) :
    Calls Trym.prog 7 #[.string a0, .slice ao1 len1 cap1, .slice ao2 len2 cap2, .slice ao3 len3 cap3] w fun e w' => e = .returned (.bool true) ∧ Below w.heap.size w w' := by
  go_enter Trym.func7, Trym.ntmps7
  go_wp2_with fail
  refine (bytes26 a0 ao1 len1 cap1 S1 ao2 len2 cap2 S2 ao3 len3 cap3 S3 _ w0 h1 m1 h2 m2 h3 m3).mono ?_
  rintro e w' ⟨r, rfl, rfl⟩
  cases r
  all_goals
    go_wp2
    go_ret
    exact ⟨rfl, Below.refl _ _⟩

set_option maxRecDepth 100000 in
set_option maxHeartbeats 1000000 in
theorem self7n0 (a0 : ByteArray) (ao1 : Option Addr) (len1 cap1 : Nat) (S1 : Nat → ByteArray) (ao2 : Option Addr) (len2 cap2 : Nat) (S2 : Nat → ByteArray) (ao3 : Option Addr) (len3 cap3 : Nat) (S3 : Nat → ByteArray) (w : World) (w0 : a0.size ≤ 9223372036854775807) (h1 : IsS w ao1 len1 S1) (m1 : len1 ≤ 9223372036854775807) (h2 : IsS w ao2 len2 S2) (m2 : len2 ≤ 9223372036854775807) (h3 : IsS w ao3 len3 S3) (m3 : len3 ≤ 9223372036854775807)  (l1 : len1 ≤ 65536) (l2 : len2 ≤ 65536) (l3 : len3 ≤ 65536) (d0 : (1048576 : Int) < (a0.size : Int)) :
    Calls Trym.prog 7 #[.string a0, .slice ao1 len1 cap1, .slice ao2 len2 cap2, .slice ao3 len3 cap3] w fun e w' => e = .returned (.bool true) ∧ Below w.heap.size w w' := by
  go_enter Trym.func7, Trym.ntmps7
  go_wp2_with fail
  refine (bytes26 a0 ao1 len1 cap1 S1 ao2 len2 cap2 S2 ao3 len3 cap3 S3 _ w0 h1 m1 h2 m2 h3 m3).mono ?_
  rintro e w' ⟨r, rfl, rfl⟩
  cases r
  all_goals
    go_wp2
    go_ret
    exact ⟨rfl, Below.refl _ _⟩

set_option maxRecDepth 100000 in
set_option maxHeartbeats 4000000 in
theorem self7main (a0 : ByteArray) (ao1 : Option Addr) (len1 cap1 : Nat) (S1 : Nat → ByteArray) (ao2 : Option Addr) (len2 cap2 : Nat) (S2 : Nat → ByteArray) (ao3 : Option Addr) (len3 cap3 : Nat) (S3 : Nat → ByteArray) (w : World) (w0 : a0.size ≤ 9223372036854775807) (h1 : IsS w ao1 len1 S1) (m1 : len1 ≤ 9223372036854775807) (h2 : IsS w ao2 len2 S2) (m2 : len2 ≤ 9223372036854775807) (h3 : IsS w ao3 len3 S3) (m3 : len3 ≤ 9223372036854775807) (l1 : len1 ≤ 65536) (l2 : len2 ≤ 65536) (l3 : len3 ≤ 65536) (c0 : a0.size ≤ 1048576) :
    Calls Trym.prog 7 #[.string a0, .slice ao1 len1 cap1, .slice ao2 len2 cap2, .slice ao3 len3 cap3] w fun e w' => e = .returned (.bool true) ∧ Below w.heap.size w w' := by
  go_enter Trym.func7, Trym.ntmps7
  go_wp2_with fail
  refine (bytes26 a0 ao1 len1 cap1 S1 ao2 len2 cap2 S2 ao3 len3 cap3 S3 _ w0 h1 m1 h2 m2 h3 m3).mono ?_
  rintro e w' ⟨r, rfl, hw⟩
  obtain rfl := hw.symm
  clear hw
  cases r
  · go_wp2
    go_ret
    exact ⟨rfl, Below.refl _ _⟩
  go_wp2_with fail
  refine (bytes15 ao1 len1 cap1 S1 _ h1 l1).mono ?_
  rintro e w' ⟨t1, rfl, hw, lo1, hi1, z1⟩
  obtain rfl := hw.symm
  have Z1 := hid_of z1
  clear z1 hw
  go_wp2_with fail
  refine (bytes15 ao2 len2 cap2 S2 _ h2 l2).mono ?_
  rintro e w' ⟨t2, rfl, hw, lo2, hi2, z2⟩
  obtain rfl := hw.symm
  have Z2 := hid_of z2
  clear z2 hw
  go_wp2_with fail
  refine (bytes15 ao3 len3 cap3 S3 _ h3 l3).mono ?_
  rintro e w' ⟨t3, rfl, hw, lo3, hi3, z3⟩
  obtain rfl := hw.symm
  have Z3 := hid_of z3
  clear z3 hw
  by_cases htot : (a0.size : Int) + t1 + t2 + t3 ≤ 1048576
  case neg =>
    have htot' : 1048576 < (a0.size : Int) + t1 + t2 + t3 := by omega
    go_wp2
    go_ret
    exact ⟨rfl, Below.refl _ _⟩
  have z1 := hid_of (Z1.out (by omega))
  have z2 := hid_of (Z2.out (by omega))
  have z3 := hid_of (Z3.out (by omega))
  clear Z1 Z2 Z3
  go_wp2_with fail
  clear htot
  refine (to16 ao1 len1 cap1 S1 _ h1 l1).mono ?_
  rintro e x1 ⟨u1, rfl, o1, nu1, gu1, B1⟩
  have g2 := h2.keep (Nat.le_refl _) B1
  have H1 := hid_of (And.intro o1 (And.intro nu1 B1))
  have R1 := hid_of gu1
  clear o1 nu1 gu1 B1
  go_wp2_with fail
  refine (to17 ao2 len2 cap2 S2 _ g2 l2).mono ?_
  rintro e x2 ⟨u2, rfl, o2, nu2, gu2, bel⟩
  have R2 := hid_of (fun a ha => Nat.le_trans H1.out.2.2.size (gu2 a ha))
  have B2 := below_step H1.out.2.2 (Nat.le_refl _) bel
  have g3 := h3.keep (Nat.le_refl _) B2
  have H2 := hid_of (And.intro (own_below H1.out.1 bel) (And.intro H1.out.2.1 (And.intro o2 (And.intro nu2 B2))))
  clear o2 nu2 gu2 B2 bel H1 g2
  go_wp2_with fail
  refine (to18 ao3 len3 cap3 S3 _ g3 l3).mono ?_
  rintro e x3 ⟨u3, rfl, o3, nu3, gu3, bel⟩
  have R3 := hid_of (fun a ha => Nat.le_trans H2.out.2.2.2.2.size (gu3 a ha))
  have B3 := below_step H2.out.2.2.2.2 (Nat.le_refl _) bel
  have bn := below_new x3 (.cells #[.string a0, .slice u1 len1 len1, .slice u2 len2 len2, .slice u3 len3 len3] 48)
  have B4 := below_step B3 (Nat.le_refl _) bn
  have NU := hid_of (And.intro H2.out.2.1 (And.intro H2.out.2.2.2.1 nu3))
  have H4 := hid_of (And.intro (own_below (own_below H2.out.1 bel) bn) (And.intro (own_below (own_below H2.out.2.2.1 bel) bn) (And.intro (own_below o3 bn) (And.intro (spec_new x3 a0 (.slice u1 len1 len1) (.slice u2 len2 len2) (.slice u3 len3 len3)) (And.intro B4 B3.size)))))
  clear o3 nu3 gu3 B3 B4 bn bel H2 g3
  go_wp2_with fail
  refine (deep19s _ a0 u1 u2 u3 len1 len2 len3 S1 S2 S3 _ H4.out.2.2.2.1 H4.out.1 H4.out.2.1 H4.out.2.2.1 l1 l2 l3).mono ?_
  rintro e x8 ⟨rfl, b1, b2, b3, Q8, ob1, ob2, ob3, nb1, nb2, nb3, gb1, gb2, gb3, T8⟩
  have B8 : Below w.heap.size w x8 := H4.out.2.2.2.2.1.trans (T8.below (fun a ha => by cases ha; exact H4.out.2.2.2.2.2) H4.out.2.2.2.2.1.size)
  have oa1 := own_touch H4.out.1 T8 (own_spec H4.out.1 H4.out.2.2.2.1 (by decide))
  have oa2 := own_touch H4.out.2.1 T8 (own_spec H4.out.2.1 H4.out.2.2.2.1 (by decide))
  have oa3 := own_touch H4.out.2.2.1 T8 (own_spec H4.out.2.2.1 H4.out.2.2.2.1 (by decide))
  have k1 := hid_of (nb1.trans NU.out.1)
  have k2 := hid_of (nb2.trans NU.out.2.1)
  have k3 := hid_of (nb3.trans NU.out.2.2)
  have f11 := hid_of (fun a b (ha : b1 = some a) (hb : u1 = some b) => (own_far H4.out.1 gb1 b a hb ha).symm)
  have f12 := hid_of (fun a b (ha : b1 = some a) (hb : u2 = some b) => (own_far H4.out.2.1 gb1 b a hb ha).symm)
  have f13 := hid_of (fun a b (ha : b1 = some a) (hb : u3 = some b) => (own_far H4.out.2.2.1 gb1 b a hb ha).symm)
  have f21 := hid_of (fun a b (ha : b2 = some a) (hb : u1 = some b) => (own_far H4.out.1 gb2 b a hb ha).symm)
  have f22 := hid_of (fun a b (ha : b2 = some a) (hb : u2 = some b) => (own_far H4.out.2.1 gb2 b a hb ha).symm)
  have f23 := hid_of (fun a b (ha : b2 = some a) (hb : u3 = some b) => (own_far H4.out.2.2.1 gb2 b a hb ha).symm)
  have f31 := hid_of (fun a b (ha : b3 = some a) (hb : u1 = some b) => (own_far H4.out.1 gb3 b a hb ha).symm)
  have f32 := hid_of (fun a b (ha : b3 = some a) (hb : u2 = some b) => (own_far H4.out.2.1 gb3 b a hb ha).symm)
  have f33 := hid_of (fun a b (ha : b3 = some a) (hb : u3 = some b) => (own_far H4.out.2.2.1 gb3 b a hb ha).symm)
  have i1 := hid_of (h1.keep (Nat.le_refl _) B8)
  have i2 := hid_of (h2.keep (Nat.le_refl _) B8)
  have i3 := hid_of (h3.keep (Nat.le_refl _) B8)
  clear nb1 nb2 nb3 gb1 gb2 gb3 T8 H4
  have cq0 := Q8.cell0
  have cq1 := Q8.cell1
  have cq2 := Q8.cell2
  have cq3 := Q8.cell3
  have HX := hid_of (And.intro Q8 (And.intro B8 (And.intro ob1 (And.intro ob2 (And.intro ob3 (And.intro oa1 (And.intro oa2 oa3)))))))
  clear Q8 B8 ob1 ob2 ob3 oa1 oa2 oa3
  go_wp2_with fail
  refine (match20 b1 ao1 len1 cap1 S1 _ (by exact HX.out.2.2.1) (by exact i1.out) k1.out l1).mono ?_
  rintro e y1 ⟨rfl, n1, rfl⟩
  go_wp2_with fail
  refine (match21 b2 ao2 len2 cap2 S2 _ (by exact HX.out.2.2.2.1) (by exact i2.out) k2.out l2).mono ?_
  rintro e y2 ⟨rfl, n2, rfl⟩
  go_wp2_with fail
  refine (match22 b3 ao3 len3 cap3 S3 _ (by exact HX.out.2.2.2.2.1) (by exact i3.out) k3.out l3).mono ?_
  rintro e y3 ⟨rfl, n3, rfl⟩
  go_wp2_with fail
  clear cq0 cq1 cq2 cq3
  refine (mark23 u1 len1 S1 _ (by exact HX.out.2.2.2.2.2.1) l1 z1.out).mono ?_
  rintro e x9 ⟨rfl, T9⟩
  have HY := hid_of (smark1 HX.out T9 R1.out f11.out f21.out f31.out)
  clear HX T9
  go_wp2_with fail
  refine (mark24 u2 len2 S2 _ (by exact HY.out.2.2.2.2.2.1) l2 z2.out).mono ?_
  rintro e x10 ⟨rfl, T10⟩
  have HZ := hid_of (smark2 HY.out T10 R2.out f12.out f22.out f32.out)
  clear HY T10
  go_wp2_with fail
  refine (mark25 u3 len3 S3 _ (by exact HZ.out.2.2.2.2.2) l3 z3.out).mono ?_
  rintro e x11 ⟨rfl, T11⟩
  have HW := hid_of (smark3 HZ.out T11 R3.out f13.out f23.out f33.out)
  clear HZ T11
  have cq1 := HW.out.1.cell1
  have cq2 := HW.out.1.cell2
  have cq3 := HW.out.1.cell3
  clear i1 i2 i3
  have j1 := hid_of (h1.keep (Nat.le_refl _) HW.out.2.1)
  have j2 := hid_of (h2.keep (Nat.le_refl _) HW.out.2.1)
  have j3 := hid_of (h3.keep (Nat.le_refl _) HW.out.2.1)
  go_wp2_with fail
  refine (match20 b1 ao1 len1 cap1 S1 _ (by exact HW.out.2.2.1) (by exact j1.out) k1.out l1).mono ?_
  rintro e y7 ⟨rfl, n7, rfl⟩
  go_wp2_with fail
  refine (match21 b2 ao2 len2 cap2 S2 _ (by exact HW.out.2.2.2.1) (by exact j2.out) k2.out l2).mono ?_
  rintro e y8 ⟨rfl, n8, rfl⟩
  go_wp2_with fail
  refine (match22 b3 ao3 len3 cap3 S3 _ (by exact HW.out.2.2.2.2) (by exact j3.out) k3.out l3).mono ?_
  rintro e y9 ⟨rfl, n9, rfl⟩
  go_wp2
  go_ret
  exact ⟨rfl, below_drawn HW.out.2.1 _⟩

theorem self7 (a0 : ByteArray) (ao1 : Option Addr) (len1 cap1 : Nat) (S1 : Nat → ByteArray) (ao2 : Option Addr) (len2 cap2 : Nat) (S2 : Nat → ByteArray) (ao3 : Option Addr) (len3 cap3 : Nat) (S3 : Nat → ByteArray) (w : World) (w0 : a0.size ≤ 9223372036854775807) (h1 : IsS w ao1 len1 S1) (m1 : len1 ≤ 9223372036854775807) (h2 : IsS w ao2 len2 S2) (m2 : len2 ≤ 9223372036854775807) (h3 : IsS w ao3 len3 S3) (m3 : len3 ≤ 9223372036854775807) :
    Calls Trym.prog 7 #[.string a0, .slice ao1 len1 cap1, .slice ao2 len2 cap2, .slice ao3 len3 cap3] w fun e w' => e = .returned (.bool true) ∧ Below w.heap.size w w' := by
  by_cases l1 : len1 ≤ 65536
  case neg => exact self7n1 a0 ao1 len1 cap1 S1 ao2 len2 cap2 S2 ao3 len3 cap3 S3 w w0 h1 m1 h2 m2 h3 m3 (by omega)
  by_cases l2 : len2 ≤ 65536
  case neg => exact self7n2 a0 ao1 len1 cap1 S1 ao2 len2 cap2 S2 ao3 len3 cap3 S3 w w0 h1 m1 h2 m2 h3 m3 l1 (by omega)
  by_cases l3 : len3 ≤ 65536
  case neg => exact self7n3 a0 ao1 len1 cap1 S1 ao2 len2 cap2 S2 ao3 len3 cap3 S3 w w0 h1 m1 h2 m2 h3 m3 l1 l2 (by omega)
  by_cases c0 : a0.size ≤ 1048576
  case neg => exact self7n0 a0 ao1 len1 cap1 S1 ao2 len2 cap2 S2 ao3 len3 cap3 S3 w w0 h1 m1 h2 m2 h3 m3 l1 l2 l3 (by omega)
  exact self7main a0 ao1 len1 cap1 S1 ao2 len2 cap2 S2 ao3 len3 cap3 S3 w w0 h1 m1 h2 m2 h3 m3 l1 l2 l3 c0
end Go.Proofs.Qxb6602445aMods
