import Derived.Test.Qxb6602445aModsExact1
namespace Go.Proofs.Qxb6602445aMods
open Go.RowKit

theorem below_drawn {B : Nat} {a w : World} (h : Below B a w) (n : Nat) : Below B a (w.drewN n) := ⟨h.os, h.tape, h.output, h.size, h.block⟩

theorem own_far {W : World} {E : TypeId} {ao bo : Option Addr} {len : Nat} {S : Nat → ByteArray} (h : Own W E ao len S) (hg : ∀ b, bo = some b → W.heap.size ≤ b.block) : ∀ a b, ao = some a → bo = some b → b.block ≠ a.block := by
  intro a b ha hb
  have := h.lt a ha
  have := hg b hb
  omega

theorem spec_touch {x y : World} {E : TypeId} {bo : Option Addr} {q n : Nat} {S : Nat → ByteArray} {t : ByteArray} {v1 v2 v3 : Value} (hq : Spec x q t v1 v2 v3) (T : Touch x y bo) (o : Own x E bo n S) (hE : E ≠ 48) : Spec y q t v1 v2 v3 :=
  hq.keep (T.2.2.2.2 q hq.lt (fun a ha e => own_spec o hq hE a ⟨q, 0, none⟩ ha rfl e.symm))

theorem below_touch {w x y : World} {bo : Option Addr} (hB : Below w.heap.size w x) (T : Touch x y bo) (r : ∀ b, bo = some b → w.heap.size ≤ b.block) : Below w.heap.size w y := hB.trans (T.below r hB.size)

theorem marked1 {w x y : World} {q p : Nat} {t : ByteArray} {q1 q2 q3 p1 p2 p3 : Value} {b1 b2 b3 u1 u2 u3 : Option Addr} {n1 n2 n3 : Nat} {S1 S2 S3 : Nat → ByteArray} {k : Nat}
    (h : Spec x q t q1 q2 q3 ∧ Spec x p t p1 p2 p3 ∧ Below w.heap.size w x ∧ Own x 58 b1 n1 S1 ∧ Own x 60 b2 n2 S2 ∧ Own x 61 b3 n3 S3 ∧ Own x 58 u1 n1 S1 ∧ Own x 60 u2 n2 S2 ∧ Own x 61 u3 n3 S3)
    (T0 : Touch (x.drewN k) y b1) (r : ∀ b, b1 = some b → w.heap.size ≤ b.block)
    (f1 : ∀ a b, u1 = some a → b1 = some b → b.block ≠ a.block) (f2 : ∀ a b, u2 = some a → b1 = some b → b.block ≠ a.block) (f3 : ∀ a b, u3 = some a → b1 = some b → b.block ≠ a.block) :
    Spec y q t q1 q2 q3 ∧ Spec y p t p1 p2 p3 ∧ Below w.heap.size w y ∧ Own y 60 b2 n2 S2 ∧ Own y 61 b3 n3 S3 ∧ Own y 58 u1 n1 S1 ∧ Own y 60 u2 n2 S2 ∧ Own y 61 u3 n3 S3 := by
  have T : Touch x y b1 := T0
  obtain ⟨Q, P, B, o1, o2, o3, v1, v2, v3⟩ := h
  exact ⟨spec_touch Q T o1 (by decide), spec_touch P T o1 (by decide), below_touch B T r, own_touch o2 T (own_own o2 o1 (by decide)), own_touch o3 T (own_own o3 o1 (by decide)), own_touch v1 T f1, own_touch v2 T f2, own_touch v3 T f3⟩

theorem marked2 {w x y : World} {q p : Nat} {t : ByteArray} {q1 q2 q3 p1 p2 p3 : Value} {b2 b3 u1 u2 u3 : Option Addr} {n1 n2 n3 : Nat} {S1 S2 S3 : Nat → ByteArray}
    (h : Spec x q t q1 q2 q3 ∧ Spec x p t p1 p2 p3 ∧ Below w.heap.size w x ∧ Own x 60 b2 n2 S2 ∧ Own x 61 b3 n3 S3 ∧ Own x 58 u1 n1 S1 ∧ Own x 60 u2 n2 S2 ∧ Own x 61 u3 n3 S3)
    (T : Touch x y b2) (r : ∀ b, b2 = some b → w.heap.size ≤ b.block)
    (f1 : ∀ a b, u1 = some a → b2 = some b → b.block ≠ a.block) (f2 : ∀ a b, u2 = some a → b2 = some b → b.block ≠ a.block) (f3 : ∀ a b, u3 = some a → b2 = some b → b.block ≠ a.block) :
    Spec y q t q1 q2 q3 ∧ Spec y p t p1 p2 p3 ∧ Below w.heap.size w y ∧ Own y 61 b3 n3 S3 ∧ Own y 58 u1 n1 S1 ∧ Own y 60 u2 n2 S2 ∧ Own y 61 u3 n3 S3 := by
  obtain ⟨Q, P, B, o2, o3, v1, v2, v3⟩ := h
  exact ⟨spec_touch Q T o2 (by decide), spec_touch P T o2 (by decide), below_touch B T r, own_touch o3 T (own_own o3 o2 (by decide)), own_touch v1 T f1, own_touch v2 T f2, own_touch v3 T f3⟩

theorem marked3 {w x y : World} {q p : Nat} {t : ByteArray} {q1 q2 q3 p1 p2 p3 : Value} {b3 u1 u2 u3 : Option Addr} {n1 n2 n3 : Nat} {S1 S2 S3 : Nat → ByteArray}
    (h : Spec x q t q1 q2 q3 ∧ Spec x p t p1 p2 p3 ∧ Below w.heap.size w x ∧ Own x 61 b3 n3 S3 ∧ Own x 58 u1 n1 S1 ∧ Own x 60 u2 n2 S2 ∧ Own x 61 u3 n3 S3)
    (T : Touch x y b3) (r : ∀ b, b3 = some b → w.heap.size ≤ b.block)
    (f1 : ∀ a b, u1 = some a → b3 = some b → b.block ≠ a.block) (f2 : ∀ a b, u2 = some a → b3 = some b → b.block ≠ a.block) (f3 : ∀ a b, u3 = some a → b3 = some b → b.block ≠ a.block) :
    Spec y p t p1 p2 p3 ∧ Below w.heap.size w y ∧ Own y 58 u1 n1 S1 ∧ Own y 60 u2 n2 S2 ∧ Own y 61 u3 n3 S3 := by
  obtain ⟨Q, P, B, o3, v1, v2, v3⟩ := h
  exact ⟨spec_touch P T o3 (by decide), below_touch B T r, own_touch v1 T f1, own_touch v2 T f2, own_touch v3 T f3⟩

set_option maxRecDepth 100000 in
set_option maxHeartbeats 4000000 in
theorem exact6main (a0 : ByteArray) (ao1 : Option Addr) (len1 cap1 : Nat) (S1 : Nat → ByteArray) (ao2 : Option Addr) (len2 cap2 : Nat) (S2 : Nat → ByteArray) (ao3 : Option Addr) (len3 cap3 : Nat) (S3 : Nat → ByteArray) (a4 : ByteArray) (ao5 : Option Addr) (len5 cap5 : Nat) (S5 : Nat → ByteArray) (ao6 : Option Addr) (len6 cap6 : Nat) (S6 : Nat → ByteArray) (ao7 : Option Addr) (len7 cap7 : Nat) (S7 : Nat → ByteArray) (w : World) (w0 : a0.size ≤ 9223372036854775807) (h1 : IsS w ao1 len1 S1) (m1 : len1 ≤ 9223372036854775807) (h2 : IsS w ao2 len2 S2) (m2 : len2 ≤ 9223372036854775807) (h3 : IsS w ao3 len3 S3) (m3 : len3 ≤ 9223372036854775807) (w4 : a4.size ≤ 9223372036854775807) (h5 : IsS w ao5 len5 S5) (m5 : len5 ≤ 9223372036854775807) (h6 : IsS w ao6 len6 S6) (m6 : len6 ≤ 9223372036854775807) (h7 : IsS w ao7 len7 S7) (m7 : len7 ≤ 9223372036854775807) (l1 : len1 ≤ 65536) (l2 : len2 ≤ 65536) (l3 : len3 ≤ 65536) (l5 : len5 ≤ 65536) (l6 : len6 ≤ 65536) (l7 : len7 ≤ 65536) (c0 : a0.size ≤ 1048576) (c4 : a4.size ≤ 1048576) :
    Calls Trym.prog 6 #[.string a0, .slice ao1 len1 cap1, .slice ao2 len2 cap2, .slice ao3 len3 cap3, .string a4, .slice ao5 len5 cap5, .slice ao6 len6 cap6, .slice ao7 len7 cap7] w fun e w' => e = .returned (.bool true) ∧ Below w.heap.size w w' := by
  go_enter Trym.func6, Trym.ntmps6
  go_wp2_with fail
  refine (bytes14 a0 ao1 len1 cap1 S1 ao2 len2 cap2 S2 ao3 len3 cap3 S3 a4 ao5 len5 cap5 S5 ao6 len6 cap6 S6 ao7 len7 cap7 S7 _ w0 h1 m1 h2 m2 h3 m3 w4 h5 m5 h6 m6 h7 m7).mono ?_
  rintro e w' ⟨r, rfl, hw⟩
  obtain rfl := hw.symm
  clear hw
  cases r
  · go_wp2
    go_ret
    exact ⟨rfl, Below.refl _ _⟩
  go_wp2_with fail
  refine (bytes15 ao1 len1 cap1 S1 _ h1 l1).mono ?_
  rintro e w' ⟨t1, rfl, hw, lo1, hi1, z1⟩
  obtain rfl := hw.symm
  have Z1 := hid_of z1
  clear z1 hw
  go_wp2_with fail
  refine (bytes15 ao2 len2 cap2 S2 _ h2 l2).mono ?_
  rintro e w' ⟨t2, rfl, hw, lo2, hi2, z2⟩
  obtain rfl := hw.symm
  have Z2 := hid_of z2
  clear z2 hw
  go_wp2_with fail
  refine (bytes15 ao3 len3 cap3 S3 _ h3 l3).mono ?_
  rintro e w' ⟨t3, rfl, hw, lo3, hi3, z3⟩
  obtain rfl := hw.symm
  have Z3 := hid_of z3
  clear z3 hw
  go_wp2_with fail
  refine (bytes15 ao5 len5 cap5 S5 _ h5 l5).mono ?_
  rintro e w' ⟨t5, rfl, hw, lo5, hi5, z5⟩
  obtain rfl := hw.symm
  have Z5 := hid_of z5
  clear z5 hw
  go_wp2_with fail
  refine (bytes15 ao6 len6 cap6 S6 _ h6 l6).mono ?_
  rintro e w' ⟨t6, rfl, hw, lo6, hi6, z6⟩
  obtain rfl := hw.symm
  have Z6 := hid_of z6
  clear z6 hw
  go_wp2_with fail
  refine (bytes15 ao7 len7 cap7 S7 _ h7 l7).mono ?_
  rintro e w' ⟨t7, rfl, hw, lo7, hi7, z7⟩
  obtain rfl := hw.symm
  have Z7 := hid_of z7
  clear z7 hw
  by_cases htot : (a0.size : Int) + a4.size + t1 + t2 + t3 + t5 + t6 + t7 ≤ 1048576
  case neg =>
    have htot' : 1048576 < (a0.size : Int) + a4.size + t1 + t2 + t3 + t5 + t6 + t7 := by omega
    go_wp2
    go_ret
    exact ⟨rfl, Below.refl _ _⟩
  have z1 := hid_of (Z1.out (by omega))
  have z2 := hid_of (Z2.out (by omega))
  have z3 := hid_of (Z3.out (by omega))
  clear Z1 Z2 Z3 Z5 Z6 Z7
  go_wp2_with fail
  clear htot
  refine (to16 ao1 len1 cap1 S1 _ h1 l1).mono ?_
  rintro e x1 ⟨u1, rfl, o1, nu1, gu1, B1⟩
  have g2 := h2.keep (Nat.le_refl _) B1
  have H1 := hid_of (And.intro o1 (And.intro nu1 B1))
  clear o1 nu1 gu1 B1
  go_wp2_with fail
  refine (to17 ao2 len2 cap2 S2 _ g2 l2).mono ?_
  rintro e x2 ⟨u2, rfl, o2, nu2, gu2, bel⟩
  have B2 := below_step H1.out.2.2 (Nat.le_refl _) bel
  have g3 := h3.keep (Nat.le_refl _) B2
  have H2 := hid_of (And.intro (own_below H1.out.1 bel) (And.intro H1.out.2.1 (And.intro o2 (And.intro nu2 B2))))
  clear o2 nu2 gu2 B2 bel H1 g2
  go_wp2_with fail
  refine (to18 ao3 len3 cap3 S3 _ g3 l3).mono ?_
  rintro e x3 ⟨u3, rfl, o3, nu3, gu3, bel⟩
  have B3 := below_step H2.out.2.2.2.2 (Nat.le_refl _) bel
  have bn := below_new x3 (.cells #[.string a0, .slice u1 len1 len1, .slice u2 len2 len2, .slice u3 len3 len3] 48)
  have B4 := below_step B3 (Nat.le_refl _) bn
  have g5 := h5.keep (Nat.le_refl _) B4
  have NU := hid_of (And.intro H2.out.2.1 (And.intro H2.out.2.2.2.1 nu3))
  have H4 := hid_of (And.intro (own_below (own_below H2.out.1 bel) bn) (And.intro (own_below (own_below H2.out.2.2.1 bel) bn) (And.intro (own_below o3 bn) (And.intro (spec_new x3 a0 (.slice u1 len1 len1) (.slice u2 len2 len2) (.slice u3 len3 len3)) B4))))
  clear o3 nu3 gu3 B3 B4 bn bel H2 g3
  go_wp2_with fail
  refine (to16 ao5 len5 cap5 S5 _ g5 l5).mono ?_
  rintro e x5 ⟨v1, rfl, -, -, -, bel⟩
  have B5 := below_step H4.out.2.2.2.2 (Nat.le_refl _) bel
  have g6 := h6.keep (Nat.le_refl _) B5
  have H5 := hid_of (And.intro (own_below H4.out.1 bel) (And.intro (own_below H4.out.2.1 bel) (And.intro (own_below H4.out.2.2.1 bel) (And.intro (spec_below H4.out.2.2.2.1 bel) B5))))
  clear bel B5 H4 g5
  go_wp2_with fail
  refine (to17 ao6 len6 cap6 S6 _ g6 l6).mono ?_
  rintro e x6 ⟨v2, rfl, -, -, -, bel⟩
  have B6 := below_step H5.out.2.2.2.2 (Nat.le_refl _) bel
  have g7 := h7.keep (Nat.le_refl _) B6
  have H6 := hid_of (And.intro (own_below H5.out.1 bel) (And.intro (own_below H5.out.2.1 bel) (And.intro (own_below H5.out.2.2.1 bel) (And.intro (spec_below H5.out.2.2.2.1 bel) B6))))
  clear bel B6 H5 g6
  go_wp2_with fail
  refine (to18 ao7 len7 cap7 S7 _ g7 l7).mono ?_
  rintro e x7 ⟨v3, rfl, -, -, -, bel⟩
  have B7 := below_step H6.out.2.2.2.2 (Nat.le_refl _) bel
  have bn := below_new x7 (.cells #[.string a4, .slice v1 len5 len5, .slice v2 len6 len6, .slice v3 len7 len7] 48)
  have Q := spec_new x7 a4 (.slice v1 len5 len5) (.slice v2 len6 len6) (.slice v3 len7 len7)
  have P7 := spec_below H6.out.2.2.2.1 bel
  have hpq : x3.heap.size ≠ x7.heap.size := Nat.ne_of_lt P7.lt
  have H8 := hid_of (And.intro (own_below (own_below H6.out.1 bel) bn) (And.intro (own_below (own_below H6.out.2.1 bel) bn) (And.intro (own_below (own_below H6.out.2.2.1 bel) bn) (And.intro (spec_below P7 bn) (And.intro (below_step B7 (Nat.le_refl _) bn) (And.intro Q (And.intro B7.size hpq)))))))
  clear bel B7 bn Q P7 hpq H6 g7
  go_wp2_with fail
  refine (deep19 _ _ a0 a4 _ _ _ u1 u2 u3 len1 len2 len3 S1 S2 S3 _ H8.out.2.2.2.2.2.2.2 H8.out.2.2.2.1 H8.out.2.2.2.2.2.1 H8.out.1 H8.out.2.1 H8.out.2.2.1 l1 l2 l3).mono ?_
  rintro e x8 ⟨rfl, b1, b2, b3, Q8, ob1, ob2, ob3, nb1, nb2, nb3, gb1, gb2, gb3, T8⟩
  have P8 := H8.out.2.2.2.1.keep (T8.2.2.2.2 _ H8.out.2.2.2.1.lt (fun a ha e => H8.out.2.2.2.2.2.2.2 (by cases ha; exact e.symm)))
  have B8 : Below w.heap.size w x8 := H8.out.2.2.2.2.1.trans (T8.below (fun a ha => by cases ha; exact H8.out.2.2.2.2.2.2.1) H8.out.2.2.2.2.1.size)
  have oa1 := own_touch H8.out.1 T8 (own_spec H8.out.1 H8.out.2.2.2.2.2.1 (by decide))
  have oa2 := own_touch H8.out.2.1 T8 (own_spec H8.out.2.1 H8.out.2.2.2.2.2.1 (by decide))
  have oa3 := own_touch H8.out.2.2.1 T8 (own_spec H8.out.2.2.1 H8.out.2.2.2.2.2.1 (by decide))
  have k1 := hid_of (nb1.trans NU.out.1)
  have k2 := hid_of (nb2.trans NU.out.2.1)
  have k3 := hid_of (nb3.trans NU.out.2.2)
  have f11 := hid_of (own_far H8.out.1 gb1)
  have f12 := hid_of (own_far H8.out.1 gb2)
  have f13 := hid_of (own_far H8.out.1 gb3)
  have f21 := hid_of (own_far H8.out.2.1 gb1)
  have f22 := hid_of (own_far H8.out.2.1 gb2)
  have f23 := hid_of (own_far H8.out.2.1 gb3)
  have f31 := hid_of (own_far H8.out.2.2.1 gb1)
  have f32 := hid_of (own_far H8.out.2.2.1 gb2)
  have f33 := hid_of (own_far H8.out.2.2.1 gb3)
  have r1 := hid_of (fun a ha => Nat.le_trans H8.out.2.2.2.2.1.size (gb1 a ha))
  have r2 := hid_of (fun a ha => Nat.le_trans H8.out.2.2.2.2.1.size (gb2 a ha))
  have r3 := hid_of (fun a ha => Nat.le_trans H8.out.2.2.2.2.1.size (gb3 a ha))
  have i1 := hid_of (h1.keep (Nat.le_refl _) B8)
  have i2 := hid_of (h2.keep (Nat.le_refl _) B8)
  have i3 := hid_of (h3.keep (Nat.le_refl _) B8)
  clear nb1 nb2 nb3 gb1 gb2 gb3 T8 H8
  have cq0 := Q8.cell0
  have cq1 := Q8.cell1
  have cq2 := Q8.cell2
  have cq3 := Q8.cell3
  have cp0 := P8.cell0
  have cp1 := P8.cell1
  have cp2 := P8.cell2
  have cp3 := P8.cell3
  have HX := hid_of (And.intro Q8 (And.intro P8 (And.intro B8 (And.intro ob1 (And.intro ob2 (And.intro ob3 (And.intro oa1 (And.intro oa2 oa3))))))))
  clear Q8 P8 B8 ob1 ob2 ob3 oa1 oa2 oa3
  go_wp2_with fail
  refine (match20 b1 ao1 len1 cap1 S1 _ (by exact HX.out.2.2.2.1) (by exact i1.out) k1.out l1).mono ?_
  rintro e y1 ⟨rfl, n1, rfl⟩
  go_wp2_with fail
  refine (match21 b2 ao2 len2 cap2 S2 _ (by exact HX.out.2.2.2.2.1) (by exact i2.out) k2.out l2).mono ?_
  rintro e y2 ⟨rfl, n2, rfl⟩
  go_wp2_with fail
  refine (match22 b3 ao3 len3 cap3 S3 _ (by exact HX.out.2.2.2.2.2.1) (by exact i3.out) k3.out l3).mono ?_
  rintro e y3 ⟨rfl, n3, rfl⟩
  go_wp2_with fail
  refine (match20 u1 ao1 len1 cap1 S1 _ (by exact HX.out.2.2.2.2.2.2.1) (by exact i1.out) NU.out.1 l1).mono ?_
  rintro e y4 ⟨rfl, n4, rfl⟩
  go_wp2_with fail
  refine (match21 u2 ao2 len2 cap2 S2 _ (by exact HX.out.2.2.2.2.2.2.2.1) (by exact i2.out) NU.out.2.1 l2).mono ?_
  rintro e y5 ⟨rfl, n5, rfl⟩
  go_wp2_with fail
  refine (match22 u3 ao3 len3 cap3 S3 _ (by exact HX.out.2.2.2.2.2.2.2.2) (by exact i3.out) NU.out.2.2 l3).mono ?_
  rintro e y6 ⟨rfl, n6, rfl⟩
  go_wp2_with fail
  clear cq1 cq0 cp0 cp1 cp2 cp3
  refine (mark23 b1 len1 S1 _ (by exact HX.out.2.2.2.1) l1 z1.out).mono ?_
  rintro e x9 ⟨rfl, T9⟩
  have HY := hid_of (marked1 HX.out T9 r1.out f11.out f21.out f31.out)
  clear HX T9
  have cq2 := HY.out.1.cell2
  go_wp2_with fail
  clear cq2
  refine (mark24 b2 len2 S2 _ (by exact HY.out.2.2.2.1) l2 z2.out).mono ?_
  rintro e x10 ⟨rfl, T10⟩
  have HZ := hid_of (marked2 HY.out T10 r2.out f12.out f22.out f32.out)
  clear HY T10
  have cq3 := HZ.out.1.cell3
  go_wp2_with fail
  clear cq3
  refine (mark25 b3 len3 S3 _ (by exact HZ.out.2.2.2.1) l3 z3.out).mono ?_
  rintro e x11 ⟨rfl, T11⟩
  have HW := hid_of (marked3 HZ.out T11 r3.out f13.out f23.out f33.out)
  clear HZ T11
  have cp1 := HW.out.1.cell1
  have cp2 := HW.out.1.cell2
  have cp3 := HW.out.1.cell3
  clear i1 i2 i3
  have j1 := hid_of (h1.keep (Nat.le_refl _) HW.out.2.1)
  have j2 := hid_of (h2.keep (Nat.le_refl _) HW.out.2.1)
  have j3 := hid_of (h3.keep (Nat.le_refl _) HW.out.2.1)
  go_wp2_with fail
  refine (match20 u1 ao1 len1 cap1 S1 _ (by exact HW.out.2.2.1) (by exact j1.out) NU.out.1 l1).mono ?_
  rintro e y7 ⟨rfl, n7, rfl⟩
  go_wp2_with fail
  refine (match21 u2 ao2 len2 cap2 S2 _ (by exact HW.out.2.2.2.1) (by exact j2.out) NU.out.2.1 l2).mono ?_
  rintro e y8 ⟨rfl, n8, rfl⟩
  go_wp2_with fail
  refine (match22 u3 ao3 len3 cap3 S3 _ (by exact HW.out.2.2.2.2) (by exact j3.out) NU.out.2.2 l3).mono ?_
  rintro e y9 ⟨rfl, n9, rfl⟩
  go_wp2
  go_ret
  exact ⟨rfl, below_drawn HW.out.2.1 _⟩

theorem exact6 (a0 : ByteArray) (ao1 : Option Addr) (len1 cap1 : Nat) (S1 : Nat → ByteArray) (ao2 : Option Addr) (len2 cap2 : Nat) (S2 : Nat → ByteArray) (ao3 : Option Addr) (len3 cap3 : Nat) (S3 : Nat → ByteArray) (a4 : ByteArray) (ao5 : Option Addr) (len5 cap5 : Nat) (S5 : Nat → ByteArray) (ao6 : Option Addr) (len6 cap6 : Nat) (S6 : Nat → ByteArray) (ao7 : Option Addr) (len7 cap7 : Nat) (S7 : Nat → ByteArray) (w : World) (w0 : a0.size ≤ 9223372036854775807) (h1 : IsS w ao1 len1 S1) (m1 : len1 ≤ 9223372036854775807) (h2 : IsS w ao2 len2 S2) (m2 : len2 ≤ 9223372036854775807) (h3 : IsS w ao3 len3 S3) (m3 : len3 ≤ 9223372036854775807) (w4 : a4.size ≤ 9223372036854775807) (h5 : IsS w ao5 len5 S5) (m5 : len5 ≤ 9223372036854775807) (h6 : IsS w ao6 len6 S6) (m6 : len6 ≤ 9223372036854775807) (h7 : IsS w ao7 len7 S7) (m7 : len7 ≤ 9223372036854775807) :
    Calls Trym.prog 6 #[.string a0, .slice ao1 len1 cap1, .slice ao2 len2 cap2, .slice ao3 len3 cap3, .string a4, .slice ao5 len5 cap5, .slice ao6 len6 cap6, .slice ao7 len7 cap7] w fun e w' => e = .returned (.bool true) ∧ Below w.heap.size w w' := by
  by_cases l1 : len1 ≤ 65536
  case neg => exact exact6n1 a0 ao1 len1 cap1 S1 ao2 len2 cap2 S2 ao3 len3 cap3 S3 a4 ao5 len5 cap5 S5 ao6 len6 cap6 S6 ao7 len7 cap7 S7 w w0 h1 m1 h2 m2 h3 m3 w4 h5 m5 h6 m6 h7 m7 (by omega)
  by_cases l2 : len2 ≤ 65536
  case neg => exact exact6n2 a0 ao1 len1 cap1 S1 ao2 len2 cap2 S2 ao3 len3 cap3 S3 a4 ao5 len5 cap5 S5 ao6 len6 cap6 S6 ao7 len7 cap7 S7 w w0 h1 m1 h2 m2 h3 m3 w4 h5 m5 h6 m6 h7 m7 l1 (by omega)
  by_cases l3 : len3 ≤ 65536
  case neg => exact exact6n3 a0 ao1 len1 cap1 S1 ao2 len2 cap2 S2 ao3 len3 cap3 S3 a4 ao5 len5 cap5 S5 ao6 len6 cap6 S6 ao7 len7 cap7 S7 w w0 h1 m1 h2 m2 h3 m3 w4 h5 m5 h6 m6 h7 m7 l1 l2 (by omega)
  by_cases l5 : len5 ≤ 65536
  case neg => exact exact6n5 a0 ao1 len1 cap1 S1 ao2 len2 cap2 S2 ao3 len3 cap3 S3 a4 ao5 len5 cap5 S5 ao6 len6 cap6 S6 ao7 len7 cap7 S7 w w0 h1 m1 h2 m2 h3 m3 w4 h5 m5 h6 m6 h7 m7 l1 l2 l3 (by omega)
  by_cases l6 : len6 ≤ 65536
  case neg => exact exact6n6 a0 ao1 len1 cap1 S1 ao2 len2 cap2 S2 ao3 len3 cap3 S3 a4 ao5 len5 cap5 S5 ao6 len6 cap6 S6 ao7 len7 cap7 S7 w w0 h1 m1 h2 m2 h3 m3 w4 h5 m5 h6 m6 h7 m7 l1 l2 l3 l5 (by omega)
  by_cases l7 : len7 ≤ 65536
  case neg => exact exact6n7 a0 ao1 len1 cap1 S1 ao2 len2 cap2 S2 ao3 len3 cap3 S3 a4 ao5 len5 cap5 S5 ao6 len6 cap6 S6 ao7 len7 cap7 S7 w w0 h1 m1 h2 m2 h3 m3 w4 h5 m5 h6 m6 h7 m7 l1 l2 l3 l5 l6 (by omega)
  by_cases c0 : a0.size ≤ 1048576
  case neg => exact exact6n0 a0 ao1 len1 cap1 S1 ao2 len2 cap2 S2 ao3 len3 cap3 S3 a4 ao5 len5 cap5 S5 ao6 len6 cap6 S6 ao7 len7 cap7 S7 w w0 h1 m1 h2 m2 h3 m3 w4 h5 m5 h6 m6 h7 m7 l1 l2 l3 l5 l6 l7 (by omega)
  by_cases c4 : a4.size ≤ 1048576
  case neg => exact exact6n4 a0 ao1 len1 cap1 S1 ao2 len2 cap2 S2 ao3 len3 cap3 S3 a4 ao5 len5 cap5 S5 ao6 len6 cap6 S6 ao7 len7 cap7 S7 w w0 h1 m1 h2 m2 h3 m3 w4 h5 m5 h6 m6 h7 m7 l1 l2 l3 l5 l6 l7 c0 (by omega)
  exact exact6main a0 ao1 len1 cap1 S1 ao2 len2 cap2 S2 ao3 len3 cap3 S3 a4 ao5 len5 cap5 S5 ao6 len6 cap6 S6 ao7 len7 cap7 S7 w w0 h1 m1 h2 m2 h3 m3 w4 h5 m5 h6 m6 h7 m7 l1 l2 l3 l5 l6 l7 c0 c4
end Go.Proofs.Qxb6602445aMods
