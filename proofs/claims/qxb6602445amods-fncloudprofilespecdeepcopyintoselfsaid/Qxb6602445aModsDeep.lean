import Derived.Test.Qxb6602445aModsSls2
namespace Go.Proofs.Qxb6602445aMods
open Go.RowKit

/-- BLOCK p HOLDS A SPEC. -/
def Spec (w : World) (p : Nat) (t : ByteArray) (v1 v2 v3 : Value) : Prop := w.heap[p]? = some (.cells #[.string t, v1, v2, v3] 48 (0, 0))

theorem Spec.cell0 {w : World} {p : Nat} {t : ByteArray} {v1 v2 v3 : Value} (h : Spec w p t v1 v2 v3) : w.cell? ⟨p, 0, none⟩ = some (.string t) := by
  unfold Spec at h; simp [World.cell?, h]
theorem Spec.cell1 {w : World} {p : Nat} {t : ByteArray} {v1 v2 v3 : Value} (h : Spec w p t v1 v2 v3) : w.cell? ⟨p, 1, none⟩ = some v1 := by
  unfold Spec at h; simp [World.cell?, h]
theorem Spec.cell2 {w : World} {p : Nat} {t : ByteArray} {v1 v2 v3 : Value} (h : Spec w p t v1 v2 v3) : w.cell? ⟨p, 2, none⟩ = some v2 := by
  unfold Spec at h; simp [World.cell?, h]
theorem Spec.cell3 {w : World} {p : Nat} {t : ByteArray} {v1 v2 v3 : Value} (h : Spec w p t v1 v2 v3) : w.cell? ⟨p, 3, none⟩ = some v3 := by
  unfold Spec at h; simp [World.cell?, h]
theorem Spec.frozen {w : World} {p : Nat} {t : ByteArray} {v1 v2 v3 : Value} (h : Spec w p t v1 v2 v3) (i : Nat) : w.frozen? ⟨p, i, none⟩ = false := by
  unfold Spec at h; simp [World.frozen?, h]
theorem Spec.lt {w : World} {p : Nat} {t : ByteArray} {v1 v2 v3 : Value} (h : Spec w p t v1 v2 v3) : p < w.heap.size := (Array.getElem?_eq_some_iff.1 h).1
theorem Spec.keep {w w' : World} {p : Nat} {t : ByteArray} {v1 v2 v3 : Value} (h : Spec w p t v1 v2 v3) (e : w'.heap[p]? = w.heap[p]?) : Spec w' p t v1 v2 v3 := e.trans h
theorem Spec.set0 {w : World} {p : Nat} {t : ByteArray} {v1 v2 v3 : Value} (h : Spec w p t v1 v2 v3) (s : ByteArray) : Spec (w.setCell ⟨p, 0, none⟩ (.string s)) p s v1 v2 v3 := by
  unfold Spec at h ⊢; simp [World.setCell, Array.getElem?_modify, h]
theorem Spec.set1 {w : World} {p : Nat} {t : ByteArray} {v1 v2 v3 : Value} (h : Spec w p t v1 v2 v3) (v : Value) : Spec (w.setCell ⟨p, 1, none⟩ v) p t v v2 v3 := by
  unfold Spec at h ⊢; simp [World.setCell, Array.getElem?_modify, h]
theorem Spec.set2 {w : World} {p : Nat} {t : ByteArray} {v1 v2 v3 : Value} (h : Spec w p t v1 v2 v3) (v : Value) : Spec (w.setCell ⟨p, 2, none⟩ v) p t v1 v v3 := by
  unfold Spec at h ⊢; simp [World.setCell, Array.getElem?_modify, h]
theorem Spec.set3 {w : World} {p : Nat} {t : ByteArray} {v1 v2 v3 : Value} (h : Spec w p t v1 v2 v3) (v : Value) : Spec (w.setCell ⟨p, 3, none⟩ v) p t v1 v2 v := by
  unfold Spec at h ⊢; simp [World.setCell, Array.getElem?_modify, h]

theorem hid_of {p : Prop} (h : p) : Hid p := h

theorem own_touch {w w' : World} {E : TypeId} {ao bo : Option Addr} {len : Nat} {S : Nat → ByteArray} (h : Own w E ao len S) (ht : Touch w w' bo) (hne : ∀ a b, ao = some a → bo = some b → b.block ≠ a.block) : Own w' E ao len S :=
  h.keep (fun a ha => ht.2.2.2.2 _ (h.lt a ha) (fun b hb => hne a b ha hb))

theorem own_below {w w' : World} {E : TypeId} {ao : Option Addr} {len : Nat} {S : Nat → ByteArray} (h : Own w E ao len S) (hb : Below w.heap.size w w') : Own w' E ao len S :=
  h.keep (fun a ha => hb.block _ (h.lt a ha))

theorem own_spec {w : World} {E : TypeId} {ao : Option Addr} {len : Nat} {S : Nat → ByteArray} {q : Nat} {t : ByteArray} {v1 v2 v3 : Value} (h : Own w E ao len S) (hq : Spec w q t v1 v2 v3) (hE : E ≠ 48) : ∀ a b, ao = some a → some (⟨q, 0, none⟩ : Addr) = some b → b.block ≠ a.block := by
  rcases h with h | ⟨g, rfl, c, hg, _⟩
  · intro a b ha; rw [h.1] at ha; cases ha
  · intro a b ha hb hh
    cases ha; cases hb
    simp only at hh
    subst hh
    unfold Spec at hq
    rw [hg] at hq
    simp at hq
    exact hE hq.2

theorem own_own {w : World} {E E' : TypeId} {ao bo : Option Addr} {len len' : Nat} {S S' : Nat → ByteArray} (h : Own w E ao len S) (h' : Own w E' bo len' S') (hE : E ≠ E') : ∀ a b, ao = some a → bo = some b → b.block ≠ a.block := by
  rcases h with h | ⟨g, rfl, c, hg, _⟩
  · intro a b ha; rw [h.1] at ha; cases ha
  · rcases h' with h' | ⟨g', rfl, c', hg', _⟩
    · intro a b _ hb; rw [h'.1] at hb; cases hb
    · intro a b ha hb hh
      cases ha; cases hb
      simp only at hh
      subst hh
      rw [hg] at hg'
      simp at hg'
      exact hE hg'.2

theorem Touch.behind {w w1 w2 : World} {ao : Option Addr} (h : Touch w w1 ao) (hb : Below w1.heap.size w1 w2) : Touch w w2 ao := by
  obtain ⟨h1, h2, h3, h4, h5⟩ := h
  exact ⟨hb.os.trans h1, hb.tape.trans h2, hb.output.trans h3, by have := hb.size; omega, fun k hk hne => (hb.block k (by omega)).trans (h5 k hk hne)⟩

theorem Touch.trans {w w1 w2 : World} {ao bo : Option Addr} (h : Touch w w1 ao) (h' : Touch w1 w2 bo) (hb : ∀ b, bo = some b → w.heap.size ≤ b.block) : Touch w w2 ao := by
  obtain ⟨h1, h2, h3, h4, h5⟩ := h
  obtain ⟨k1, k2, k3, k4, k5⟩ := h'
  exact ⟨k1.trans h1, k2.trans h2, k3.trans h3, by omega, fun k hk hne => (k5 k (by omega) (fun b hb' => by have := hb b hb'; omega)).trans (h5 k hk hne)⟩

/-- ONE FIELD's COPY STORED: what is known behind it. -/
theorem own_store {w : World} {E : TypeId} {ao : Option Addr} {len : Nat} {S : Nat → ByteArray} {q i : Nat} {t : ByteArray} {v1 v2 v3 v : Value} (h : Own w E ao len S) (hq : Spec w q t v1 v2 v3) (hE : E ≠ 48) : Own (w.setCell ⟨q, i, none⟩ v) E ao len S :=
  own_touch h ((Touch.refl w _).setCell v) (own_spec h hq hE)

theorem spec_store {w : World} {p q i : Nat} {t : ByteArray} {v1 v2 v3 v : Value} (h : Spec w p t v1 v2 v3) (hpq : p ≠ q) : Spec (w.setCell ⟨q, i, none⟩ v) p t v1 v2 v3 :=
  h.keep (Below.heap_setCell w ⟨q, i, none⟩ v p hpq)

theorem spec_below {w w' : World} {p : Nat} {t : ByteArray} {v1 v2 v3 : Value} (h : Spec w p t v1 v2 v3) (hb : Below w.heap.size w w') : Spec w' p t v1 v2 v3 :=
  h.keep (hb.block p h.lt)

set_option maxHeartbeats 400000 in
theorem deep19 (p q : Nat) (t t' : ByteArray) (x1 x2 x3 : Value) (a1 a2 a3 : Option Addr) (n1 n2 n3 : Nat) (S1 S2 S3 : Nat → ByteArray) (w : World)
    (hpq : p ≠ q) (hp : Spec w p t (.slice a1 n1 n1) (.slice a2 n2 n2) (.slice a3 n3 n3)) (hq : Spec w q t' x1 x2 x3) (o1 : Own w 58 a1 n1 S1) (o2 : Own w 60 a2 n2 S2) (o3 : Own w 61 a3 n3 S3)
    (l1 : n1 ≤ 65536) (l2 : n2 ≤ 65536) (l3 : n3 ≤ 65536) :
    Calls Trym.prog 19 #[.pointer (some ⟨p, 0, none⟩), .pointer (some ⟨q, 0, none⟩)] w fun e w' => e = .returned (.tuple #[]) ∧ ∃ b1 b2 b3, Spec w' q t (.slice b1 n1 n1) (.slice b2 n2 n2) (.slice b3 n3 n3) ∧
      Own w' 58 b1 n1 S1 ∧ Own w' 60 b2 n2 S2 ∧ Own w' 61 b3 n3 S3 ∧ (b1 = none ↔ a1 = none) ∧ (b2 = none ↔ a2 = none) ∧ (b3 = none ↔ a3 = none) ∧
      (∀ a, b1 = some a → w.heap.size ≤ a.block) ∧ (∀ a, b2 = some a → w.heap.size ≤ a.block) ∧ (∀ a, b3 = some a → w.heap.size ≤ a.block) ∧ Touch w w' (some ⟨q, 0, none⟩) := by
  have p0 := hp.cell0
  have p1 := hp.cell1
  have p2 := hp.cell2
  have p3 := hp.cell3
  have q0 := hq.cell0
  have q1 := hq.cell1
  have q2 := hq.cell2
  have q3 := hq.cell3
  have f0 := hq.frozen 0
  have f1 := hq.frozen 1
  have f2 := hq.frozen 2
  have f3 := hq.frozen 3
  have Q0 := (((hq.set0 t).set1 (.slice a1 n1 n1)).set2 (.slice a2 n2 n2)).set3 (.slice a3 n3 n3)
  have T0 := ((((Touch.refl w (some (⟨q, 0, none⟩ : Addr))).setCell (i := 0) (.string t)).setCell (i := 1) (.slice a1 n1 n1)).setCell (i := 2) (.slice a2 n2 n2)).setCell (i := 3) (.slice a3 n3 n3)
  have O1 := own_touch o1 T0 (own_spec o1 hq (by decide))
  have O2 := own_touch o2 T0 (own_spec o2 hq (by decide))
  have O3 := own_touch o3 T0 (own_spec o3 hq (by decide))
  have P0 := (((((hp.keep (T0.2.2.2.2 p hp.lt (fun a ha e => hpq (by cases ha; exact e.symm)))))))) 
  have HQ0 := hid_of (Q0)
  clear Q0
  have HT0 := hid_of (T0)
  clear T0
  have HO1 := hid_of (O1)
  clear O1
  have HO2 := hid_of (O2)
  clear O2
  have HO3 := hid_of (O3)
  clear O3
  have HP0 := hid_of (P0)
  clear P0
  go_enter Trym.func19, Trym.ntmps19
  go_wp2_with fail
  refine (copy27 a1 n1 S1 _ HO1.out l1).mono ?_
  rintro e w1 ⟨b1, rfl, ob1, nb1, gb1, bel1⟩
  have HQ := spec_below HQ0.out bel1
  have HT := HT0.out.behind bel1
  have HP := spec_below HP0.out bel1
  have G1 : Hid (∀ a, b1 = some a → w.heap.size ≤ a.block) := fun a ha => Nat.le_trans HT0.out.2.2.2.1 (gb1 a ha)
  have N1 : Hid (b1 = none ↔ a1 = none) := nb1
  clear nb1 gb1
  have B11 := ob1
  have A21 := own_below HO2.out bel1
  have A31 := own_below HO3.out bel1
  have HQ1 := hid_of (HQ.set1 (.slice b1 n1 n1))
  have HT1 := hid_of (HT.setCell (i := 1) (.slice b1 n1 n1))
  have HP1 := hid_of (spec_store (i := 1) (v := .slice b1 n1 n1) HP hpq)
  have HB11 := hid_of (own_store (i := 1) (v := .slice b1 n1 n1) B11 HQ (by decide))
  clear B11
  have HO2_1 := hid_of (own_store (i := 1) (v := .slice b1 n1 n1) A21 HQ (by decide))
  clear A21
  have HA31 := hid_of (own_store (i := 1) (v := .slice b1 n1 n1) A31 HQ (by decide))
  clear A31
  have cq := HQ.cell1
  have fq := HQ.frozen 1
  have cp := HP.cell2
  clear HQ HT HP bel1 ob1
  go_wp2_with fail
  clear cq fq cp
  refine (copy28 a2 n2 S2 _ HO2_1.out l2).mono ?_
  rintro e w2 ⟨b2, rfl, ob2, nb2, gb2, bel2⟩
  have HQ := spec_below HQ1.out bel2
  have HT := HT1.out.behind bel2
  have HP := spec_below HP1.out bel2
  have G2 : Hid (∀ a, b2 = some a → w.heap.size ≤ a.block) := fun a ha => Nat.le_trans HT1.out.2.2.2.1 (gb2 a ha)
  have N2 : Hid (b2 = none ↔ a2 = none) := nb2
  clear nb2 gb2
  have B12 := own_below HB11.out bel2
  have B22 := ob2
  have A32 := own_below HA31.out bel2
  have HQ2 := hid_of (HQ.set2 (.slice b2 n2 n2))
  have HT2 := hid_of (HT.setCell (i := 2) (.slice b2 n2 n2))
  have HP2 := hid_of (spec_store (i := 2) (v := .slice b2 n2 n2) HP hpq)
  have HB12 := hid_of (own_store (i := 2) (v := .slice b2 n2 n2) B12 HQ (by decide))
  clear B12
  have HB22 := hid_of (own_store (i := 2) (v := .slice b2 n2 n2) B22 HQ (by decide))
  clear B22
  have HO3_2 := hid_of (own_store (i := 2) (v := .slice b2 n2 n2) A32 HQ (by decide))
  clear A32
  have cq := HQ.cell2
  have fq := HQ.frozen 2
  have cp := HP.cell3
  clear HQ HT HP bel2 ob2
  go_wp2_with fail
  clear cq fq cp
  refine (copy29 a3 n3 S3 _ HO3_2.out l3).mono ?_
  rintro e w3 ⟨b3, rfl, ob3, nb3, gb3, bel3⟩
  have HQ := spec_below HQ2.out bel3
  have HT := HT2.out.behind bel3
  have HP := spec_below HP2.out bel3
  have G3 : Hid (∀ a, b3 = some a → w.heap.size ≤ a.block) := fun a ha => Nat.le_trans HT2.out.2.2.2.1 (gb3 a ha)
  have N3 : Hid (b3 = none ↔ a3 = none) := nb3
  clear nb3 gb3
  have B13 := own_below HB12.out bel3
  have B23 := own_below HB22.out bel3
  have B33 := ob3
  have HQ3 := hid_of (HQ.set3 (.slice b3 n3 n3))
  have HT3 := hid_of (HT.setCell (i := 3) (.slice b3 n3 n3))
  have HP3 := hid_of (spec_store (i := 3) (v := .slice b3 n3 n3) HP hpq)
  have HB13 := hid_of (own_store (i := 3) (v := .slice b3 n3 n3) B13 HQ (by decide))
  clear B13
  have HB23 := hid_of (own_store (i := 3) (v := .slice b3 n3 n3) B23 HQ (by decide))
  clear B23
  have HB33 := hid_of (own_store (i := 3) (v := .slice b3 n3 n3) B33 HQ (by decide))
  clear B33
  have cq := HQ.cell3
  have fq := HQ.frozen 3
  clear HQ HT HP bel3 ob3
  go_wp2_with fail
  go_end0
  exact ⟨rfl, b1, b2, b3, HQ3.out, HB13.out, HB23.out, HB33.out, N1.out, N2.out, N3.out, G1.out, G2.out, G3.out, HT3.out⟩

set_option maxHeartbeats 400000 in
theorem deep19s (q : Nat) (t : ByteArray) (a1 a2 a3 : Option Addr) (n1 n2 n3 : Nat) (S1 S2 S3 : Nat → ByteArray) (w : World)
    (hq : Spec w q t (.slice a1 n1 n1) (.slice a2 n2 n2) (.slice a3 n3 n3)) (o1 : Own w 58 a1 n1 S1) (o2 : Own w 60 a2 n2 S2) (o3 : Own w 61 a3 n3 S3)
    (l1 : n1 ≤ 65536) (l2 : n2 ≤ 65536) (l3 : n3 ≤ 65536) :
    Calls Trym.prog 19 #[.pointer (some ⟨q, 0, none⟩), .pointer (some ⟨q, 0, none⟩)] w fun e w' => e = .returned (.tuple #[]) ∧ ∃ b1 b2 b3, Spec w' q t (.slice b1 n1 n1) (.slice b2 n2 n2) (.slice b3 n3 n3) ∧
      Own w' 58 b1 n1 S1 ∧ Own w' 60 b2 n2 S2 ∧ Own w' 61 b3 n3 S3 ∧ (b1 = none ↔ a1 = none) ∧ (b2 = none ↔ a2 = none) ∧ (b3 = none ↔ a3 = none) ∧
      (∀ a, b1 = some a → w.heap.size ≤ a.block) ∧ (∀ a, b2 = some a → w.heap.size ≤ a.block) ∧ (∀ a, b3 = some a → w.heap.size ≤ a.block) ∧ Touch w w' (some ⟨q, 0, none⟩) := by
  have q0 := hq.cell0
  have q1 := hq.cell1
  have q2 := hq.cell2
  have q3 := hq.cell3
  have f0 := hq.frozen 0
  have f1 := hq.frozen 1
  have f2 := hq.frozen 2
  have f3 := hq.frozen 3
  have Q0 := (((hq.set0 t).set1 (.slice a1 n1 n1)).set2 (.slice a2 n2 n2)).set3 (.slice a3 n3 n3)
  have T0 := ((((Touch.refl w (some (⟨q, 0, none⟩ : Addr))).setCell (i := 0) (.string t)).setCell (i := 1) (.slice a1 n1 n1)).setCell (i := 2) (.slice a2 n2 n2)).setCell (i := 3) (.slice a3 n3 n3)
  have O1 := own_touch o1 T0 (own_spec o1 hq (by decide))
  have O2 := own_touch o2 T0 (own_spec o2 hq (by decide))
  have O3 := own_touch o3 T0 (own_spec o3 hq (by decide))
  have HQ0 := hid_of (Q0)
  clear Q0
  have HT0 := hid_of (T0)
  clear T0
  have HO1 := hid_of (O1)
  clear O1
  have HO2 := hid_of (O2)
  clear O2
  have HO3 := hid_of (O3)
  clear O3
  go_enter Trym.func19, Trym.ntmps19
  go_wp2_with fail
  refine (copy27 a1 n1 S1 _ HO1.out l1).mono ?_
  rintro e w1 ⟨b1, rfl, ob1, nb1, gb1, bel1⟩
  have HQ := spec_below HQ0.out bel1
  have HT := HT0.out.behind bel1
  have G1 : Hid (∀ a, b1 = some a → w.heap.size ≤ a.block) := fun a ha => Nat.le_trans HT0.out.2.2.2.1 (gb1 a ha)
  have N1 : Hid (b1 = none ↔ a1 = none) := nb1
  clear nb1 gb1
  have B11 := ob1
  have A21 := own_below HO2.out bel1
  have A31 := own_below HO3.out bel1
  have HQ1 := hid_of (HQ.set1 (.slice b1 n1 n1))
  have HT1 := hid_of (HT.setCell (i := 1) (.slice b1 n1 n1))
  have HB11 := hid_of (own_store (i := 1) (v := .slice b1 n1 n1) B11 HQ (by decide))
  clear B11
  have HO2_1 := hid_of (own_store (i := 1) (v := .slice b1 n1 n1) A21 HQ (by decide))
  clear A21
  have HA31 := hid_of (own_store (i := 1) (v := .slice b1 n1 n1) A31 HQ (by decide))
  clear A31
  have cq := HQ.cell1
  have fq := HQ.frozen 1
  have cp := HQ.cell2
  clear HQ HT bel1 ob1
  go_wp2_with fail
  clear cq fq cp
  refine (copy28 a2 n2 S2 _ HO2_1.out l2).mono ?_
  rintro e w2 ⟨b2, rfl, ob2, nb2, gb2, bel2⟩
  have HQ := spec_below HQ1.out bel2
  have HT := HT1.out.behind bel2
  have G2 : Hid (∀ a, b2 = some a → w.heap.size ≤ a.block) := fun a ha => Nat.le_trans HT1.out.2.2.2.1 (gb2 a ha)
  have N2 : Hid (b2 = none ↔ a2 = none) := nb2
  clear nb2 gb2
  have B12 := own_below HB11.out bel2
  have B22 := ob2
  have A32 := own_below HA31.out bel2
  have HQ2 := hid_of (HQ.set2 (.slice b2 n2 n2))
  have HT2 := hid_of (HT.setCell (i := 2) (.slice b2 n2 n2))
  have HB12 := hid_of (own_store (i := 2) (v := .slice b2 n2 n2) B12 HQ (by decide))
  clear B12
  have HB22 := hid_of (own_store (i := 2) (v := .slice b2 n2 n2) B22 HQ (by decide))
  clear B22
  have HO3_2 := hid_of (own_store (i := 2) (v := .slice b2 n2 n2) A32 HQ (by decide))
  clear A32
  have cq := HQ.cell2
  have fq := HQ.frozen 2
  have cp := HQ.cell3
  clear HQ HT bel2 ob2
  go_wp2_with fail
  clear cq fq cp
  refine (copy29 a3 n3 S3 _ HO3_2.out l3).mono ?_
  rintro e w3 ⟨b3, rfl, ob3, nb3, gb3, bel3⟩
  have HQ := spec_below HQ2.out bel3
  have HT := HT2.out.behind bel3
  have G3 : Hid (∀ a, b3 = some a → w.heap.size ≤ a.block) := fun a ha => Nat.le_trans HT2.out.2.2.2.1 (gb3 a ha)
  have N3 : Hid (b3 = none ↔ a3 = none) := nb3
  clear nb3 gb3
  have B13 := own_below HB12.out bel3
  have B23 := own_below HB22.out bel3
  have B33 := ob3
  have HQ3 := hid_of (HQ.set3 (.slice b3 n3 n3))
  have HT3 := hid_of (HT.setCell (i := 3) (.slice b3 n3 n3))
  have HB13 := hid_of (own_store (i := 3) (v := .slice b3 n3 n3) B13 HQ (by decide))
  clear B13
  have HB23 := hid_of (own_store (i := 3) (v := .slice b3 n3 n3) B23 HQ (by decide))
  clear B23
  have HB33 := hid_of (own_store (i := 3) (v := .slice b3 n3 n3) B33 HQ (by decide))
  clear B33
  have cq := HQ.cell3
  have fq := HQ.frozen 3
  clear HQ HT bel3 ob3
  go_wp2_with fail
  go_end0
  exact ⟨rfl, b1, b2, b3, HQ3.out, HB13.out, HB23.out, HB33.out, N1.out, N2.out, N3.out, G1.out, G2.out, G3.out, HT3.out⟩

end Go.Proofs.Qxb6602445aMods
