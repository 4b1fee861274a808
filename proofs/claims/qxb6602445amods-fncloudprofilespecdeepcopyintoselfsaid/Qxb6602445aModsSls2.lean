import Derived.Test.Qxb6602445aModsSls
import Derived.OwnWalk
namespace Go.Proofs.Qxb6602445aMods
open Go.RowKit

/-- NOTHING THAT WAS THERE HAS TURNED BUT THE BLOCK THAT 'ao' LEADS TO. -/
def Touch (w w' : World) (ao : Option Addr) : Prop :=
  w'.os = w.os ∧ w'.tape = w.tape ∧ w'.output = w.output ∧ w.heap.size ≤ w'.heap.size ∧ ∀ k, k < w.heap.size → (∀ a, ao = some a → a.block ≠ k) → w'.heap[k]? = w.heap[k]?

theorem Touch.refl (w : World) (ao : Option Addr) : Touch w w ao := ⟨rfl, rfl, rfl, Nat.le_refl _, fun _ _ _ => rfl⟩

theorem Touch.setCell {w w' : World} {g i : Nat} (h : Touch w w' (some ⟨g, 0, none⟩)) (v : Value) : Touch w (w'.setCell ⟨g, i, none⟩ v) (some ⟨g, 0, none⟩) := by
  obtain ⟨h1, h2, h3, h4, h5⟩ := h
  refine ⟨h1, h2, h3, by simpa [World.setCell] using h4, fun k hk hne => ?_⟩
  exact (Below.heap_setCell w' ⟨g, i, none⟩ v k (fun e => hne _ rfl e.symm)).trans (h5 k hk hne)

theorem Touch.below {w w' : World} {ao : Option Addr} {B : Nat} (h : Touch w w' ao) (hB : ∀ a, ao = some a → B ≤ a.block) (hs : B ≤ w.heap.size) : Below B w w' := by
  obtain ⟨h1, h2, h3, h4, h5⟩ := h
  exact ⟨h1, h2, h3, h4, fun k hk => h5 k (by omega) (fun a ha => by have := hB a ha; omega)⟩

theorem row_of_owns {w : World} {base g n : Nat} {E : TypeId} {f : Nat → Value} (h : w.ownsRow base E 1 (.slice (some ⟨g, 0, none⟩) n n) n ((List.range n).map f)) : w.rowIs g E n f := by
  rcases h.2 with ⟨h', _⟩ | ⟨g', cap', cur, h', _, hg, _, _, hs, htake⟩
  · simp at h'
  · simp only [Value.slice.injEq, Option.some.injEq, Addr.mk.injEq, and_true, true_and] at h'
    obtain ⟨rfl, rfl⟩ := h'
    refine ⟨cur, hg, by simpa using hs, fun i hi => ?_⟩
    have e : cur.toList[i]? = ((List.range n).map f)[i]? := by
      rw [← htake, List.getElem?_take, if_pos (by omega)]
    rw [← Array.getElem?_toList, e]
    simp [hi]

set_option maxHeartbeats 400000 in
theorem match20 (ao bo : Option Addr) (len cap : Nat) (S : Nat → ByteArray) (w : World) (h : Own w 58 ao len S) (h2 : IsS w bo len S) (hn : ao = none ↔ bo = none) (hl : len ≤ 65536) :
    Calls Trym.prog 20 #[.slice ao len len, .slice bo len cap] w fun e w' => e = .returned (.bool true) ∧ ∃ n, w' = w.drewN n := by
  have q35 : ∀ (w : World) (a : Option Addr) (n c n' c' : Nat), (binOp .eql 35 (.slice a n c) (.slice none n' c')).run Trym.prog w = .ok (.bool a.isNone) w := fun w a n c n' c' => Lib.run_eql_slice_nil w _ _ a n c n' c' Trym.underlying35
  have qT : ∀ (w : World) (a : Option Addr) (n c n' c' : Nat), (binOp .eql 39 (.slice a n c) (.slice none n' c')).run Trym.prog w = .ok (.bool a.isNone) w := fun w a n c n' c' => Lib.run_eql_slice_nil w _ _ a n c n' c' Trym.underlying39
  rcases h with ⟨rfl, rfl⟩ | ⟨g, rfl, hrow⟩
  · obtain rfl := hn.1 rfl
    clear hn h2
    go_enter Trym.func20, Trym.ntmps20
    go_wp2
    refine wp_loop_rounds 1 ?_
    rw [rounds_succ]
    go_wp2
    go_ret
    exact ⟨rfl, 0, rfl⟩
  · cases bo with
    | none => simp at hn
    | some a =>
      clear hn
      rcases Nat.eq_zero_or_pos len with h0 | hpos
      · subst h0
        clear h2 hrow
        go_enter Trym.func20, Trym.ntmps20
        go_wp2
        refine wp_loop_rounds 1 ?_
        rw [rounds_succ]
        go_wp2
        go_ret
        exact ⟨rfl, 0, rfl⟩
      · obtain ⟨b, o, hab, hlt, hc⟩ := h2.2 hpos
        cases hab
        clear h2
        go_enter Trym.func20, Trym.ntmps20
        go_wp2
        go_loopw [5] (fun i wr => ∃ k : Nat, k ≤ len ∧ i = .int .i64 k ∧ ∃ n, wr = w.drewN n) (fun i _ => len - (intOf i).toNat)
        case atStart => exact ⟨0, Nat.zero_le _, rfl, 0, rfl⟩
        case round =>
          obtain ⟨k, hk, rfl, n, rfl⟩ := hrel
          by_cases hkl : k < len
          · have hck := (hc k hkl).1
            have hcr := hrow.cell hkl
            have hz : (0 : Int) ≤ (k : Int) := by omega
            have hzl : (k : Int) < (len : Int) := by omega
            go_wp2
            go_quiet (fail)
            go_wp2
            go_roundw
            case rel => exact ⟨k + 1, by omega, by go_num, _, rfl⟩
            case measure => simp [intOf]; omega
          · go_wp2
            go_ret
            exact ⟨rfl, n, rfl⟩

set_option maxHeartbeats 400000 in
theorem mark23 (ao : Option Addr) (len : Nat) (S : Nat → ByteArray) (w : World) (h : Own w 58 ao len S) (hl : len ≤ 65536) (hs : ∀ i, i < len → (S i).size ≤ 1048576) :
    Calls Trym.prog 23 #[.slice ao len len] w fun e w' => e = .returned (.tuple #[]) ∧ Touch w w' ao := by
  rcases h with ⟨rfl, rfl⟩ | ⟨g, rfl, hrow⟩
  · go_enter Trym.func23, Trym.ntmps23
    go_wp2
    refine wp_loop_rounds 1 ?_
    rw [rounds_succ]
    go_wp2
    go_end0
    exact ⟨rfl, Touch.refl _ _⟩
  · go_enter Trym.func23, Trym.ntmps23
    go_wp2
    go_loopw [2] (fun i wr => ∃ k : Nat, k ≤ len ∧ i = .int .i64 k ∧ wr.rowIs g 58 len (fun i => if i < k then .string (S i ++ ⟨#[33]⟩) else .string (S i)) ∧ Touch w wr (some ⟨g, 0, none⟩)) (fun i _ => len - (intOf i).toNat)
    case atStart => exact ⟨0, Nat.zero_le _, rfl, hrow.congr (fun i hi => by simp), Touch.refl _ _⟩
    case round =>
      obtain ⟨k, hk, rfl, hr, ht⟩ := hrel
      by_cases hkl : k < len
      · have hcr : wr.cell? ⟨g, k, none⟩ = some (.string (S k)) := by rw [hr.cell hkl, if_neg (by omega)]
        have hfr := hr.frozen k
        have hsz := hs k hkl
        go_wp2
        go_roundw
        case rel => exact ⟨k + 1, by omega, by go_num, (hr.set k _).congr (fun i hi => by
            by_cases e : i = k
            · subst e; simp
            · by_cases e2 : i < k
              · rw [if_neg e, if_pos e2, if_pos (by omega)]
              · rw [if_neg e, if_neg e2, if_neg (by omega)]), ht.setCell _⟩
        case measure => simp [intOf]; omega
      · go_wp2
        go_end0
        exact ⟨rfl, ht⟩

set_option maxHeartbeats 400000 in
theorem copy27 (ao : Option Addr) (len : Nat) (S : Nat → ByteArray) (w : World) (h : Own w 58 ao len S) (hl : len ≤ 65536) :
    Calls Trym.prog 27 #[.slice ao len len] w fun e w' => ∃ bo, e = .returned (.slice bo len len) ∧ Own w' 58 bo len S ∧ (bo = none ↔ ao = none) ∧ (∀ a, bo = some a → w.heap.size ≤ a.block) ∧ Below w.heap.size w w' := by
  have qT : ∀ (w : World) (a : Option Addr) (n c n' c' : Nat), (binOp .eql 39 (.slice a n c) (.slice none n' c')).run Trym.prog w = .ok (.bool a.isNone) w := fun w a n c n' c' => Lib.run_eql_slice_nil w _ _ a n c n' c' Trym.underlying39
  have hmk := make_one 39 58 Trym.underlying39 info58 0 len (Nat.zero_le _) hl
  simp only [Int.natCast_zero] at hmk
  obtain ⟨i0, hi0, hz0, hz1, hz2⟩ := info_parts info58
  rcases h with ⟨rfl, rfl⟩ | ⟨g, rfl, hrow⟩
  · go_enter Trym.func27, Trym.ntmps27
    go_wp2
    go_ret
    exact ⟨none, rfl, .inl ⟨rfl, rfl⟩, by simp, by simp, Below.refl _ _⟩
  · have hlt := hrow.lt
    have H1 : Hid ((w.alloc (.cells (madeCells #[.string ⟨#[]⟩] len) 58)).ownsRow w.heap.size 58 1 (.slice (some ⟨w.heap.size, 0, none⟩) 0 len) 0 []) := World.ownsRow_made w _ len (Nat.le_refl _) (by unfold maxLen; omega) (by simp [size_madeCells])
    have H2 : Hid (∀ j u, ((List.range len).map fun i => Value.string (S i))[j]? = some u → (w.alloc (.cells (madeCells #[.string ⟨#[]⟩] len) 58)).cell? ((⟨g, 0, none⟩ : Addr).add j) = some u) := by
      intro j u hu
      have hj : j < len := by
        have := (List.getElem?_eq_some_iff.1 hu).1
        simpa using this
      simp [hj] at hu
      subst hu
      simp only [Addr.add_lit, Nat.zero_add]
      rw [World.cell?_alloc_past _ _ _ hlt]
      exact hrow.cell hj
    have H3 : Hid (∀ u ∈ ((List.range len).map fun i => Value.string (S i)), u.oneCell' = true) := by
      intro u hu
      simp at hu
      obtain ⟨i, _, rfl⟩ := hu
      rfl
    go_enter Trym.func27, Trym.ntmps27
    go_wp2_with (at_builtin; refine wpList_append_fits _ rfl _ _ 39 rfl w.heap.size 58 i0 1 Trym.underlying39 hi0 hz1 w.heap.size 0 len [] rfl H1.out ⟨g, 0, none⟩ len len ((List.range len).map fun i => Value.string (S i)) rfl (by simp) H2.out H3.out (by omega) ?_; intro w1 hown hgrow)
    go_ret
    simp only [Nat.zero_add, List.nil_append] at hown
    exact ⟨_, by simp, .inr ⟨_, rfl, row_of_owns hown⟩, by simp, fun a ha => by cases ha; exact Nat.le_refl _, (((Below.refl _ _).alloc (Nat.le_refl _) _)).grown hgrow (by simp) (fun k hk => by cases hk; exact Nat.le_refl _)⟩

set_option maxHeartbeats 400000 in
theorem to17 (ao : Option Addr) (len cap : Nat) (S : Nat → ByteArray) (w : World) (h : IsS w ao len S) (hl : len ≤ 65536) :
    Calls Trym.prog 17 #[.slice ao len cap] w fun e w' => ∃ bo, e = .returned (.slice bo len len) ∧ Own w' 60 bo len S ∧ (bo = none ↔ ao = none) ∧ (∀ a, bo = some a → w.heap.size ≤ a.block) ∧ Below w.heap.size w w' := by
  have q35 : ∀ (w : World) (a : Option Addr) (n c n' c' : Nat), (binOp .eql 35 (.slice a n c) (.slice none n' c')).run Trym.prog w = .ok (.bool a.isNone) w := fun w a n c n' c' => Lib.run_eql_slice_nil w _ _ a n c n' c' Trym.underlying35
  have hmk := make_one 43 60 Trym.underlying43 info60 len len (Nat.le_refl _) hl
  cases ao with
  | none =>
    obtain rfl := h.1 rfl
    go_enter Trym.func17, Trym.ntmps17
    go_wp2
    go_ret
    exact ⟨none, rfl, .inl ⟨rfl, rfl⟩, by simp, by simp, Below.refl _ _⟩
  | some a =>
    have hfin : ∀ w', w'.rowIs w.heap.size 60 len (fun i => .string (S i)) → Below w.heap.size w w' → ∃ bo, Ending.returned (.slice (some ⟨w.heap.size, 0, none⟩) len len) = .returned (.slice bo len len) ∧ Own w' 60 bo len S ∧ (bo = none ↔ some a = none) ∧ (∀ a, bo = some a → w.heap.size ≤ a.block) ∧ Below w.heap.size w w' :=
      fun w' hr hb => ⟨_, rfl, .inr ⟨_, rfl, hr⟩, by simp, fun a ha => by cases ha; exact Nat.le_refl _, hb⟩
    have HF : Hid _ := hfin
    clear hfin
    rcases Nat.eq_zero_or_pos len with h0 | hpos
    · subst h0
      simp only [Int.natCast_zero] at hmk
      go_enter Trym.func17, Trym.ntmps17
      go_wp2
      refine wp_loop_rounds 1 ?_
      rw [rounds_succ]
      go_wp2
      go_ret
      exact HF.out _ ((made_row _ _ _).congr (fun i hi => by omega)) ((Below.refl _ _).alloc (Nat.le_refl _) _)
    · obtain ⟨b, o, hab, hlt, hc⟩ := h.2 hpos
      cases hab
      clear h
      go_enter Trym.func17, Trym.ntmps17
      go_wp2
      go_loopw [4] (fun i wr => ∃ k : Nat, k ≤ len ∧ i = .int .i64 k ∧ wr.rowIs w.heap.size 60 len (fun i => if i < k then .string (S i) else .string ⟨#[]⟩) ∧ Below w.heap.size w wr) (fun i _ => len - (intOf i).toNat)
      case atStart => exact ⟨0, Nat.zero_le _, rfl, (made_row _ _ _).congr (fun i hi => by simp), (Below.refl _ _).alloc (Nat.le_refl _) _⟩
      case round =>
        obtain ⟨k, hk, rfl, hrow, hbel⟩ := hrel
        by_cases hkl : k < len
        · have hck : wr.cell? ⟨b, o + k, none⟩ = some (.string (S k)) := (hbel.cell (p := ⟨b, o + k, none⟩) hlt).trans (hc k hkl).1
          have hcr := hrow.cell hkl
          have hfr := hrow.frozen k
          go_wp2
          go_roundw
          case rel => exact ⟨k + 1, by omega, by go_num, (hrow.set k _).congr (fun i hi => by
            by_cases e : i = k
            · subst e; simp
            · by_cases e2 : i < k
              · rw [if_neg e, if_pos e2, if_pos (by omega)]
              · rw [if_neg e, if_neg e2, if_neg (by omega)]), hbel.setCell (by simp) _⟩
          case measure => simp [intOf]; omega
        · go_wp2
          go_ret
          exact HF.out _ (hrow.congr (fun i hi => by rw [if_pos (by omega)])) hbel

set_option maxHeartbeats 400000 in
theorem match21 (ao bo : Option Addr) (len cap : Nat) (S : Nat → ByteArray) (w : World) (h : Own w 60 ao len S) (h2 : IsS w bo len S) (hn : ao = none ↔ bo = none) (hl : len ≤ 65536) :
    Calls Trym.prog 21 #[.slice ao len len, .slice bo len cap] w fun e w' => e = .returned (.bool true) ∧ ∃ n, w' = w.drewN n := by
  have q35 : ∀ (w : World) (a : Option Addr) (n c n' c' : Nat), (binOp .eql 35 (.slice a n c) (.slice none n' c')).run Trym.prog w = .ok (.bool a.isNone) w := fun w a n c n' c' => Lib.run_eql_slice_nil w _ _ a n c n' c' Trym.underlying35
  have qT : ∀ (w : World) (a : Option Addr) (n c n' c' : Nat), (binOp .eql 43 (.slice a n c) (.slice none n' c')).run Trym.prog w = .ok (.bool a.isNone) w := fun w a n c n' c' => Lib.run_eql_slice_nil w _ _ a n c n' c' Trym.underlying43
  rcases h with ⟨rfl, rfl⟩ | ⟨g, rfl, hrow⟩
  · obtain rfl := hn.1 rfl
    clear hn h2
    go_enter Trym.func21, Trym.ntmps21
    go_wp2
    refine wp_loop_rounds 1 ?_
    rw [rounds_succ]
    go_wp2
    go_ret
    exact ⟨rfl, 0, rfl⟩
  · cases bo with
    | none => simp at hn
    | some a =>
      clear hn
      rcases Nat.eq_zero_or_pos len with h0 | hpos
      · subst h0
        clear h2 hrow
        go_enter Trym.func21, Trym.ntmps21
        go_wp2
        refine wp_loop_rounds 1 ?_
        rw [rounds_succ]
        go_wp2
        go_ret
        exact ⟨rfl, 0, rfl⟩
      · obtain ⟨b, o, hab, hlt, hc⟩ := h2.2 hpos
        cases hab
        clear h2
        go_enter Trym.func21, Trym.ntmps21
        go_wp2
        go_loopw [5] (fun i wr => ∃ k : Nat, k ≤ len ∧ i = .int .i64 k ∧ ∃ n, wr = w.drewN n) (fun i _ => len - (intOf i).toNat)
        case atStart => exact ⟨0, Nat.zero_le _, rfl, 0, rfl⟩
        case round =>
          obtain ⟨k, hk, rfl, n, rfl⟩ := hrel
          by_cases hkl : k < len
          · have hck := (hc k hkl).1
            have hcr := hrow.cell hkl
            have hz : (0 : Int) ≤ (k : Int) := by omega
            have hzl : (k : Int) < (len : Int) := by omega
            go_wp2
            go_quiet (fail)
            go_wp2
            go_roundw
            case rel => exact ⟨k + 1, by omega, by go_num, _, rfl⟩
            case measure => simp [intOf]; omega
          · go_wp2
            go_ret
            exact ⟨rfl, n, rfl⟩

set_option maxHeartbeats 400000 in
theorem mark24 (ao : Option Addr) (len : Nat) (S : Nat → ByteArray) (w : World) (h : Own w 60 ao len S) (hl : len ≤ 65536) (hs : ∀ i, i < len → (S i).size ≤ 1048576) :
    Calls Trym.prog 24 #[.slice ao len len] w fun e w' => e = .returned (.tuple #[]) ∧ Touch w w' ao := by
  rcases h with ⟨rfl, rfl⟩ | ⟨g, rfl, hrow⟩
  · go_enter Trym.func24, Trym.ntmps24
    go_wp2
    refine wp_loop_rounds 1 ?_
    rw [rounds_succ]
    go_wp2
    go_end0
    exact ⟨rfl, Touch.refl _ _⟩
  · go_enter Trym.func24, Trym.ntmps24
    go_wp2
    go_loopw [2] (fun i wr => ∃ k : Nat, k ≤ len ∧ i = .int .i64 k ∧ wr.rowIs g 60 len (fun i => if i < k then .string (S i ++ ⟨#[33]⟩) else .string (S i)) ∧ Touch w wr (some ⟨g, 0, none⟩)) (fun i _ => len - (intOf i).toNat)
    case atStart => exact ⟨0, Nat.zero_le _, rfl, hrow.congr (fun i hi => by simp), Touch.refl _ _⟩
    case round =>
      obtain ⟨k, hk, rfl, hr, ht⟩ := hrel
      by_cases hkl : k < len
      · have hcr : wr.cell? ⟨g, k, none⟩ = some (.string (S k)) := by rw [hr.cell hkl, if_neg (by omega)]
        have hfr := hr.frozen k
        have hsz := hs k hkl
        go_wp2
        go_roundw
        case rel => exact ⟨k + 1, by omega, by go_num, (hr.set k _).congr (fun i hi => by
            by_cases e : i = k
            · subst e; simp
            · by_cases e2 : i < k
              · rw [if_neg e, if_pos e2, if_pos (by omega)]
              · rw [if_neg e, if_neg e2, if_neg (by omega)]), ht.setCell _⟩
        case measure => simp [intOf]; omega
      · go_wp2
        go_end0
        exact ⟨rfl, ht⟩

set_option maxHeartbeats 400000 in
theorem copy28 (ao : Option Addr) (len : Nat) (S : Nat → ByteArray) (w : World) (h : Own w 60 ao len S) (hl : len ≤ 65536) :
    Calls Trym.prog 28 #[.slice ao len len] w fun e w' => ∃ bo, e = .returned (.slice bo len len) ∧ Own w' 60 bo len S ∧ (bo = none ↔ ao = none) ∧ (∀ a, bo = some a → w.heap.size ≤ a.block) ∧ Below w.heap.size w w' := by
  have qT : ∀ (w : World) (a : Option Addr) (n c n' c' : Nat), (binOp .eql 43 (.slice a n c) (.slice none n' c')).run Trym.prog w = .ok (.bool a.isNone) w := fun w a n c n' c' => Lib.run_eql_slice_nil w _ _ a n c n' c' Trym.underlying43
  have hmk := make_one 43 60 Trym.underlying43 info60 0 len (Nat.zero_le _) hl
  simp only [Int.natCast_zero] at hmk
  obtain ⟨i0, hi0, hz0, hz1, hz2⟩ := info_parts info60
  rcases h with ⟨rfl, rfl⟩ | ⟨g, rfl, hrow⟩
  · go_enter Trym.func28, Trym.ntmps28
    go_wp2
    go_ret
    exact ⟨none, rfl, .inl ⟨rfl, rfl⟩, by simp, by simp, Below.refl _ _⟩
  · have hlt := hrow.lt
    have H1 : Hid ((w.alloc (.cells (madeCells #[.string ⟨#[]⟩] len) 60)).ownsRow w.heap.size 60 1 (.slice (some ⟨w.heap.size, 0, none⟩) 0 len) 0 []) := World.ownsRow_made w _ len (Nat.le_refl _) (by unfold maxLen; omega) (by simp [size_madeCells])
    have H2 : Hid (∀ j u, ((List.range len).map fun i => Value.string (S i))[j]? = some u → (w.alloc (.cells (madeCells #[.string ⟨#[]⟩] len) 60)).cell? ((⟨g, 0, none⟩ : Addr).add j) = some u) := by
      intro j u hu
      have hj : j < len := by
        have := (List.getElem?_eq_some_iff.1 hu).1
        simpa using this
      simp [hj] at hu
      subst hu
      simp only [Addr.add_lit, Nat.zero_add]
      rw [World.cell?_alloc_past _ _ _ hlt]
      exact hrow.cell hj
    have H3 : Hid (∀ u ∈ ((List.range len).map fun i => Value.string (S i)), u.oneCell' = true) := by
      intro u hu
      simp at hu
      obtain ⟨i, _, rfl⟩ := hu
      rfl
    go_enter Trym.func28, Trym.ntmps28
    go_wp2_with (at_builtin; refine wpList_append_fits _ rfl _ _ 43 rfl w.heap.size 60 i0 1 Trym.underlying43 hi0 hz1 w.heap.size 0 len [] rfl H1.out ⟨g, 0, none⟩ len len ((List.range len).map fun i => Value.string (S i)) rfl (by simp) H2.out H3.out (by omega) ?_; intro w1 hown hgrow)
    go_ret
    simp only [Nat.zero_add, List.nil_append] at hown
    exact ⟨_, by simp, .inr ⟨_, rfl, row_of_owns hown⟩, by simp, fun a ha => by cases ha; exact Nat.le_refl _, (((Below.refl _ _).alloc (Nat.le_refl _) _)).grown hgrow (by simp) (fun k hk => by cases hk; exact Nat.le_refl _)⟩

set_option maxHeartbeats 400000 in
theorem to18 (ao : Option Addr) (len cap : Nat) (S : Nat → ByteArray) (w : World) (h : IsS w ao len S) (hl : len ≤ 65536) :
    Calls Trym.prog 18 #[.slice ao len cap] w fun e w' => ∃ bo, e = .returned (.slice bo len len) ∧ Own w' 61 bo len S ∧ (bo = none ↔ ao = none) ∧ (∀ a, bo = some a → w.heap.size ≤ a.block) ∧ Below w.heap.size w w' := by
  have q35 : ∀ (w : World) (a : Option Addr) (n c n' c' : Nat), (binOp .eql 35 (.slice a n c) (.slice none n' c')).run Trym.prog w = .ok (.bool a.isNone) w := fun w a n c n' c' => Lib.run_eql_slice_nil w _ _ a n c n' c' Trym.underlying35
  have hmk := make_one 45 61 Trym.underlying45 info61 len len (Nat.le_refl _) hl
  cases ao with
  | none =>
    obtain rfl := h.1 rfl
    go_enter Trym.func18, Trym.ntmps18
    go_wp2
    go_ret
    exact ⟨none, rfl, .inl ⟨rfl, rfl⟩, by simp, by simp, Below.refl _ _⟩
  | some a =>
    have hfin : ∀ w', w'.rowIs w.heap.size 61 len (fun i => .string (S i)) → Below w.heap.size w w' → ∃ bo, Ending.returned (.slice (some ⟨w.heap.size, 0, none⟩) len len) = .returned (.slice bo len len) ∧ Own w' 61 bo len S ∧ (bo = none ↔ some a = none) ∧ (∀ a, bo = some a → w.heap.size ≤ a.block) ∧ Below w.heap.size w w' :=
      fun w' hr hb => ⟨_, rfl, .inr ⟨_, rfl, hr⟩, by simp, fun a ha => by cases ha; exact Nat.le_refl _, hb⟩
    have HF : Hid _ := hfin
    clear hfin
    rcases Nat.eq_zero_or_pos len with h0 | hpos
    · subst h0
      simp only [Int.natCast_zero] at hmk
      go_enter Trym.func18, Trym.ntmps18
      go_wp2
      refine wp_loop_rounds 1 ?_
      rw [rounds_succ]
      go_wp2
      go_ret
      exact HF.out _ ((made_row _ _ _).congr (fun i hi => by omega)) ((Below.refl _ _).alloc (Nat.le_refl _) _)
    · obtain ⟨b, o, hab, hlt, hc⟩ := h.2 hpos
      cases hab
      clear h
      go_enter Trym.func18, Trym.ntmps18
      go_wp2
      go_loopw [4] (fun i wr => ∃ k : Nat, k ≤ len ∧ i = .int .i64 k ∧ wr.rowIs w.heap.size 61 len (fun i => if i < k then .string (S i) else .string ⟨#[]⟩) ∧ Below w.heap.size w wr) (fun i _ => len - (intOf i).toNat)
      case atStart => exact ⟨0, Nat.zero_le _, rfl, (made_row _ _ _).congr (fun i hi => by simp), (Below.refl _ _).alloc (Nat.le_refl _) _⟩
      case round =>
        obtain ⟨k, hk, rfl, hrow, hbel⟩ := hrel
        by_cases hkl : k < len
        · have hck : wr.cell? ⟨b, o + k, none⟩ = some (.string (S k)) := (hbel.cell (p := ⟨b, o + k, none⟩) hlt).trans (hc k hkl).1
          have hcr := hrow.cell hkl
          have hfr := hrow.frozen k
          go_wp2
          go_roundw
          case rel => exact ⟨k + 1, by omega, by go_num, (hrow.set k _).congr (fun i hi => by
            by_cases e : i = k
            · subst e; simp
            · by_cases e2 : i < k
              · rw [if_neg e, if_pos e2, if_pos (by omega)]
              · rw [if_neg e, if_neg e2, if_neg (by omega)]), hbel.setCell (by simp) _⟩
          case measure => simp [intOf]; omega
        · go_wp2
          go_ret
          exact HF.out _ (hrow.congr (fun i hi => by rw [if_pos (by omega)])) hbel

set_option maxHeartbeats 400000 in
theorem match22 (ao bo : Option Addr) (len cap : Nat) (S : Nat → ByteArray) (w : World) (h : Own w 61 ao len S) (h2 : IsS w bo len S) (hn : ao = none ↔ bo = none) (hl : len ≤ 65536) :
    Calls Trym.prog 22 #[.slice ao len len, .slice bo len cap] w fun e w' => e = .returned (.bool true) ∧ ∃ n, w' = w.drewN n := by
  have q35 : ∀ (w : World) (a : Option Addr) (n c n' c' : Nat), (binOp .eql 35 (.slice a n c) (.slice none n' c')).run Trym.prog w = .ok (.bool a.isNone) w := fun w a n c n' c' => Lib.run_eql_slice_nil w _ _ a n c n' c' Trym.underlying35
  have qT : ∀ (w : World) (a : Option Addr) (n c n' c' : Nat), (binOp .eql 45 (.slice a n c) (.slice none n' c')).run Trym.prog w = .ok (.bool a.isNone) w := fun w a n c n' c' => Lib.run_eql_slice_nil w _ _ a n c n' c' Trym.underlying45
  rcases h with ⟨rfl, rfl⟩ | ⟨g, rfl, hrow⟩
  · obtain rfl := hn.1 rfl
    clear hn h2
    go_enter Trym.func22, Trym.ntmps22
    go_wp2
    refine wp_loop_rounds 1 ?_
    rw [rounds_succ]
    go_wp2
    go_ret
    exact ⟨rfl, 0, rfl⟩
  · cases bo with
    | none => simp at hn
    | some a =>
      clear hn
      rcases Nat.eq_zero_or_pos len with h0 | hpos
      · subst h0
        clear h2 hrow
        go_enter Trym.func22, Trym.ntmps22
        go_wp2
        refine wp_loop_rounds 1 ?_
        rw [rounds_succ]
        go_wp2
        go_ret
        exact ⟨rfl, 0, rfl⟩
      · obtain ⟨b, o, hab, hlt, hc⟩ := h2.2 hpos
        cases hab
        clear h2
        go_enter Trym.func22, Trym.ntmps22
        go_wp2
        go_loopw [5] (fun i wr => ∃ k : Nat, k ≤ len ∧ i = .int .i64 k ∧ ∃ n, wr = w.drewN n) (fun i _ => len - (intOf i).toNat)
        case atStart => exact ⟨0, Nat.zero_le _, rfl, 0, rfl⟩
        case round =>
          obtain ⟨k, hk, rfl, n, rfl⟩ := hrel
          by_cases hkl : k < len
          · have hck := (hc k hkl).1
            have hcr := hrow.cell hkl
            have hz : (0 : Int) ≤ (k : Int) := by omega
            have hzl : (k : Int) < (len : Int) := by omega
            go_wp2
            go_quiet (fail)
            go_wp2
            go_roundw
            case rel => exact ⟨k + 1, by omega, by go_num, _, rfl⟩
            case measure => simp [intOf]; omega
          · go_wp2
            go_ret
            exact ⟨rfl, n, rfl⟩

set_option maxHeartbeats 400000 in
theorem mark25 (ao : Option Addr) (len : Nat) (S : Nat → ByteArray) (w : World) (h : Own w 61 ao len S) (hl : len ≤ 65536) (hs : ∀ i, i < len → (S i).size ≤ 1048576) :
    Calls Trym.prog 25 #[.slice ao len len] w fun e w' => e = .returned (.tuple #[]) ∧ Touch w w' ao := by
  rcases h with ⟨rfl, rfl⟩ | ⟨g, rfl, hrow⟩
  · go_enter Trym.func25, Trym.ntmps25
    go_wp2
    refine wp_loop_rounds 1 ?_
    rw [rounds_succ]
    go_wp2
    go_end0
    exact ⟨rfl, Touch.refl _ _⟩
  · go_enter Trym.func25, Trym.ntmps25
    go_wp2
    go_loopw [2] (fun i wr => ∃ k : Nat, k ≤ len ∧ i = .int .i64 k ∧ wr.rowIs g 61 len (fun i => if i < k then .string (S i ++ ⟨#[33]⟩) else .string (S i)) ∧ Touch w wr (some ⟨g, 0, none⟩)) (fun i _ => len - (intOf i).toNat)
    case atStart => exact ⟨0, Nat.zero_le _, rfl, hrow.congr (fun i hi => by simp), Touch.refl _ _⟩
    case round =>
      obtain ⟨k, hk, rfl, hr, ht⟩ := hrel
      by_cases hkl : k < len
      · have hcr : wr.cell? ⟨g, k, none⟩ = some (.string (S k)) := by rw [hr.cell hkl, if_neg (by omega)]
        have hfr := hr.frozen k
        have hsz := hs k hkl
        go_wp2
        go_roundw
        case rel => exact ⟨k + 1, by omega, by go_num, (hr.set k _).congr (fun i hi => by
            by_cases e : i = k
            · subst e; simp
            · by_cases e2 : i < k
              · rw [if_neg e, if_pos e2, if_pos (by omega)]
              · rw [if_neg e, if_neg e2, if_neg (by omega)]), ht.setCell _⟩
        case measure => simp [intOf]; omega
      · go_wp2
        go_end0
        exact ⟨rfl, ht⟩

set_option maxHeartbeats 400000 in
theorem copy29 (ao : Option Addr) (len : Nat) (S : Nat → ByteArray) (w : World) (h : Own w 61 ao len S) (hl : len ≤ 65536) :
    Calls Trym.prog 29 #[.slice ao len len] w fun e w' => ∃ bo, e = .returned (.slice bo len len) ∧ Own w' 61 bo len S ∧ (bo = none ↔ ao = none) ∧ (∀ a, bo = some a → w.heap.size ≤ a.block) ∧ Below w.heap.size w w' := by
  have qT : ∀ (w : World) (a : Option Addr) (n c n' c' : Nat), (binOp .eql 45 (.slice a n c) (.slice none n' c')).run Trym.prog w = .ok (.bool a.isNone) w := fun w a n c n' c' => Lib.run_eql_slice_nil w _ _ a n c n' c' Trym.underlying45
  have hmk := make_one 45 61 Trym.underlying45 info61 0 len (Nat.zero_le _) hl
  simp only [Int.natCast_zero] at hmk
  obtain ⟨i0, hi0, hz0, hz1, hz2⟩ := info_parts info61
  rcases h with ⟨rfl, rfl⟩ | ⟨g, rfl, hrow⟩
  · go_enter Trym.func29, Trym.ntmps29
    go_wp2
    go_ret
    exact ⟨none, rfl, .inl ⟨rfl, rfl⟩, by simp, by simp, Below.refl _ _⟩
  · have hlt := hrow.lt
    have H1 : Hid ((w.alloc (.cells (madeCells #[.string ⟨#[]⟩] len) 61)).ownsRow w.heap.size 61 1 (.slice (some ⟨w.heap.size, 0, none⟩) 0 len) 0 []) := World.ownsRow_made w _ len (Nat.le_refl _) (by unfold maxLen; omega) (by simp [size_madeCells])
    have H2 : Hid (∀ j u, ((List.range len).map fun i => Value.string (S i))[j]? = some u → (w.alloc (.cells (madeCells #[.string ⟨#[]⟩] len) 61)).cell? ((⟨g, 0, none⟩ : Addr).add j) = some u) := by
      intro j u hu
      have hj : j < len := by
        have := (List.getElem?_eq_some_iff.1 hu).1
        simpa using this
      simp [hj] at hu
      subst hu
      simp only [Addr.add_lit, Nat.zero_add]
      rw [World.cell?_alloc_past _ _ _ hlt]
      exact hrow.cell hj
    have H3 : Hid (∀ u ∈ ((List.range len).map fun i => Value.string (S i)), u.oneCell' = true) := by
      intro u hu
      simp at hu
      obtain ⟨i, _, rfl⟩ := hu
      rfl
    go_enter Trym.func29, Trym.ntmps29
    go_wp2_with (at_builtin; refine wpList_append_fits _ rfl _ _ 45 rfl w.heap.size 61 i0 1 Trym.underlying45 hi0 hz1 w.heap.size 0 len [] rfl H1.out ⟨g, 0, none⟩ len len ((List.range len).map fun i => Value.string (S i)) rfl (by simp) H2.out H3.out (by omega) ?_; intro w1 hown hgrow)
    go_ret
    simp only [Nat.zero_add, List.nil_append] at hown
    exact ⟨_, by simp, .inr ⟨_, rfl, row_of_owns hown⟩, by simp, fun a ha => by cases ha; exact Nat.le_refl _, (((Below.refl _ _).alloc (Nat.le_refl _) _)).grown hgrow (by simp) (fun k hk => by cases hk; exact Nat.le_refl _)⟩

end Go.Proofs.Qxb6602445aMods
