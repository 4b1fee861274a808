import Derived.Test.Qxb6602445aModsProg
import Derived.WalkKit
import Derived.RegionTactic
import Derived.Deep.QuietTactic
import Derived.BigQuiet
import Derived.Deep.OwnRows
import Derived.Outline
import Derived.WalkLawsBesides
import Derived.WalkSpells
import Derived.KernelRfl
namespace Go.Proofs.Qxb6602445aMods
open Go.RowKit

/-- WHAT IS KNOWN OF A SLICE OF STRINGS THAT CAME IN: 'S i' is its i-th string. -/
def IsS (w : World) (ao : Option Addr) (len : Nat) (S : Nat → ByteArray) : Prop :=
  (ao = none → len = 0) ∧ (0 < len → ∃ b o, ao = some ⟨b, o, none⟩ ∧ b < w.heap.size ∧ ∀ i, i < len → w.cell? ⟨b, o + i, none⟩ = some (.string (S i)) ∧ (S i).size ≤ 9223372036854775807)

/-- WHAT IS KNOWN OF A SLICE OF ONE-STRING STRUCTS THAT THE CALL ITSELF HAS MADE. -/
def Own (w : World) (E : TypeId) (ao : Option Addr) (len : Nat) (S : Nat → ByteArray) : Prop :=
  (ao = none ∧ len = 0) ∨ ∃ g, ao = some ⟨g, 0, none⟩ ∧ w.rowIs g E len (fun i => .string (S i))

theorem IsS.keep {w w' : World} {ao : Option Addr} {len : Nat} {S : Nat → ByteArray} {B : Nat} (h : IsS w ao len S) (hB : w.heap.size ≤ B) (hb : Below B w w') : IsS w' ao len S := by
  refine ⟨h.1, fun hl => ?_⟩
  obtain ⟨b, o, rfl, hlt, hc⟩ := h.2 hl
  refine ⟨b, o, rfl, by have := hb.size; omega, fun i hi => ?_⟩
  rw [hb.cell (p := ⟨b, o + i, none⟩) (by show b < B; omega)]
  exact hc i hi

theorem Own.keep {w w' : World} {E : TypeId} {ao : Option Addr} {len : Nat} {S : Nat → ByteArray} (h : Own w E ao len S) (hb : ∀ a, ao = some a → w'.heap[a.block]? = w.heap[a.block]?) : Own w' E ao len S := by
  rcases h with h | ⟨g, rfl, h⟩
  · exact .inl h
  · exact .inr ⟨g, rfl, h.of_block (hb _ rfl)⟩

theorem Own.lt {w : World} {E : TypeId} {ao : Option Addr} {len : Nat} {S : Nat → ByteArray} (h : Own w E ao len S) : ∀ a, ao = some a → a.block < w.heap.size := by
  rcases h with h | ⟨g, rfl, h⟩
  · intro a ha; rw [h.1] at ha; cases ha
  · intro a ha; cases ha; exact h.lt

theorem info58 : (Trym.prog.info? 58).map (fun i => (i.zero, i.size, i.bytes)) = some (some (.agg #[.string ⟨#[]⟩]), 1, 16) := by kernel_rfl
theorem info60 : (Trym.prog.info? 60).map (fun i => (i.zero, i.size, i.bytes)) = some (some (.agg #[.string ⟨#[]⟩]), 1, 16) := by kernel_rfl
theorem info61 : (Trym.prog.info? 61).map (fun i => (i.zero, i.size, i.bytes)) = some (some (.agg #[.string ⟨#[]⟩]), 1, 16) := by kernel_rfl

/-- make([]T, l, n), T a struct of one string. -/
theorem make_one (T E : TypeId) (hT : Trym.prog.underlying T = some (.slice E)) (hinfo : (Trym.prog.info? E).map (fun i => (i.zero, i.size, i.bytes)) = some (some (.agg #[.string ⟨#[]⟩]), 1, 16))
    (l n : Nat) (hln : l ≤ n) (hn : n ≤ 65536) (w : World) :
    (Instr.makeSlice T (.int .i64 (l : Int)) (.int .i64 (n : Int))).run Trym.prog w = .ok (.slice (some ⟨w.heap.size, 0, none⟩) l n) (w.alloc (.cells (madeCells #[.string ⟨#[]⟩] n) E)) := by
  obtain ⟨i, hi, hzz⟩ := Option.map_eq_some_iff.1 hinfo
  simp only [Prod.mk.injEq] at hzz
  obtain ⟨hz, hs, hb⟩ := hzz
  have hr := run_make (P := Trym.prog) w T E i _ hT hi hz .i64 .i64 l n (by omega) (by omega) (by rw [hb]; omega) (by omega)
  simp only [Int.toNat_natCast, hs, Nat.mul_one] at hr
  exact hr

theorem made_row (w : World) (n : Nat) (E : TypeId) : (w.alloc (.cells (madeCells #[.string ⟨#[]⟩] n) E)).rowIs w.heap.size E n (fun _ => .string ⟨#[]⟩) :=
  World.rowIs_made w _ n E

set_option maxHeartbeats 400000 in
theorem bytes15 (ao : Option Addr) (len cap : Nat) (S : Nat → ByteArray) (w : World) (h : IsS w ao len S) (hl : len ≤ 65536) :
    Calls Trym.prog 15 #[.slice ao len cap] w fun e w' => ∃ t : Int, e = .returned (.int .i64 t) ∧ w' = w ∧ 0 ≤ t ∧ t ≤ 2097152 ∧ (t ≤ 1048576 → ∀ i, i < len → (S i).size ≤ 1048576) := by
  rcases Nat.eq_zero_or_pos len with h0 | hpos
  · subst h0
    go_enter Trym.func15, Trym.ntmps15
    go_wp2
    refine wp_loop_rounds 1 ?_
    rw [rounds_succ]
    go_wp2
    go_ret
    exact ⟨0, rfl, rfl, by omega, by omega, fun _ i hi => by omega⟩
  · obtain ⟨b, o, rfl, hlt, hc⟩ := h.2 hpos
    clear h
    go_enter Trym.func15, Trym.ntmps15
    go_wp2
    go_loop [3, 4] (fun n i => ∃ (k : Nat) (t : Int), k ≤ len ∧ i = .int .i64 k ∧ n = .int .i64 t ∧ 0 ≤ t ∧ t ≤ 1048576 ∧ ∀ i, i < k → (S i).size ≤ 1048576) (fun _ i => len - (intOf i).toNat)
    case atStart => exact ⟨0, 16 * len, Nat.zero_le _, rfl, rfl, by omega, by omega, fun i hi => by omega⟩
    case round =>
      obtain ⟨k, t, hk, rfl, rfl, ht0, ht1, hS⟩ := hrel
      by_cases hlt : k < len
      · have hck := (hc k hlt).1
        have hsz := (hc k hlt).2
        go_wp2
        · go_ret
          exact ⟨2097152, rfl, rfl, by omega, by omega, fun h => by omega⟩
        · go_ret
          exact ⟨2097152, rfl, rfl, by omega, by omega, fun h => by omega⟩
        · go_round
          case rel => exact ⟨k + 1, _, by omega, by go_num, rfl, by omega, by omega, fun i hi => by
            by_cases e : i = k
            · subst e; omega
            · exact hS i (by omega)⟩
          case measure => simp [intOf]; omega
      · go_wp2
        go_ret
        exact ⟨t, rfl, rfl, ht0, by omega, fun _ i hi => hS i (by omega)⟩

set_option maxHeartbeats 400000 in
theorem to16 (ao : Option Addr) (len cap : Nat) (S : Nat → ByteArray) (w : World) (h : IsS w ao len S) (hl : len ≤ 65536) :
    Calls Trym.prog 16 #[.slice ao len cap] w fun e w' => ∃ bo, e = .returned (.slice bo len len) ∧ Own w' 58 bo len S ∧ (bo = none ↔ ao = none) ∧ (∀ a, bo = some a → w.heap.size ≤ a.block) ∧ Below w.heap.size w w' := by
  have q35 : ∀ (w : World) (a : Option Addr) (n c n' c' : Nat), (binOp .eql 35 (.slice a n c) (.slice none n' c')).run Trym.prog w = .ok (.bool a.isNone) w := fun w a n c n' c' => Lib.run_eql_slice_nil w _ _ a n c n' c' Trym.underlying35
  have hmk := make_one 39 58 Trym.underlying39 info58 len len (Nat.le_refl _) hl
  cases ao with
  | none =>
    obtain rfl := h.1 rfl
    go_enter Trym.func16, Trym.ntmps16
    go_wp2
    go_ret
    exact ⟨none, rfl, .inl ⟨rfl, rfl⟩, by simp, by simp, Below.refl _ _⟩
  | some a =>
    have hfin : ∀ w', w'.rowIs w.heap.size 58 len (fun i => .string (S i)) → Below w.heap.size w w' → ∃ bo, Ending.returned (.slice (some ⟨w.heap.size, 0, none⟩) len len) = .returned (.slice bo len len) ∧ Own w' 58 bo len S ∧ (bo = none ↔ some a = none) ∧ (∀ a, bo = some a → w.heap.size ≤ a.block) ∧ Below w.heap.size w w' :=
      fun w' hr hb => ⟨_, rfl, .inr ⟨_, rfl, hr⟩, by simp, fun a ha => by cases ha; exact Nat.le_refl _, hb⟩
    have HF : Hid _ := hfin
    clear hfin
    rcases Nat.eq_zero_or_pos len with h0 | hpos
    · subst h0
      simp only [Int.natCast_zero] at hmk
      go_enter Trym.func16, Trym.ntmps16
      go_wp2
      refine wp_loop_rounds 1 ?_
      rw [rounds_succ]
      go_wp2
      go_ret
      exact HF.out _ ((made_row _ _ _).congr (fun i hi => by omega)) ((Below.refl _ _).alloc (Nat.le_refl _) _)
    · obtain ⟨b, o, hab, hlt, hc⟩ := h.2 hpos
      cases hab
      clear h
      go_enter Trym.func16, Trym.ntmps16
      go_wp2
      go_loopw [4] (fun i wr => ∃ k : Nat, k ≤ len ∧ i = .int .i64 k ∧ wr.rowIs w.heap.size 58 len (fun i => if i < k then .string (S i) else .string ⟨#[]⟩) ∧ Below w.heap.size w wr) (fun i _ => len - (intOf i).toNat)
      case atStart => exact ⟨0, Nat.zero_le _, rfl, (made_row _ _ _).congr (fun i hi => by simp), (Below.refl _ _).alloc (Nat.le_refl _) _⟩
      case round =>
        obtain ⟨k, hk, rfl, hrow, hbel⟩ := hrel
        by_cases hkl : k < len
        · have hck : wr.cell? ⟨b, o + k, none⟩ = some (.string (S k)) := (hbel.cell (p := ⟨b, o + k, none⟩) hlt).trans (hc k hkl).1
          have hcr := hrow.cell hkl
          have hfr := hrow.frozen k
          go_wp2
          go_roundw
          case rel => exact ⟨k + 1, by omega, by go_num, (hrow.set k _).congr (fun i hi => by
            by_cases e : i = k
            · subst e; simp
            · by_cases e2 : i < k
              · rw [if_neg e, if_pos e2, if_pos (by omega)]
              · rw [if_neg e, if_neg e2, if_neg (by omega)]), hbel.setCell (by simp) _⟩
          case measure => simp [intOf]; omega
        · go_wp2
          go_ret
          exact HF.out _ (hrow.congr (fun i hi => by rw [if_pos (by omega)])) hbel
end Go.Proofs.Qxb6602445aMods
