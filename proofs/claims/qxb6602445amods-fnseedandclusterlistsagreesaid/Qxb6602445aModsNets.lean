import Derived.Test.Qxb6602445aModsProg
import Derived.WalkKit
import Derived.RegionTactic
import Derived.Deep.QuietTactic
import Derived.BigQuiet
import Derived.BigRegion
import Derived.Outline
import Derived.WalkLawsBesides
namespace Go.Proofs.Qxb6602445aMods
open Go.RowKit

set_option maxHeartbeats 400000 in
theorem bytes8 (a b c : ByteArray) (wa : a.size ≤ maxLen) (wb : b.size ≤ maxLen) (wc : c.size ≤ maxLen) (w : World) :
    Calls Trym.prog 8 #[.string a, .string b, .string c] w fun e w' => ∃ r, e = .returned (.bool r) ∧ w' = w := by
  unfold maxLen at wa wb wc
  go_enter Trym.func8, Trym.ntmps8
  go_wp2
  all_goals
    go_ret
    exact ⟨_, rfl, rfl⟩

set_option maxHeartbeats 400000 in
theorem bytes11 (a b c : ByteArray) (wa : a.size ≤ maxLen) (wb : b.size ≤ maxLen) (wc : c.size ≤ maxLen) (w : World) :
    Calls Trym.prog 11 #[.string a, .string b, .string c] w fun e w' => ∃ r, e = .returned (.bool r) ∧ w' = w := by
  unfold maxLen at wa wb wc
  go_enter Trym.func11, Trym.ntmps11
  go_wp2
  all_goals
    go_ret
    exact ⟨_, rfl, rfl⟩

set_option maxHeartbeats 400000 in
theorem bytes13 (a b c : ByteArray) (wa : a.size ≤ maxLen) (wb : b.size ≤ maxLen) (wc : c.size ≤ maxLen) (w : World) :
    Calls Trym.prog 13 #[.string a, .string b, .string c] w fun e w' => ∃ r, e = .returned (.bool r) ∧ w' = w := by
  unfold maxLen at wa wb wc
  go_enter Trym.func13, Trym.ntmps13
  go_wp2
  all_goals
    go_ret
    exact ⟨_, rfl, rfl⟩

def netCells (x y z : ByteArray) (r : Bool) : Array Value :=
  #[.string ⟨#[110, 111, 100, 101, 115]⟩, .string x, .bool false, .string ⟨#[112, 111, 100, 115]⟩, .string y, .bool r, .string ⟨#[115, 101, 114, 118, 105, 99, 101, 115]⟩, .string z, .bool r]

set_option maxHeartbeats 400000 in
theorem list9 (x y z : ByteArray) (b : Nat) (w : World) (h0 : w.cell? ⟨b, 0, none⟩ = some (.string x)) (h1 : w.cell? ⟨b, 1, none⟩ = some (.string y)) (h2 : w.cell? ⟨b, 2, none⟩ = some (.string z)) :
    Calls Trym.prog 9 #[.pointer (some ⟨b, 0, none⟩)] w fun e w' => e = .returned (.slice (some ⟨w.heap.size, 0, none⟩) 3 3) ∧ w' = (w.alloc (.cells (netCells x y z true) 34)).drew := by
  go_enter Trym.func9, Trym.ntmps9
  go_wp2
  go_region
  all_goals (go_wp2; go_ret; exact ⟨rfl, rfl⟩)

set_option maxHeartbeats 400000 in
theorem list12 (x y z : ByteArray) (b : Nat) (w : World) (h0 : w.cell? ⟨b, 0, none⟩ = some (.string x)) (h1 : w.cell? ⟨b, 1, none⟩ = some (.string y)) (h2 : w.cell? ⟨b, 2, none⟩ = some (.string z)) :
    Calls Trym.prog 12 #[.pointer (some ⟨b, 0, none⟩)] w fun e w' => e = .returned (.slice (some ⟨w.heap.size, 0, none⟩) 3 3) ∧ w' = (w.alloc (.cells (netCells x y z false) 34)).drew := by
  go_enter Trym.func12, Trym.ntmps12
  go_wp2
  go_region
  all_goals (go_wp2; go_ret; exact ⟨rfl, rfl⟩)

/-- What lies in a block of three networks. -/
def Nets (w : World) (g : Nat) (x y z : ByteArray) (r : Bool) : Prop :=
  w.cell? ⟨g, 0, none⟩ = some (.string ⟨#[110, 111, 100, 101, 115]⟩) ∧ w.cell? ⟨g, 1, none⟩ = some (.string x) ∧ w.cell? ⟨g, 2, none⟩ = some (.bool false) ∧
  w.cell? ⟨g, 3, none⟩ = some (.string ⟨#[112, 111, 100, 115]⟩) ∧ w.cell? ⟨g, 4, none⟩ = some (.string y) ∧ w.cell? ⟨g, 5, none⟩ = some (.bool r) ∧
  w.cell? ⟨g, 6, none⟩ = some (.string ⟨#[115, 101, 114, 118, 105, 99, 101, 115]⟩) ∧ w.cell? ⟨g, 7, none⟩ = some (.string z) ∧ w.cell? ⟨g, 8, none⟩ = some (.bool r)

theorem nets_made (v : World) (g : Nat) (hg : g = v.heap.size) (x y z : ByteArray) (r : Bool) : Nets (v.alloc (.cells (netCells x y z r) 34)).drew g x y z r := by
  subst hg
  refine ⟨?_, ?_, ?_, ?_, ?_, ?_, ?_, ?_, ?_⟩ <;> simp [netCells]

set_option maxHeartbeats 1000000 in
theorem look10 (x y z : ByteArray) (r : Bool) (g : Nat) (w : World) (h : Nets w g x y z r) :
    Calls Trym.prog 10 #[.slice (some ⟨g, 0, none⟩) 3 3, .string ⟨#[110, 111, 100, 101, 115]⟩] w fun e w' => e = .returned (.tuple #[.int .i64 1, .string x]) ∧ w' = w := by
  obtain ⟨h0, h1, h2, h3, h4, h5, h6, h7, h8⟩ := h
  go_enter Trym.func10, Trym.ntmps10
  go_wp2
  refine wp_loop_rounds 4 ?_
  rw [rounds_succ]
  go_wp2
  rw [rounds_succ]
  go_wp2
  rw [rounds_succ]
  go_wp2
  rw [rounds_succ]
  go_wp2
  go_ret2
  exact ⟨rfl, rfl⟩

set_option maxHeartbeats 1000000 in
theorem look10p (x y z : ByteArray) (r : Bool) (g : Nat) (w : World) (h : Nets w g x y z r) :
    Calls Trym.prog 10 #[.slice (some ⟨g, 0, none⟩) 3 3, .string ⟨#[112, 111, 100, 115]⟩] w fun e w' => e = .returned (.tuple #[.int .i64 1, .string y]) ∧ w' = w := by
  obtain ⟨h0, h1, h2, h3, h4, h5, h6, h7, h8⟩ := h
  go_enter Trym.func10, Trym.ntmps10
  go_wp2
  refine wp_loop_rounds 4 ?_
  rw [rounds_succ]
  go_wp2
  rw [rounds_succ]
  go_wp2
  rw [rounds_succ]
  go_wp2
  rw [rounds_succ]
  go_wp2
  go_ret2
  exact ⟨rfl, rfl⟩

set_option maxHeartbeats 1000000 in
theorem look10s (x y z : ByteArray) (r : Bool) (g : Nat) (w : World) (h : Nets w g x y z r) :
    Calls Trym.prog 10 #[.slice (some ⟨g, 0, none⟩) 3 3, .string ⟨#[115, 101, 114, 118, 105, 99, 101, 115]⟩] w fun e w' => e = .returned (.tuple #[.int .i64 1, .string z]) ∧ w' = w := by
  obtain ⟨h0, h1, h2, h3, h4, h5, h6, h7, h8⟩ := h
  go_enter Trym.func10, Trym.ntmps10
  go_wp2
  refine wp_loop_rounds 4 ?_
  rw [rounds_succ]
  go_wp2
  rw [rounds_succ]
  go_wp2
  rw [rounds_succ]
  go_wp2
  rw [rounds_succ]
  go_wp2
  go_ret2
  exact ⟨rfl, rfl⟩
end Go.Proofs.Qxb6602445aMods
