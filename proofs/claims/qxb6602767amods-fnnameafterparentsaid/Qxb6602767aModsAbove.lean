import Derived.Test.Qxb6602767aModsProg
import Derived.Test.Qxb6602767aModsPlain
import Derived.Test.Qxb6602767aModsBase
import Derived.WalkKit
import Derived.OwnWalk
import Derived.Deep.OwnRows
import Derived.Outline
import Derived.WalkLawsBesides
import Derived.WalkSpells
import Derived.KernelRfl
namespace Go.Proofs.Qxb6602767aMods
open Go.RowKit

theorem info24 : (Trym.prog.info? 24).map (fun i => (i.zero, i.size, i.bytes)) = some (some (.agg #[.string ⟨#[]⟩]), 1, 16) := by kernel_rfl

theorem bytes21 (a : ByteArray) (wa : a.size ≤ 9223372036854775807) (w : World) : Calls Trym.prog 21 #[.string a] w fun e w' => RetB w e w' := by
  go_enter Trym.func21, Trym.ntmps21
  go_wp2
  all_goals
    go_ret
    exact ⟨_, rfl, rfl⟩

theorem rel16 (x : ByteArray) (w : World) : Calls Trym.prog 16 #[.agg #[.string x]] w fun e w' => e = .returned (.string x) ∧ w' = w.alloc (.cells #[.string x] 24) := by
  go_enter Trym.func16, Trym.ntmps16
  go_wp2
  go_ret
  exact ⟨rfl, rfl⟩

set_option maxHeartbeats 400000 in
theorem count22 (s : ByteArray) (hs : s.size ≤ 9223372036854775807) (w : World) : Calls Trym.prog 22 #[.string s] w fun e w' => e = .returned (.int .i64 (sl s s.size).length) ∧ w' = w := by
  go_enter Trym.func22, Trym.ntmps22
  go_wp2
  go_loop [3, 4] (fun n i => ∃ k : Nat, k ≤ s.size ∧ i = .int .i64 k ∧ n = .int .i64 (sl s k).length) (fun _ i => s.size - (intOf i).toNat)
  case atStart => exact ⟨0, Nat.zero_le _, rfl, rfl⟩
  case round =>
    obtain ⟨k, hk, rfl, rfl⟩ := hrel
    have hle := sl_le s k
    by_cases hlt : k < s.size
    · cases hsl : isSl s k
      · have hq : ((s[k].toNat : Int) == 47) = false := by rw [isSl_of hlt] at hsl; simp at hsl ⊢; omega
        have HM := hid_of (sl_miss hsl)
        clear hsl
        go_wp2
        go_round
        case rel => exact ⟨k + 1, by omega, by go_num, by rw [HM.out]⟩
        case measure => simp [intOf]; omega
      · have hq : ((s[k].toNat : Int) == 47) = true := by rw [isSl_of hlt] at hsl; simp at hsl ⊢; omega
        have HM := hid_of (sl_hit hsl)
        clear hsl
        go_wp2
        go_round
        case rel => exact ⟨k + 1, by omega, by go_num, by rw [HM.out]; simp⟩
        case measure => simp [intOf]; omega
    · obtain rfl : k = s.size := by omega
      go_wp2
      go_ret
      exact ⟨rfl, rfl⟩

def cellsOf (s : ByteArray) (l : List Nat) : List Value := l.map fun i => Value.string (s.extract 0 i)

theorem step_hit {w wr w1 : World} {s : ByteArray} {k : Nat} {v v' : Value} {l : List Nat} {o : Obj} (hown : wr.ownsRow (w.heap.size + 1) 24 1 v l.length (cellsOf s l)) (hc : wr.cell? ⟨w.heap.size, 0, none⟩ = some (.string s)) (hsz : w.heap.size + 1 ≤ wr.heap.size) (hb : Below w.heap.size w wr)
    (hown' : w1.ownsRow (w.heap.size + 1) 24 1 v' (l.length + 1) (cellsOf s l ++ [.string (s.extract 0 k)])) (hgrow : (wr.alloc o).grownBy w1 v.ownBlock) :
    w1.ownsRow (w.heap.size + 1) 24 1 v' (l ++ [k]).length (cellsOf s (l ++ [k])) ∧ w1.cell? ⟨w.heap.size, 0, none⟩ = some (.string s) ∧ w.heap.size + 1 ≤ w1.heap.size ∧ Below w.heap.size w w1 := by
  have hrow : ∀ k, v.ownBlock = some k → w.heap.size + 1 ≤ k := fun k hk => (hown.lt k hk).1
  refine ⟨?_, ?_, ?_, ?_⟩
  · have e1 : (l ++ [k]).length = l.length + 1 := by simp
    have e2 : cellsOf s (l ++ [k]) = cellsOf s l ++ [.string (s.extract 0 k)] := by simp [cellsOf]
    rw [e1, e2]
    exact hown'
  · refine hgrow.cell (a := ⟨w.heap.size, 0, none⟩) ?_ (fun e => by have := hrow _ e.symm; simp at this; omega)
    rw [World.cell?_alloc_past _ _ _ (by omega)]
    exact hc
  · have := hgrow.size
    simp at this
    omega
  · exact (hb.alloc (by omega) o).grown hgrow (by simp; omega) (fun k hk => by have := hrow k hk; omega)

set_option maxHeartbeats 400000 in
theorem above26 (s : ByteArray) (hs : s.size ≤ 1048576) (w : World) : Calls Trym.prog 26 #[.agg #[.string s]] w fun e w' =>
    ∃ v, e = .returned v ∧ w'.ownsRow (w.heap.size + 1) 24 1 v (sl s s.size).length (cellsOf s (sl s s.size)) ∧ Below w.heap.size w w' := by
  obtain ⟨i0, hi0, hz0, hz1, hz2⟩ := info_parts info24
  go_enter Trym.func26, Trym.ntmps26
  go_wp2
  go_loopw [3, 8] (fun v i wr => ∃ k : Nat, k ≤ s.size ∧ i = .int .i64 k ∧ wr.ownsRow (w.heap.size + 1) 24 1 v (sl s k).length (cellsOf s (sl s k)) ∧ wr.cell? ⟨w.heap.size, 0, none⟩ = some (.string s) ∧ w.heap.size + 1 ≤ wr.heap.size ∧ Below w.heap.size w wr) (fun _ i _ => s.size - (intOf i).toNat)
  case atStart => exact ⟨0, Nat.zero_le _, rfl, World.ownsRow_nil _ _ _ _, by simp, by simp, (Below.refl _ _).alloc (Nat.le_refl _) _⟩
  case round =>
    obtain ⟨k, hk, rfl, hown, hc, hsz, hb⟩ := hrel
    have hle := sl_le s k
    by_cases hlt : k < s.size
    · cases hsl : isSl s k
      · have hq : ((s[k].toNat : Int) == 47) = false := by rw [isSl_of hlt] at hsl; simp at hsl ⊢; omega
        have HM := hid_of (sl_miss hsl)
        clear hsl
        go_wp2
        go_roundw
        case rel => exact ⟨k + 1, by omega, by go_num, by rw [HM.out]; exact hown, hc, hsz, hb⟩
        case measure => simp [intOf]; omega
      · have hq : ((s[k].toNat : Int) == 47) = true := by rw [isSl_of hlt] at hsl; simp at hsl ⊢; omega
        have HM := hid_of (sl_hit hsl)
        clear hsl
        go_wp2_with (at_builtin; refine wpList_append_own _ rfl _ _ 27 rfl (w.heap.size + 1) 24 i0 (.agg #[.string ⟨#[]⟩]) 1 16 Trym.underlying27 hi0 hz0 hz1 hz2 rfl (by decide) _ _ _ rfl (hown.alloc _) ⟨wr.heap.size, 0, none⟩ 1 1 [.string (s.extract 0 k)] rfl rfl ?c1 ?c2 ?c3 ?c4 ?c5 ?_)
        case c1 =>
          intro j u hj
          match j, hj with
          | 0, hj => simp at hj; subst hj; simp [Addr.add]
        case c2 => intro u hu; simp at hu; subst hu; rfl
        case c3 => unfold maxLen; omega
        case c4 => omega
        case c5 => simp; omega
        intro v' w1 hown' hgrow _
        have R := hid_of (step_hit (s := s) (k := k) hown hc hsz hb hown' hgrow)
        clear hown' hgrow hown hc hsz hb
        go_wp2
        go_roundw
        case rel => exact ⟨k + 1, by omega, by go_num, by rw [HM.out]; exact R.out.1, R.out.2.1, R.out.2.2.1, R.out.2.2.2⟩
        case measure => simp [intOf]; omega
    · obtain rfl : k = s.size := by omega
      go_wp2
      go_ret
      exact ⟨_, rfl, hown, hb⟩
end Go.Proofs.Qxb6602767aMods
