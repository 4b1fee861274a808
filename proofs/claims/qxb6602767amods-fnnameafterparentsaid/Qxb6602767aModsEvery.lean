import Derived.Test.Qxb6602767aModsAbove
namespace Go.Proofs.Qxb6602767aMods
open Go.RowKit

/-- The cells of the slice that filesAbove hands back. -/
def RowA (w : World) (ao : Option Addr) (n : Nat) (s : ByteArray) : Prop :=
  0 < n → ∃ g, ao = some ⟨g, 0, none⟩ ∧ g < w.heap.size ∧ ∀ j, j < n → w.cell? ⟨g, j, none⟩ = some (.string (s.extract 0 (slAt s j)))

theorem RowA.keep {w w' : World} {ao : Option Addr} {n : Nat} {s : ByteArray} (h : RowA w ao n s) (hb : Below w.heap.size w w') : RowA w' ao n s := by
  intro hn
  obtain ⟨g, rfl, hg, hc⟩ := h hn
  exact ⟨g, rfl, by have := hb.size; omega, fun j hj => (hb.cell (p := ⟨g, j, none⟩) hg).trans (hc j hj)⟩

theorem rowA_of {w : World} {base : Nat} {v : Value} {s : ByteArray} (h : w.ownsRow base 24 1 v (sl s s.size).length (cellsOf s (sl s s.size))) : ∃ ao cap, v = .slice ao (sl s s.size).length cap ∧ RowA w ao (sl s s.size).length s := by
  rcases h.2 with ⟨rfl, h0⟩ | ⟨g, cap, cur, rfl, _, hg, _, _, _, htake⟩
  · rw [h0]
    exact ⟨none, 0, rfl, fun h => by omega⟩
  · refine ⟨_, cap, rfl, fun _ => ⟨g, rfl, (Array.getElem?_eq_some_iff.1 hg).1, fun j hj => ?_⟩⟩
    rw [h.cellAt j (by omega)]
    unfold cellsOf
    rw [List.getElem?_map, slAt_get hj]
    rfl

set_option maxHeartbeats 400000 in
theorem above15 (s : ByteArray) (hs : s.size ≤ 1048576) (w : World) : Calls Trym.prog 15 #[.string s] w fun e w' =>
    ∃ ao cap, e = .returned (.slice ao (sl s s.size).length cap) ∧ RowA w' ao (sl s s.size).length s ∧ Below w.heap.size w w' := by
  go_enter Trym.func15, Trym.ntmps15
  go_wp2_with fail
  refine (above26 s hs _).mono ?_
  rintro e w' ⟨v, rfl, hown, hb⟩
  obtain ⟨ao, cap, hv, hr⟩ := rowA_of hown
  rw [hv]
  clear hown hv
  go_wp2
  go_ret
  exact ⟨ao, cap, rfl, hr, hb⟩

set_option maxHeartbeats 1000000 in
theorem every8 (s : ByteArray) (hs : s.size ≤ 9223372036854775807) (w : World) : Calls Trym.prog 8 #[.string s] w fun e w' => e = .returned (.bool true) ∧ Below w.heap.size w w' := by
  by_cases c0 : s.size ≤ 65536
  case neg =>
    have d0 : (65536 : Int) < (s.size : Int) := by omega
    go_enter Trym.func8, Trym.ntmps8
    go_wp2_with fail
    refine (bytes21 s hs _).mono ?_
    rintro e w' ⟨r, rfl, rfl⟩
    cases r
    all_goals
      go_wp2
      go_ret
      exact ⟨rfl, Below.refl _ _⟩
  have hle := sl_le s s.size
  go_enter Trym.func8, Trym.ntmps8
  go_wp2_with fail
  refine (bytes21 s hs _).mono ?_
  rintro e w' ⟨r, rfl, hw⟩
  obtain rfl := hw.symm
  clear hw
  cases r
  · go_wp2
    go_ret
    exact ⟨rfl, Below.refl _ _⟩
  go_wp2_with fail
  refine (above15 s (by omega) _).mono ?_
  rintro e x1 ⟨ao, cap, rfl, hrow, hb⟩
  go_wp2_with fail
  refine (count22 s hs _).mono ?_
  rintro e x2 ⟨rfl, hw⟩
  obtain rfl := hw.symm
  clear hw
  go_wp2
  go_loopw [4, 5] (fun pv i wr => ∃ (k : Nat) (p : Int), k ≤ (sl s s.size).length ∧ i = .int .i64 k ∧ pv = .int .i64 p ∧ (k < (sl s s.size).length → p < (slAt s k : Int)) ∧ RowA wr ao (sl s s.size).length s ∧ Below w.heap.size w wr) (fun _ i _ => (sl s s.size).length - (intOf i).toNat)
  case atStart => exact ⟨0, -1, Nat.zero_le _, rfl, rfl, fun _ => by omega, hrow, hb⟩
  case round =>
    obtain ⟨k, p, hk, rfl, rfl, hp, hr, hbr⟩ := hrel
    by_cases hlt : k < (sl s s.size).length
    · have hp' := hp hlt
      obtain ⟨g, hg, hgl, hc⟩ := hr (by omega)
      subst hg
      have hck := hc k hlt
      obtain ⟨hpl, hps⟩ := slAt_lt hlt
      have hq : s[slAt s k].toNat = 47 := isSl_byte hps hpl
      have hmin : min (slAt s k) s.size = slAt s k := by omega
      clear hc hps
      go_wp2_with fail
      refine (rel16 _ _).mono ?_
      rintro e y ⟨rfl, rfl⟩
      go_wp2
      go_roundw
      case rel => exact ⟨k + 1, _, by omega, by go_num, rfl, fun h => by have := slAt_asc (s := s) (i := k) (j := k + 1) (by omega) h; omega, hr.keep ((Below.refl _ _).alloc (Nat.le_refl _) _), hbr.alloc hbr.size _⟩
      case measure => simp [intOf]; omega
    · go_wp2
      go_ret
      exact ⟨rfl, hbr⟩
end Go.Proofs.Qxb6602767aMods
