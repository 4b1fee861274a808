import Derived.Test.Qxb6602445aModsSls
namespace Go.Proofs.Qxb6602445aMods
open Go.RowKit

/-- Some bool comes back; the world is as it was. -/
def RetB (w : World) (e : Ending) (w' : World) : Prop := ∃ r, e = .returned (.bool r) ∧ w' = w

set_option maxHeartbeats 4000000 in
theorem bytes26 (a0 : ByteArray) (ao1 : Option Addr) (len1 cap1 : Nat) (S1 : Nat → ByteArray) (ao2 : Option Addr) (len2 cap2 : Nat) (S2 : Nat → ByteArray) (ao3 : Option Addr) (len3 cap3 : Nat) (S3 : Nat → ByteArray) (w : World) (w0 : a0.size ≤ 9223372036854775807) (h1 : IsS w ao1 len1 S1) (m1 : len1 ≤ 9223372036854775807) (h2 : IsS w ao2 len2 S2) (m2 : len2 ≤ 9223372036854775807) (h3 : IsS w ao3 len3 S3) (m3 : len3 ≤ 9223372036854775807) :
    Calls Trym.prog 26 #[.string a0, .slice ao1 len1 cap1, .slice ao2 len2 cap2, .slice ao3 len3 cap3] w fun e w' => RetB w e w' := by
  go_enter Trym.func26, Trym.ntmps26
  go_wp2
  all_goals try (go_ret; exact ⟨_, rfl, rfl⟩)
  go_loop [9, 10] (fun n i => ∃ (k : Nat) (t : Int), k ≤ len1 ∧ i = .int .i64 k ∧ n = .int .i64 t ∧ 0 ≤ t ∧ t ≤ 1048576) (fun _ i => len1 - (intOf i).toNat)
  case atStart => exact ⟨0, _, Nat.zero_le _, rfl, rfl, by omega, by omega⟩
  case round =>
    obtain ⟨k, t, hk, rfl, rfl, ht0, ht1⟩ := hrel
    by_cases hkl : k < len1
    · obtain ⟨b, o, hab, hlt, hc⟩ := h1.2 (by omega)
      subst hab
      have hck := (hc k hkl).1
      have hsz := (hc k hkl).2
      clear hc
      go_wp2
      · go_ret
        exact ⟨_, rfl, rfl⟩
      · go_ret
        exact ⟨_, rfl, rfl⟩
      · go_round
        case rel => exact ⟨k + 1, _, by omega, by go_num, rfl, by omega, by omega⟩
        case measure => simp [intOf]; omega
    · go_wp2
      all_goals try (go_ret; exact ⟨_, rfl, rfl⟩)
      go_loop [9, 11] (fun n i => ∃ (k : Nat) (t : Int), k ≤ len2 ∧ i = .int .i64 k ∧ n = .int .i64 t ∧ 0 ≤ t ∧ t ≤ 1048576) (fun _ i => len2 - (intOf i).toNat)
      case atStart => exact ⟨0, _, Nat.zero_le _, rfl, rfl, by omega, by omega⟩
      case round =>
        obtain ⟨k, t, hk, rfl, rfl, ht0, ht1⟩ := hrel
        by_cases hkl : k < len2
        · obtain ⟨b, o, hab, hlt, hc⟩ := h2.2 (by omega)
          subst hab
          have hck := (hc k hkl).1
          have hsz := (hc k hkl).2
          clear hc
          go_wp2
          · go_ret
            exact ⟨_, rfl, rfl⟩
          · go_ret
            exact ⟨_, rfl, rfl⟩
          · go_round
            case rel => exact ⟨k + 1, _, by omega, by go_num, rfl, by omega, by omega⟩
            case measure => simp [intOf]; omega
        · go_wp2
          all_goals try (go_ret; exact ⟨_, rfl, rfl⟩)
          go_loop [9, 12] (fun n i => ∃ (k : Nat) (t : Int), k ≤ len3 ∧ i = .int .i64 k ∧ n = .int .i64 t ∧ 0 ≤ t ∧ t ≤ 1048576) (fun _ i => len3 - (intOf i).toNat)
          case atStart => exact ⟨0, _, Nat.zero_le _, rfl, rfl, by omega, by omega⟩
          case round =>
            obtain ⟨k, t, hk, rfl, rfl, ht0, ht1⟩ := hrel
            by_cases hkl : k < len3
            · obtain ⟨b, o, hab, hlt, hc⟩ := h3.2 (by omega)
              subst hab
              have hck := (hc k hkl).1
              have hsz := (hc k hkl).2
              clear hc
              go_wp2
              · go_ret
                exact ⟨_, rfl, rfl⟩
              · go_ret
                exact ⟨_, rfl, rfl⟩
              · go_round
                case rel => exact ⟨k + 1, _, by omega, by go_num, rfl, by omega, by omega⟩
                case measure => simp [intOf]; omega
            · go_wp2
              all_goals try (go_ret; exact ⟨_, rfl, rfl⟩)

end Go.Proofs.Qxb6602445aMods
