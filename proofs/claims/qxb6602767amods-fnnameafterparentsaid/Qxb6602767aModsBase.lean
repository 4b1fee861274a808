import Derived.Below
namespace Go.Proofs.Qxb6602767aMods
open Go.RowKit

/-- A fact kept from the walk. -/
theorem hid_of {p : Prop} (h : p) : Hid p := h

theorem ret_int {k : IntKind} {a b : Int} (h : a = b) : Ending.returned (.int k a) = .returned (.int k b) := by rw [h]

/-- Some bool comes back; the world is as it was. -/
def RetB (w : World) (e : Ending) (w' : World) : Prop := ∃ r, e = .returned (.bool r) ∧ w' = w

end Go.Proofs.Qxb6602767aMods
