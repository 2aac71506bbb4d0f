import Derived.Test.Qxb6604442aBytes2
namespace Go.Proofs.Qxb6604442a
open Go.RowKit

theorem zero_lit (w : World) : Calls Try.prog 14 #[.agg #[.string ⟨#[]⟩, .string ⟨#[]⟩, .string ⟨#[]⟩, .string ⟨#[]⟩, .string ⟨#[]⟩, .string ⟨#[]⟩, .string ⟨#[]⟩, .string ⟨#[]⟩, .string ⟨#[]⟩, .string ⟨#[]⟩, .string ⟨#[]⟩, .slice none 0 0, .string ⟨#[]⟩, .string ⟨#[]⟩, .string ⟨#[]⟩]] w fun e w' => e = .returned (.bool true) ∧ Below w.heap.size w w' := zero_any w

set_option maxHeartbeats 1000000 in
theorem arch_any (a : ByteArray) (w : World) :
    Calls Try.prog 18 #[given a, .string a] w fun e w' => e = .returned (.bool true) ∧ Below w.heap.size w w' := by
  unfold given zs
  go_enter Try.func18, Try.ntmps18
  go_wp2_with (go_at_call 14; refine (zero_lit _).mono ?_; rintro e w' ⟨rfl, hb⟩)
  go_ret
  refine ⟨rfl, ?_⟩
  exact ((Below.refl _ _).alloc (Nat.le_refl _) _).trans (hb.mono (by simp))
end Go.Proofs.Qxb6604442a
