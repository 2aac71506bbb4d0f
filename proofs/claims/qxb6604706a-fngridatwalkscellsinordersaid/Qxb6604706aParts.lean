import Derived.Test.Qxb6604706aRows
import Derived.WalkKit
import Derived.WalkSpells
import Derived.WalkLawsBesides
import Derived.Deep.QuietTactic
import Derived.BigQuiet
import Derived.Deep.RegionHeld3
namespace Go.Proofs.Qxb6604706a
open Go.RowKit

theorem Hid.mk {p : Prop} (h : p) : Hid p := h
def SaysBool (e : Ending) : Prop := ∃ r, e = .returned (.bool r)
theorem says (r : Bool) : SaysBool (.returned (.bool r)) := ⟨r, rfl⟩

theorem bytes_any (a b c d e f : Int) (ao : Option Addr) (n cap : Nat) (w : World) :
    Calls Try.prog 10 #[.int .i64 a, .int .i64 b, .int .i64 c, .int .i64 d, .int .i64 e, .int .i64 f, .slice ao n cap] w fun e w' => SaysBool e ∧ w' = w := by
  by_cases h : 1048576 < (n : Int)
  · go_enter Try.func10, Try.ntmps10
    go_wp2
    go_ret
    exact ⟨says _, rfl⟩
  · go_enter Try.func10, Try.ntmps10
    go_wp2
    go_ret
    exact ⟨says _, rfl⟩

theorem grid_any (a b c d e f : Int) (v : Value) (ao : Option Addr) (n cap : Nat) (w : World) (hv : v = .slice ao n cap) :
    Calls Try.prog 12 #[.int .i64 a, .int .i64 b, .int .i64 c, .int .i64 d, .int .i64 e, .int .i64 f, v] w fun r w' => r = .returned (.pointer (some ⟨w.heap.size, 0, none⟩)) ∧ w.alloc (.cells #[.int .i64 a, .int .i64 b, .slice none 0 0, .int .i64 c, .int .i64 d, .int .i64 e, .int .i64 f, v] 47) = w' := by
  subst hv
  go_enter Try.func12, Try.ntmps12
  go_wp2
  go_ret
  exact ⟨rfl, rfl⟩

theorem same_any (x : Nat) (w : World) : Calls Try.prog 13 #[.float .f64 x, .float .f64 x] w fun e w' => e = .returned (.bool true) ∧ w' = w := by
  by_cases h : FloatKind.f64.format.order x x = some .eq
  · go_enter Try.func13, Try.ntmps13
    go_wp2
    go_ret
    exact ⟨rfl, rfl⟩
  · go_enter Try.func13, Try.ntmps13
    go_wp2
    go_ret
    exact ⟨congrArg (fun b => Ending.returned (.bool b)) (by cases hh : (FloatKind.f64.format.order x x == some Ordering.eq) <;> simp [bne, hh]), rfl⟩

set_option maxRecDepth 100000 in
set_option maxHeartbeats 1000000 in
theorem at_any (gb g n cap : Nat) (fr to le ri i r c : Int) (x k : Nat) (w : World)
    (h3 : w.cell? ⟨gb, 3, none⟩ = some (.int .i64 fr)) (h4 : w.cell? ⟨gb, 4, none⟩ = some (.int .i64 to)) (h5 : w.cell? ⟨gb, 5, none⟩ = some (.int .i64 le)) (h6 : w.cell? ⟨gb, 6, none⟩ = some (.int .i64 ri)) (h7 : w.cell? ⟨gb, 7, none⟩ = some (.slice (some ⟨g, 0, none⟩) n cap))
    (hk : k < n) (hx : w.cell? ⟨g, k, none⟩ = some (.float .f64 x))
    (hidx : IntKind.i64.wrap (IntKind.i64.wrap (IntKind.i64.wrap (IntKind.i64.wrap (IntKind.i64.wrap (IntKind.i64.wrap (i * IntKind.i64.wrap (to - fr)) + r) - fr) * IntKind.i64.wrap (ri - le)) + c) - le) = (k : Int)) :
    Calls Try.prog 14 #[.pointer (some ⟨gb, 0, none⟩), .int .i64 i, .int .i64 r, .int .i64 c] w fun e w' => e = .returned (.float .f64 x) ∧ ∃ q, w' = w.drewN q := by
  go_enter Try.func14, Try.ntmps14
  go_wp2
  have e0 : (0 : Int) ≤ (k : Int) := Int.natCast_nonneg _
  have e1 : (k : Int) < (n : Int) := by omega
  go_quiet (fail)
  go_wp2
  go_ret
  exact ⟨rfl, _, rfl⟩
end Go.Proofs.Qxb6604706a
