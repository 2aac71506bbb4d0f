import Derived.Test.Qxb6604446aStr
namespace Go.Proofs.Qxb6604446a
open Go.RowKit

theorem sel_mod (x k : Nat) (hk : k ≤ 4) : sel (x % 16) k = sel x k := by
  induction k with
  | zero => rfl
  | succ k ih =>
    have h : (x % 2 ^ 4).testBit k = x.testBit k := by rw [Nat.testBit_mod_two_pow]; simp [show k < 4 by omega]
    rw [sel, sel, ih (by omega), h]

theorem txt_mod (x : Nat) : txt (x % 16) = txt x := by unfold txt; rw [sel_mod x 4 (Nat.le_refl _)]

theorem mask15 (x : Nat) (hx : x < 4294967296) : bits BinOp.and IntKind.u32 (x : Int) 15 = ((x % 16 : Nat) : Int) := by
  have h := u32_and_nat x 15 hx (by omega)
  rw [nat_mask4] at h
  exact h

set_option maxHeartbeats 2000000 in
theorem table_any (m : Nat) (hm : m < 16) (w : World) :
    Calls Try.prog 8 #[.int .u32 m] w fun e w' => e = .returned (.string (txt m)) ∧ w' = w := by
  rcases (show m = 0 ∨ m = 1 ∨ m = 2 ∨ m = 3 ∨ m = 4 ∨ m = 5 ∨ m = 6 ∨ m = 7 ∨ m = 8 ∨ m = 9 ∨ m = 10 ∨ m = 11 ∨ m = 12 ∨ m = 13 ∨ m = 14 ∨ m = 15 by omega) with rfl | rfl | rfl | rfl | rfl | rfl | rfl | rfl | rfl | rfl | rfl | rfl | rfl | rfl | rfl | rfl
  all_goals
    go_enter Try.func8, Try.ntmps8
    go_wp2
    go_ret
    exact ⟨by rfl, rfl⟩

theorem zz_any (x : Nat) (hx : x < 4294967296) (h0 : x ≠ 0) (w : World) :
    Calls Try.prog 7 #[.int .u32 x] w fun e w' => e = .returned (.string (txt x)) ∧ Below w.heap.size w w' := by
  go_enter Try.func7, Try.ntmps7
  go_wp2_with (go_at_call 12; refine (str_any x hx h0 _).mono ?_; rintro e w' ⟨rfl, hb⟩)
  go_ret
  exact ⟨rfl, hb⟩

theorem zz_zero (w : World) :
    Calls Try.prog 7 #[.int .u32 0] w fun e w' => e = .returned (.string ⟨#[48]⟩) ∧ w' = w := by
  go_enter Try.func7, Try.ntmps7
  go_wp2
  go_ret
  exact ⟨rfl, rfl⟩

set_option maxHeartbeats 1000000 in
theorem law_table (x : Nat) (hx : x < 4294967296) (w : World) :
    Calls Try.prog 3 #[.int .u32 x] w fun e w' => e = .returned (.bool true) ∧ Below w.heap.size w w' := by
  by_cases h0 : x = 0
  · subst h0
    go_enter Try.func3, Try.ntmps3
    go_wp2_with (go_at_call 7; refine (zz_zero _).mono ?_; rintro e w' ⟨rfl, hw⟩; have hw := hw.symm; subst hw)
    go_ret
    exact ⟨rfl, Below.refl _ _⟩
  · have hz : ((x : Int) == 0) = false := beq_eq_false_iff_ne.2 (by omega)
    have hzz := zz_any x hx h0 w
    have hm := mask15 x hx
    have hlt : x % 16 < 16 := Nat.mod_lt _ (by omega)
    have htx := txt_mod x
    generalize x % 16 = m at *
    rw [← htx] at hzz
    have Hzz := Hid.mk hzz
    clear htx hzz h0
    go_enter Try.func3, Try.ntmps3
    go_wp2_with fail
    refine Hzz.out.mono ?_
    rintro e w1 ⟨rfl, hb⟩
    clear Hzz
    go_wp2_with (go_at_call 8; refine (table_any m hlt _).mono ?_; rintro e w' ⟨rfl, hw⟩; have hw := hw.symm; subst hw)
    go_ret
    exact ⟨by simp, hb⟩
end Go.Proofs.Qxb6604446a
