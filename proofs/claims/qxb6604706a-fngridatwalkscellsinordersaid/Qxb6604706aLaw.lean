import Derived.Test.Qxb6604706aMain
namespace Go.Proofs.Qxb6604706a
open Go.RowKit

set_option maxRecDepth 100000 in
set_option maxHeartbeats 2000000 in
theorem law_any (ro co fr to le ri : Int) (ao : Option Addr) (b off n cap : Nat) (xs : List Nat) (w : World) (hro : ro ≤ 9223372036854775807) (hco : co ≤ 9223372036854775807) (hl : xs.length = n) (hbw : 0 < n → b < w.heap.size) (hao : AtHead ao b off n) (hc : FloatCells w b off n xs) :
    Calls Try.prog 3 #[.int .i64 ro, .int .i64 co, .int .i64 fr, .int .i64 to, .int .i64 le, .int .i64 ri, .slice ao n cap] w fun e w' => e = .returned (.bool true) ∧ Below w.heap.size w w' := by
  have Hby := Hid.mk (bytes_any ro co fr to le ri ao n cap w)
  have Hc := Hid.mk hc
  have Hl := Hid.mk hl
  clear hc hl
  by_cases g1 : 131072 < (n : Int)
  · go_enter Try.func3, Try.ntmps3
    go_wp2_with (go_at_call 10; refine Hby.out.mono ?_; rintro e w' ⟨⟨r, rfl⟩, hw⟩; have hw := hw.symm; subst hw; cases r)
    all_goals (go_ret; exact ⟨rfl, Below.refl _ _⟩)
  have d1 : decide (131072 < (n : Int)) = false := by simpa using g1
  by_cases g2 : fr < 0
  · have d2 : decide (fr < 0) = true := by simpa using g2
    go_enter Try.func3, Try.ntmps3
    go_wp2_with (go_at_call 10; refine Hby.out.mono ?_; rintro e w' ⟨⟨r, rfl⟩, hw⟩; have hw := hw.symm; subst hw; cases r)
    all_goals (go_ret; exact ⟨rfl, Below.refl _ _⟩)
  have d2 : decide (fr < 0) = false := by simpa using g2
  by_cases g3 : to ≤ fr
  · have d3 : decide (to ≤ fr) = true := by simpa using g3
    go_enter Try.func3, Try.ntmps3
    go_wp2_with (go_at_call 10; refine Hby.out.mono ?_; rintro e w' ⟨⟨r, rfl⟩, hw⟩; have hw := hw.symm; subst hw; cases r)
    all_goals (go_ret; exact ⟨rfl, Below.refl _ _⟩)
  have d3 : decide (to ≤ fr) = false := by simpa using g3
  by_cases g4 : ro < to
  · have d4 : decide (ro < to) = true := by simpa using g4
    go_enter Try.func3, Try.ntmps3
    go_wp2_with (go_at_call 10; refine Hby.out.mono ?_; rintro e w' ⟨⟨r, rfl⟩, hw⟩; have hw := hw.symm; subst hw; cases r)
    all_goals (go_ret; exact ⟨rfl, Below.refl _ _⟩)
  have d4 : decide (ro < to) = false := by simpa using g4
  by_cases g5 : le < 0
  · have d5 : decide (le < 0) = true := by simpa using g5
    go_enter Try.func3, Try.ntmps3
    go_wp2_with (go_at_call 10; refine Hby.out.mono ?_; rintro e w' ⟨⟨r, rfl⟩, hw⟩; have hw := hw.symm; subst hw; cases r)
    all_goals (go_ret; exact ⟨rfl, Below.refl _ _⟩)
  have d5 : decide (le < 0) = false := by simpa using g5
  by_cases g6 : ri ≤ le
  · have d6 : decide (ri ≤ le) = true := by simpa using g6
    go_enter Try.func3, Try.ntmps3
    go_wp2_with (go_at_call 10; refine Hby.out.mono ?_; rintro e w' ⟨⟨r, rfl⟩, hw⟩; have hw := hw.symm; subst hw; cases r)
    all_goals (go_ret; exact ⟨rfl, Below.refl _ _⟩)
  have d6 : decide (ri ≤ le) = false := by simpa using g6
  by_cases g7 : co < ri
  · have d7 : decide (co < ri) = true := by simpa using g7
    go_enter Try.func3, Try.ntmps3
    go_wp2_with (go_at_call 10; refine Hby.out.mono ?_; rintro e w' ⟨⟨r, rfl⟩, hw⟩; have hw := hw.symm; subst hw; cases r)
    all_goals (go_ret; exact ⟨rfl, Below.refl _ _⟩)
  have d7 : decide (co < ri) = false := by simpa using g7
  obtain ⟨F, rfl⟩ := Int.eq_ofNat_of_zero_le (show 0 ≤ fr by omega)
  obtain ⟨H, hH⟩ := Int.eq_ofNat_of_zero_le (show 0 ≤ to - (F : Int) by omega)
  obtain rfl : to = (F : Int) + (H : Int) := by omega
  obtain ⟨L, rfl⟩ := Int.eq_ofNat_of_zero_le (show 0 ≤ le by omega)
  obtain ⟨D, hD⟩ := Int.eq_ofNat_of_zero_le (show 0 ≤ ri - (L : Int) by omega)
  obtain rfl : ri = (L : Int) + (D : Int) := by omega
  clear hH hD
  have k1 : 1 ≤ H := by omega
  have k2 : 1 ≤ D := by omega
  have k3 : (F : Int) + (H : Int) ≤ 9223372036854775807 := by omega
  have k4 : (L : Int) + (D : Int) ≤ 9223372036854775807 := by omega
  by_cases g8 : (L = 0 ∧ (L : Int) + (D : Int) = co) ∨ H = 1
  · have key : ((((L : Int) == 0) = true) ∧ (((L : Int) + (D : Int) == co) = true)) ∨ ((((L : Int) == 0) = true) ∧ (((L : Int) + (D : Int) == co) = false) ∧ (((F : Int) + (H : Int) == (F : Int) + 1) = true)) ∨ ((((L : Int) == 0) = false) ∧ (((F : Int) + (H : Int) == (F : Int) + 1) = true)) := by
      by_cases z1 : L = 0
      · by_cases z2 : (L : Int) + (D : Int) = co
        · exact .inl ⟨by simp [z1], by simp [z2]⟩
        · refine .inr (.inl ⟨by simp [z1], by simp [z2], ?_⟩)
          rcases g8 with h | h
          · exact absurd h.2 z2
          · rw [beq_iff_eq]; omega
      · refine .inr (.inr ⟨by simp [z1], ?_⟩)
        rcases g8 with h | h
        · exact absurd h.1 z1
        · rw [beq_iff_eq]; omega
    clear g8
    by_cases g9 : (n : Int) < (H : Int)
    · have d9 : decide ((n : Int) < (H : Int)) = true := by simpa using g9
      rcases key with ⟨b1, b2⟩ | ⟨b1, b2, b3⟩ | ⟨b1, b3⟩
      all_goals
        go_enter Try.func3, Try.ntmps3
        go_wp2_with (go_at_call 10; refine Hby.out.mono ?_; rintro e w' ⟨⟨r, rfl⟩, hw⟩; have hw := hw.symm; subst hw; cases r)
        all_goals (go_ret; exact ⟨rfl, Below.refl _ _⟩)
    have d9 : decide ((n : Int) < (H : Int)) = false := by simpa using g9
    have r1 : (F : Int) + (H : Int) - (F : Int) = (H : Int) := by omega
    have r2 : (L : Int) + (D : Int) - (L : Int) = (D : Int) := by omega
    have r3 : (n : Int) / (H : Int) = ((n / H : Nat) : Int) := by simp
    have r4 : n / H ≤ n := Nat.div_le_self _ _
    generalize hq0 : n / H = q0 at *
    have Hq := Hid.mk hq0
    clear hq0
    by_cases g10 : (q0 : Int) < (D : Int)
    · have d10 : decide ((q0 : Int) < (D : Int)) = true := by simpa using g10
      rcases key with ⟨b1, b2⟩ | ⟨b1, b2, b3⟩ | ⟨b1, b3⟩
      all_goals
        go_enter Try.func3, Try.ntmps3
        go_wp2_with (go_at_call 10; refine Hby.out.mono ?_; rintro e w' ⟨⟨r, rfl⟩, hw⟩; have hw := hw.symm; subst hw; cases r)
        all_goals (go_ret; exact ⟨rfl, Below.refl _ _⟩)
    have d10 : decide ((q0 : Int) < (D : Int)) = false := by simpa using g10
    have hC1 : H * D ≤ n := by
      have h := Nat.mul_le_mul_left H (show D ≤ n / H by rw [Hq.out]; omega)
      exact Nat.le_trans h (Nat.mul_div_le n H)
    have hC2 : 1 ≤ H * D := Nat.mul_pos k1 k2
    have r5 : (H : Int) * (D : Int) = ((H * D : Nat) : Int) := by simp
    have r6 : (n : Int) % ((H * D : Nat) : Int) = ((n % (H * D) : Nat) : Int) := rfl
    have r7 : (n : Int) / ((H * D : Nat) : Int) = ((n / (H * D) : Nat) : Int) := rfl
    have hI1 : n = n / (H * D) * (H * D) + n % (H * D) := by rw [Nat.mul_comm]; exact (Nat.div_add_mod n (H * D)).symm
    have hHC : H ≤ H * D := Nat.le_mul_of_pos_right _ k2
    have hDC : D ≤ H * D := Nat.le_mul_of_pos_left _ k1
    have HI := Hid.mk hI1
    clear hI1
    have HC := Hid.mk (show H * D = H * D from rfl)
    generalize hCeq : H * D = C at *
    have HCeq := Hid.mk hCeq
    clear hCeq HC
    generalize n % C = rm at *
    generalize n / C = I at *
    clear Hq
    by_cases g11 : rm = 0
    · subst g11
      exact main_any ro co ao b off n cap xs F H L D C I q0 w hro hco Hl.out hbw hao Hc.out (by omega) (by omega) (by omega) k1 k2 (by omega) r3 r4 (by omega) HCeq.out hC1 hC2 r6 r7 (by have := HI.out; omega) hHC hDC key
    · have d11 : ((rm : Int) != 0) = true := by rw [bne_iff_ne]; omega
      rcases key with ⟨b1, b2⟩ | ⟨b1, b2, b3⟩ | ⟨b1, b3⟩
      all_goals
        go_enter Try.func3, Try.ntmps3
        go_wp2_with (go_at_call 10; refine Hby.out.mono ?_; rintro e w' ⟨⟨r, rfl⟩, hw⟩; have hw := hw.symm; subst hw; cases r)
        all_goals (go_ret; exact ⟨rfl, Below.refl _ _⟩)
  · have b3 : ((F : Int) + (H : Int) == (F : Int) + 1) = false := by rw [beq_eq_false_iff_ne]; omega
    by_cases z1 : L = 0
    · have b1 : ((L : Int) == 0) = true := by simp [z1]
      have b2 : ((L : Int) + (D : Int) == co) = false := by rw [beq_eq_false_iff_ne]; intro h; exact g8 (.inl ⟨z1, h⟩)
      clear g8 z1
      go_enter Try.func3, Try.ntmps3
      go_wp2_with (go_at_call 10; refine Hby.out.mono ?_; rintro e w' ⟨⟨r, rfl⟩, hw⟩; have hw := hw.symm; subst hw; cases r)
      all_goals (go_ret; exact ⟨rfl, Below.refl _ _⟩)
    · have b1 : ((L : Int) == 0) = false := by simp [z1]
      clear g8 z1
      go_enter Try.func3, Try.ntmps3
      go_wp2_with (go_at_call 10; refine Hby.out.mono ?_; rintro e w' ⟨⟨r, rfl⟩, hw⟩; have hw := hw.symm; subst hw; cases r)
      all_goals (go_ret; exact ⟨rfl, Below.refl _ _⟩)
end Go.Proofs.Qxb6604706a
