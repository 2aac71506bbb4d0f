import Derived.Test.Qxb6604512aNcmp
namespace Go.Proofs.Qxb6604512a
open Go.RowKit

/-- What a binary search answers. -/
def Found (n : Nat) (c : Nat → Int) (e : Ending) : Prop := ∃ (i : Nat) (ok : Bool), e = .returned (.tuple #[.int .i64 i, .bool ok]) ∧ i ≤ n ∧ (∀ k, k < i → c k < 0) ∧ (∀ k, i ≤ k → k < n → 0 ≤ c k) ∧ (ok = true ↔ i < n ∧ c i = 0)

set_option maxRecDepth 100000 in
set_option maxHeartbeats 2000000 in
theorem bin52_any (am : Option Addr) (gm n cm : Nat) (t : Value) (c : Nat → Int) (f1 f2 : Nat → Value) (w : World) (hnn : n ≤ 1099511627776) (ham : AtHead am gm 0 n)
    (hcell : ∀ k, k < n → w.cell? ⟨gm, k * 2, none⟩ = some (f1 k) ∧ w.cell? ⟨gm, k * 2 + 1, none⟩ = some (f2 k) ∧ gm < w.heap.size)
    (hcall : ∀ k W, k < n → Below w.heap.size w W → Calls Try.prog 53 #[.agg #[f1 k, f2 k], t] W fun e w' => e = .returned (.int .i64 (c k)) ∧ Below w.heap.size w w')
    (hmono : ∀ a b, a ≤ b → b < n → c b < 0 → c a < 0) :
    Calls Try.prog 52 #[.slice am n cm, t, .func (.func 53) #[] #[]] w fun e w' => Found n c e ∧ Below w.heap.size w w' := by
  have Hcell := Hid.mk hcell
  have Hcall := Hid.mk hcall
  have Hmono := Hid.mk hmono
  clear hcell hcall hmono
  go_enter Try.func52, Try.ntmps52
  go_wp2
  go_loopw [9, 10, 11] (fun vi vj _ wr => ∃ i j : Nat, i ≤ j ∧ j ≤ n ∧ vi = .int .i64 i ∧ vj = .int .i64 j ∧ Hid ((∀ k, k < i → c k < 0) ∧ (∀ k, j ≤ k → k < n → 0 ≤ c k)) ∧ Below w.heap.size w wr) (fun vi vj _ _ => (intOf vj).toNat - (intOf vi).toNat)
  case atStart => exact ⟨0, n, Nat.zero_le _, Nat.le_refl _, rfl, rfl, Hid.mk ⟨fun k hk => absurd hk (by omega), fun k h1 h2 => absurd h1 (by omega)⟩, Below.refl _ _⟩
  case round =>
    obtain ⟨i, j, hij, hjn, rfl, rfl, Hk, hb⟩ := hrel
    by_cases hlt : i < j
    · obtain ⟨h, hh, hh1, hh2⟩ : ∃ h : Nat, ((i : Int) + (j : Int)) / 2 = (h : Int) ∧ i ≤ h ∧ h < j := ⟨(i + j) / 2, by omega, by omega, by omega⟩
      have ha := ham (by omega)
      subst ha
      obtain ⟨q1, q2, q3⟩ := Hcell.out h (by omega)
      have c1 : wr.cell? ⟨gm, h * 2, none⟩ = some (f1 h) := (hb.cell (p := ⟨gm, h * 2, none⟩) q3).trans q1
      have c2 : wr.cell? ⟨gm, h * 2 + 1, none⟩ = some (f2 h) := (hb.cell (p := ⟨gm, h * 2 + 1, none⟩) q3).trans q2
      have Hc := Hid.mk (Hcall.out h wr (by omega) hb)
      have Hm := Hid.mk (fun a h1 h2 => Hmono.out a h h1 (by omega) h2)
      clear q1 q2 q3 Hcell Hcall hb
      by_cases hr : c h < 0
      · go_wp2_with (go_at_call 53; refine Hc.out.mono ?_; rintro e w2 ⟨rfl, hb2⟩)
        go_roundw
        case rel => exact ⟨h + 1, j, by omega, hjn, by go_num, rfl, Hid.mk ⟨fun k hk => Hm.out k (by omega) hr, Hk.out.2⟩, hb2⟩
        case measure => simp [intOf]; omega
      · go_wp2_with (go_at_call 53; refine Hc.out.mono ?_; rintro e w2 ⟨rfl, hb2⟩)
        go_roundw
        case rel => exact ⟨i, h, by omega, by omega, rfl, by go_num, Hid.mk ⟨Hk.out.1, fun k h1 h2 => Int.not_lt.1 (fun h3 => by have := Hmono.out h k h1 h2 h3; omega)⟩, hb2⟩
        case measure => simp [intOf]; omega
    · obtain rfl : i = j := by omega
      by_cases hin : i < n
      · have ha := ham (by omega)
        subst ha
        obtain ⟨q1, q2, q3⟩ := Hcell.out i (by omega)
        have c1 : wr.cell? ⟨gm, i * 2, none⟩ = some (f1 i) := (hb.cell (p := ⟨gm, i * 2, none⟩) q3).trans q1
        have c2 : wr.cell? ⟨gm, i * 2 + 1, none⟩ = some (f2 i) := (hb.cell (p := ⟨gm, i * 2 + 1, none⟩) q3).trans q2
        have Hc := Hid.mk (Hcall.out i wr (by omega) hb)
        clear q1 q2 q3 Hcell Hcall hb
        by_cases hr : c i = 0
        · have hne : (c i == 0) = true := by simp [hr]
          go_wp2_with (go_at_call 53; refine Hc.out.mono ?_; rintro e w2 ⟨rfl, hb2⟩)
          go_ret2
          exact ⟨⟨i, true, rfl, hjn, Hk.out.1, Hk.out.2, by simp [hin, hr]⟩, hb2⟩
        · have hne : (c i == 0) = false := by simp [hr]
          go_wp2_with (go_at_call 53; refine Hc.out.mono ?_; rintro e w2 ⟨rfl, hb2⟩)
          go_ret2
          exact ⟨⟨i, false, rfl, hjn, Hk.out.1, Hk.out.2, by simp [hr]⟩, hb2⟩
      · go_wp2
        go_ret2
        exact ⟨⟨i, false, rfl, hjn, Hk.out.1, Hk.out.2, by simp [hin]⟩, hb⟩
set_option maxRecDepth 100000 in
set_option maxHeartbeats 2000000 in
theorem bin55_any (am : Option Addr) (gm n cm : Nat) (t : Value) (c : Nat → Int) (f1 f2 : Nat → Value) (w : World) (hnn : n ≤ 1099511627776) (ham : AtHead am gm 0 n)
    (hcell : ∀ k, k < n → w.cell? ⟨gm, k * 2, none⟩ = some (f1 k) ∧ w.cell? ⟨gm, k * 2 + 1, none⟩ = some (f2 k) ∧ gm < w.heap.size)
    (hcall : ∀ k W, k < n → Below w.heap.size w W → Calls Try.prog 56 #[.agg #[f1 k, f2 k], t] W fun e w' => e = .returned (.int .i64 (c k)) ∧ Below w.heap.size w w')
    (hmono : ∀ a b, a ≤ b → b < n → c b < 0 → c a < 0) :
    Calls Try.prog 55 #[.slice am n cm, t, .func (.func 56) #[] #[]] w fun e w' => Found n c e ∧ Below w.heap.size w w' := by
  have Hcell := Hid.mk hcell
  have Hcall := Hid.mk hcall
  have Hmono := Hid.mk hmono
  clear hcell hcall hmono
  go_enter Try.func55, Try.ntmps55
  go_wp2
  go_loopw [9, 10, 11] (fun vi vj _ wr => ∃ i j : Nat, i ≤ j ∧ j ≤ n ∧ vi = .int .i64 i ∧ vj = .int .i64 j ∧ Hid ((∀ k, k < i → c k < 0) ∧ (∀ k, j ≤ k → k < n → 0 ≤ c k)) ∧ Below w.heap.size w wr) (fun vi vj _ _ => (intOf vj).toNat - (intOf vi).toNat)
  case atStart => exact ⟨0, n, Nat.zero_le _, Nat.le_refl _, rfl, rfl, Hid.mk ⟨fun k hk => absurd hk (by omega), fun k h1 h2 => absurd h1 (by omega)⟩, Below.refl _ _⟩
  case round =>
    obtain ⟨i, j, hij, hjn, rfl, rfl, Hk, hb⟩ := hrel
    by_cases hlt : i < j
    · obtain ⟨h, hh, hh1, hh2⟩ : ∃ h : Nat, ((i : Int) + (j : Int)) / 2 = (h : Int) ∧ i ≤ h ∧ h < j := ⟨(i + j) / 2, by omega, by omega, by omega⟩
      have ha := ham (by omega)
      subst ha
      obtain ⟨q1, q2, q3⟩ := Hcell.out h (by omega)
      have c1 : wr.cell? ⟨gm, h * 2, none⟩ = some (f1 h) := (hb.cell (p := ⟨gm, h * 2, none⟩) q3).trans q1
      have c2 : wr.cell? ⟨gm, h * 2 + 1, none⟩ = some (f2 h) := (hb.cell (p := ⟨gm, h * 2 + 1, none⟩) q3).trans q2
      have Hc := Hid.mk (Hcall.out h wr (by omega) hb)
      have Hm := Hid.mk (fun a h1 h2 => Hmono.out a h h1 (by omega) h2)
      clear q1 q2 q3 Hcell Hcall hb
      by_cases hr : c h < 0
      · go_wp2_with (go_at_call 56; refine Hc.out.mono ?_; rintro e w2 ⟨rfl, hb2⟩)
        go_roundw
        case rel => exact ⟨h + 1, j, by omega, hjn, by go_num, rfl, Hid.mk ⟨fun k hk => Hm.out k (by omega) hr, Hk.out.2⟩, hb2⟩
        case measure => simp [intOf]; omega
      · go_wp2_with (go_at_call 56; refine Hc.out.mono ?_; rintro e w2 ⟨rfl, hb2⟩)
        go_roundw
        case rel => exact ⟨i, h, by omega, by omega, rfl, by go_num, Hid.mk ⟨Hk.out.1, fun k h1 h2 => Int.not_lt.1 (fun h3 => by have := Hmono.out h k h1 h2 h3; omega)⟩, hb2⟩
        case measure => simp [intOf]; omega
    · obtain rfl : i = j := by omega
      by_cases hin : i < n
      · have ha := ham (by omega)
        subst ha
        obtain ⟨q1, q2, q3⟩ := Hcell.out i (by omega)
        have c1 : wr.cell? ⟨gm, i * 2, none⟩ = some (f1 i) := (hb.cell (p := ⟨gm, i * 2, none⟩) q3).trans q1
        have c2 : wr.cell? ⟨gm, i * 2 + 1, none⟩ = some (f2 i) := (hb.cell (p := ⟨gm, i * 2 + 1, none⟩) q3).trans q2
        have Hc := Hid.mk (Hcall.out i wr (by omega) hb)
        clear q1 q2 q3 Hcell Hcall hb
        by_cases hr : c i = 0
        · have hne : (c i == 0) = true := by simp [hr]
          go_wp2_with (go_at_call 56; refine Hc.out.mono ?_; rintro e w2 ⟨rfl, hb2⟩)
          go_ret2
          exact ⟨⟨i, true, rfl, hjn, Hk.out.1, Hk.out.2, by simp [hin, hr]⟩, hb2⟩
        · have hne : (c i == 0) = false := by simp [hr]
          go_wp2_with (go_at_call 56; refine Hc.out.mono ?_; rintro e w2 ⟨rfl, hb2⟩)
          go_ret2
          exact ⟨⟨i, false, rfl, hjn, Hk.out.1, Hk.out.2, by simp [hr]⟩, hb2⟩
      · go_wp2
        go_ret2
        exact ⟨⟨i, false, rfl, hjn, Hk.out.1, Hk.out.2, by simp [hin]⟩, hb⟩
end Go.Proofs.Qxb6604512a
