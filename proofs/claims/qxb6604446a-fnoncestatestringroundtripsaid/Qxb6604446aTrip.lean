import Derived.Test.Qxb6604446aTable
import Derived.Lib.Strings
namespace Go.Proofs.Qxb6604446a
open Go.RowKit

/-- The bit of a flag's name. -/
def flagB (l : List UInt8) : Nat :=
  if (l == [100, 111, 110, 101]) = true then 1 else if (l == [114, 117, 110, 110, 105, 110, 103]) = true then 2 else if (l == [115, 116, 97, 108, 101]) = true then 4 else if (l == [119, 97, 105, 116, 101, 100]) = true then 8 else 0

theorem flagB_le (l : List UInt8) : flagB l ≤ 8 := by
  unfold flagB
  repeat' split
  all_goals omega

/-- What 'parseFlags' holds behind i rounds: the bits, the last, where the next name begins. -/
def scan (t : List UInt8) : Nat → Option (Nat × Nat × Nat)
  | 0 => some (0, 0, 0)
  | i + 1 => match scan t i with
    | none => none
    | some (b, l, st) =>
      if i = t.length ∨ t[i]? = some 124 then
        (if flagB ((t.drop st).take (i - st)) = 0 ∨ flagB ((t.drop st).take (i - st)) ≤ l then none else some (b ||| flagB ((t.drop st).take (i - st)), flagB ((t.drop st).take (i - st)), i + 1))
      else some (b, l, st)

theorem scan_down (t : List UInt8) (k n : Nat) (h : k ≤ n) (hn : scan t n ≠ none) : scan t k ≠ none := by
  induction n with
  | zero => obtain rfl : k = 0 := by omega
            exact hn
  | succ n ih =>
    by_cases hk : k = n + 1
    · rw [hk]; exact hn
    · refine ih (by omega) (fun h0 => hn ?_)
      rw [scan, h0]

/-- A name is met. -/
theorem scan_hit (t : List UInt8) (k b l st : Nat) (hs : scan t k = some (b, l, st)) (hh : k = t.length ∨ t[k]? = some 124) (hn : scan t (k + 1) ≠ none) :
    scan t (k + 1) = some (b ||| flagB ((t.drop st).take (k - st)), flagB ((t.drop st).take (k - st)), k + 1) ∧ flagB ((t.drop st).take (k - st)) ≠ 0 ∧ l < flagB ((t.drop st).take (k - st)) := by
  rw [scan, hs] at hn ⊢
  simp only [if_pos hh] at hn ⊢
  by_cases h : flagB ((t.drop st).take (k - st)) = 0 ∨ flagB ((t.drop st).take (k - st)) ≤ l
  · rw [if_pos h] at hn; exact absurd rfl hn
  · rw [if_neg h]
    exact ⟨rfl, fun e => h (.inl e), by omega⟩

theorem scan_miss (t : List UInt8) (k b l st : Nat) (hs : scan t k = some (b, l, st)) (hh : ¬ (k = t.length ∨ t[k]? = some 124)) : scan t (k + 1) = some (b, l, st) := by
  rw [scan, hs]
  simp only [if_neg hh]

theorem flag_any (s : ByteArray) (w : World) : Calls Try.prog 13 #[.string s] w fun e w' => e = .returned (.int .u32 (flagB s.toList)) ∧ w' = w := by
  by_cases h1 : (s.toList == [100, 111, 110, 101]) = true
  · have e : flagB s.toList = 1 := by unfold flagB; rw [if_pos h1]
    rw [e]
    go_enter Try.func13, Try.ntmps13
    go_wp2
    go_ret
    exact ⟨rfl, rfl⟩
  by_cases h2 : (s.toList == [114, 117, 110, 110, 105, 110, 103]) = true
  · have e : flagB s.toList = 2 := by unfold flagB; rw [if_neg h1, if_pos h2]
    rw [e]
    rw [Bool.not_eq_true] at h1
    go_enter Try.func13, Try.ntmps13
    go_wp2
    go_ret
    exact ⟨rfl, rfl⟩
  by_cases h3 : (s.toList == [115, 116, 97, 108, 101]) = true
  · have e : flagB s.toList = 4 := by unfold flagB; rw [if_neg h1, if_neg h2, if_pos h3]
    rw [e]
    rw [Bool.not_eq_true] at h1 h2
    go_enter Try.func13, Try.ntmps13
    go_wp2
    go_ret
    exact ⟨rfl, rfl⟩
  by_cases h4 : (s.toList == [119, 97, 105, 116, 101, 100]) = true
  · have e : flagB s.toList = 8 := by unfold flagB; rw [if_neg h1, if_neg h2, if_neg h3, if_pos h4]
    rw [e]
    rw [Bool.not_eq_true] at h1 h2 h3
    go_enter Try.func13, Try.ntmps13
    go_wp2
    go_ret
    exact ⟨rfl, rfl⟩
  · have e : flagB s.toList = 0 := by unfold flagB; rw [if_neg h1, if_neg h2, if_neg h3, if_neg h4]
    rw [e]
    rw [Bool.not_eq_true] at h1 h2 h3 h4
    go_enter Try.func13, Try.ntmps13
    go_wp2
    go_ret
    exact ⟨rfl, rfl⟩

theorem or_lt16 (b f : Nat) (hb : b < 16) (hf : f ≤ 8) : b ||| f < 16 := Nat.or_lt_two_pow (n := 4) (by omega) (by omega)

set_option maxHeartbeats 1000000 in
theorem parse_any (t : ByteArray) (m l st : Nat) (w : World) (h0 : 0 < t.size) (hsz : t.size ≤ 1000) (hs : scan t.data.toList (t.size + 1) = some (m, l, st)) :
    Calls Try.prog 9 #[.string t] w fun e w' => e = .returned (.tuple #[.int .u32 m, .bool true]) ∧ w' = w := by
  have hemp : t.toList.isEmpty = false := by rw [ByteArray.toList_eq]; have := Lib.size_eq t; cases hh : t.data.toList <;> simp_all
  have Hs := Hid.mk hs
  clear hs
  go_enter Try.func9, Try.ntmps9
  go_wp2
  go_loop [4, 5, 6, 7] (fun a b c i => ∃ k x y z : Nat, k ≤ t.size + 1 ∧ z ≤ k ∧ x < 16 ∧ y < 16 ∧ Hid (scan t.data.toList k = some (x, y, z)) ∧ a = .int .u32 x ∧ b = .int .u32 y ∧ c = .int .i64 z ∧ i = .int .i64 k) (fun _ _ _ i => t.size + 1 - (intOf i).toNat)
  case atStart => exact ⟨0, 0, 0, 0, by omega, by omega, by omega, by omega, rfl, rfl, rfl, rfl, rfl⟩
  case round =>
    obtain ⟨k, x, y, z, hk, hz, hx, hy, Hk, rfl, rfl, rfl, rfl⟩ := hrel
    by_cases hlt : k ≤ t.size
    · have hnn : scan t.data.toList (k + 1) ≠ none := scan_down _ _ (t.size + 1) (by omega) (by rw [Hs.out]; simp)
      by_cases hkn : k = t.size
      · have H := scan_hit _ k x y z Hk.out (.inl (by rw [hkn]; exact Lib.size_eq t)) hnn
        rw [← Lib.extract_toList t z k] at H
        have hle := flagB_le (t.extract z k).toList
        have hfl := flag_any (t.extract z k) w
        have hor := u32_or_nat x (flagB (t.extract z k).toList) (by omega) (by omega)
        have hlt16 := or_lt16 x _ hx hle
        generalize flagB (t.extract z k).toList = f at *
        obtain ⟨H1, H2, H3⟩ := H
        have H1' := Hid.mk H1
        have Hfl := Hid.mk hfl
        have b1 : ((k : Int) == (t.size : Int)) = true := beq_iff_eq.2 (by omega)
        have b2 : ((f : Int) == 0) = false := beq_eq_false_iff_ne.2 (by omega)
        clear H1 hfl hnn Hk hkn
        go_wp2_with fail
        refine Hfl.out.mono ?_
        rintro e w' ⟨rfl, hw⟩
        have hw := hw.symm
        subst hw
        clear Hfl
        go_wp2
        go_round
        case rel => exact ⟨k + 1, x ||| f, f, k + 1, by omega, by omega, by omega, by omega, H1', rfl, rfl, by go_num, by go_num⟩
        case measure => simp [intOf]; omega
      · have hkl : k < t.size := by omega
        have hgt : t.data.toList[k]? = some (t[k]'hkl) := by rw [Array.getElem?_toList]; exact Array.getElem?_eq_getElem hkl
        have b1 : ((k : Int) == (t.size : Int)) = false := beq_eq_false_iff_ne.2 (by omega)
        by_cases hby : t[k]'hkl = 124
        · have H := scan_hit _ k x y z Hk.out (.inr (by rw [hgt, hby])) hnn
          have b3 : (((t[k]'hkl).toNat : Int) == 124) = true := by rw [hby]; rfl
          rw [← Lib.extract_toList t z k] at H
          have hle := flagB_le (t.extract z k).toList
          have hfl := flag_any (t.extract z k) w
          have hor := u32_or_nat x (flagB (t.extract z k).toList) (by omega) (by omega)
          have hlt16 := or_lt16 x _ hx hle
          generalize flagB (t.extract z k).toList = f at *
          obtain ⟨H1, H2, H3⟩ := H
          have H1' := Hid.mk H1
          have Hfl := Hid.mk hfl
          have b2 : ((f : Int) == 0) = false := beq_eq_false_iff_ne.2 (by omega)
          clear H1 hfl hnn Hk hkn hby hgt
          go_wp2_with fail
          refine Hfl.out.mono ?_
          rintro e w' ⟨rfl, hw⟩
          have hw := hw.symm
          subst hw
          clear Hfl
          go_wp2
          go_round
          case rel => exact ⟨k + 1, x ||| f, f, k + 1, by omega, by omega, by omega, by omega, H1', rfl, rfl, by go_num, by go_num⟩
          case measure => simp [intOf]; omega
        · have H := scan_miss _ k x y z Hk.out (by rw [hgt]; intro h; rcases h with h | h; exact hkn (h.trans (Lib.size_eq t).symm); exact hby (Option.some.inj h))
          have b3 : (((t[k]'hkl).toNat : Int) == 124) = false := by
            rw [beq_eq_false_iff_ne]
            intro h
            exact hby (UInt8.toNat_inj.1 (by have : (t[k]'hkl).toNat = 124 := by omega
                                             rw [this]; rfl))
          have H1' := Hid.mk H
          clear H hnn Hk hkn hby hgt
          go_wp2
          go_round
          case rel => exact ⟨k + 1, x, y, z, by omega, by omega, by omega, by omega, H1', rfl, rfl, rfl, by go_num⟩
          case measure => simp [intOf]; omega
    · obtain rfl : k = t.size + 1 := by omega
      have he : x = m := by
        have h := Hk.out.symm.trans Hs.out
        simp at h
        exact h.1
      subst he
      go_wp2
      go_ret2
      exact ⟨rfl, rfl⟩

theorem txt_scans (m : Nat) (h0 : 0 < m) (h : m < 16) : 0 < (txt m).size ∧ (txt m).size ≤ 1000 ∧ ∃ l st, scan (txt m).data.toList ((txt m).size + 1) = some (m, l, st) := by
  rcases (show m = 1 ∨ m = 2 ∨ m = 3 ∨ m = 4 ∨ m = 5 ∨ m = 6 ∨ m = 7 ∨ m = 8 ∨ m = 9 ∨ m = 10 ∨ m = 11 ∨ m = 12 ∨ m = 13 ∨ m = 14 ∨ m = 15 by omega) with rfl | rfl | rfl | rfl | rfl | rfl | rfl | rfl | rfl | rfl | rfl | rfl | rfl | rfl | rfl
  all_goals exact ⟨by decide +kernel, by decide +kernel, _, _, by rfl⟩

theorem parse_txt (m : Nat) (h : m < 16) (w : World) : Calls Try.prog 9 #[.string (txt m)] w fun e w' => e = .returned (.tuple #[.int .u32 m, .bool true]) ∧ w' = w := by
  by_cases h0 : m = 0
  · subst h0
    rw [show txt 0 = ⟨#[]⟩ from rfl]
    go_enter Try.func9, Try.ntmps9
    go_wp2
    go_ret2
    exact ⟨rfl, rfl⟩
  · obtain ⟨h1, h2, l, st, h3⟩ := txt_scans m (by omega) h
    exact parse_any (txt m) m l st w h1 h2 h3

set_option maxHeartbeats 1000000 in
theorem law_trip (x : Nat) (hx : x < 4294967296) (w : World) :
    Calls Try.prog 4 #[.int .u32 x] w fun e w' => e = .returned (.bool true) ∧ Below w.heap.size w w' := by
  by_cases h0 : x = 0
  · subst h0
    go_enter Try.func4, Try.ntmps4
    go_wp2_with (go_at_call 7; refine (zz_zero _).mono ?_; rintro e w' ⟨rfl, hw⟩; have hw := hw.symm; subst hw)
    go_ret
    exact ⟨rfl, Below.refl _ _⟩
  · have hz : ((x : Int) == 0) = false := beq_eq_false_iff_ne.2 (by omega)
    have hzz := zz_any x hx h0 w
    have hm := mask15 x hx
    have hlt : x % 16 < 16 := Nat.mod_lt _ (by omega)
    have htx := txt_mod x
    generalize x % 16 = m at *
    rw [← htx] at hzz
    have Hzz := Hid.mk hzz
    clear htx hzz h0
    go_enter Try.func4, Try.ntmps4
    go_wp2_with fail
    refine Hzz.out.mono ?_
    rintro e w1 ⟨rfl, hb⟩
    clear Hzz
    go_wp2_with (go_at_call 9; refine (parse_txt m hlt _).mono ?_; rintro e w' ⟨rfl, hw⟩; have hw := hw.symm; subst hw)
    go_ret
    exact ⟨by simp, hb⟩
end Go.Proofs.Qxb6604446a
