import Derived.Test.Qxb6604442aWith
import Derived.Deep.RegionHeld3
namespace Go.Proofs.Qxb6604442a
open Go.RowKit

theorem StrCells.later {w w1 : World} {b off n : Nat} {ss : List ByteArray} (h : StrCells w b off n ss) (hb : Below w.heap.size w w1) (hbw : 0 < n → b < w.heap.size) : StrCells w1 b off n ss := fun k hk =>
  (hb.cell (p := ⟨b, off + k, none⟩) (hbw (by omega))).trans (h k hk)

theorem getD_off (ss : List ByteArray) (j : Nat) (d : ByteArray) (h : ss.length ≤ j) : ss.getD j d = d := by
  simp [List.getD, h]

set_option maxRecDepth 100000 in
set_option maxHeartbeats 2000000 in
theorem keeps_any (ao : Option Addr) (b off n cap : Nat) (ss : List ByteArray) (ao2 : Option Addr) (b2 off2 n2 cap2 : Nat) (ss2 : List ByteArray) (f : ByteArray) (w : World)
    (hl : ss.length = n) (hbw : 0 < n → b < w.heap.size) (hnil : ao = none → n = 0) (hao : AtHead ao b off n) (hc : StrCells w b off n ss)
    (hl2 : ss2.length = n2) (hbw2 : 0 < n2 → b2 < w.heap.size) (hnil2 : ao2 = none → n2 = 0) (hao2 : AtHead ao2 b2 off2 n2) (hc2 : StrCells w b2 off2 n2 ss2) :
    Calls Try.prog 4 #[.slice ao n cap, .slice ao2 n2 cap2, .string f] w fun e w' => e = .returned (.bool true) ∧ Below w.heap.size w w' := by
  have hby := bytes2_any ao b off n cap ss ao2 b2 off2 n2 cap2 ss2 f w hao hc hao2 hc2
  by_cases hbig : 65536 < (n : Int)
  · have hd : decide (65536 < (n : Int)) = true := by simpa using hbig
    go_enter Try.func4, Try.ntmps4
    go_wp2_with (go_at_call 16; refine hby.mono ?_; rintro e w' ⟨⟨r, rfl⟩, hw⟩; have hw := hw.symm; subst hw; cases r)
    all_goals (go_ret; exact ⟨rfl, Below.refl _ _⟩)
  have hd1 : decide (65536 < (n : Int)) = false := by simpa using hbig
  by_cases hbig2 : 65536 < (n2 : Int)
  · have hd : decide (65536 < (n2 : Int)) = true := by simpa using hbig2
    go_enter Try.func4, Try.ntmps4
    go_wp2_with (go_at_call 16; refine hby.mono ?_; rintro e w' ⟨⟨r, rfl⟩, hw⟩; have hw := hw.symm; subst hw; cases r)
    all_goals (go_ret; exact ⟨rfl, Below.refl _ _⟩)
  have hd2 : decide (65536 < (n2 : Int)) = false := by simpa using hbig2
  by_cases hbig3 : 1048576 < (f.size : Int)
  · have hd : decide (1048576 < (f.size : Int)) = true := by simpa using hbig3
    go_enter Try.func4, Try.ntmps4
    go_wp2_with (go_at_call 16; refine hby.mono ?_; rintro e w' ⟨⟨r, rfl⟩, hw⟩; have hw := hw.symm; subst hw; cases r)
    all_goals (go_ret; exact ⟨rfl, Below.refl _ _⟩)
  have hd3 : decide (1048576 < (f.size : Int)) = false := by simpa using hbig3
  by_cases hbig4 : 1048576 < 16 * (n : Int) + 16 * (n2 : Int) + (f.size : Int)
  · have hd : decide (1048576 < 16 * (n : Int) + 16 * (n2 : Int) + (f.size : Int)) = true := by simpa using hbig4
    go_enter Try.func4, Try.ntmps4
    go_wp2_with (go_at_call 16; refine hby.mono ?_; rintro e w' ⟨⟨r, rfl⟩, hw⟩; have hw := hw.symm; subst hw; cases r)
    all_goals (go_ret; exact ⟨rfl, Below.refl _ _⟩)
  have hd4 : decide (1048576 < 16 * (n : Int) + 16 * (n2 : Int) + (f.size : Int)) = false := by simpa using hbig4
  have hn : n ≤ 65536 := by omega
  have hn2 : n2 ≤ 65536 := by omega
  go_enter Try.func4, Try.ntmps4
  go_wp2_with (go_at_call 16; refine hby.mono ?_; rintro e w' ⟨⟨r, rfl⟩, hw⟩; have hw := hw.symm; subst hw; cases r)
  · go_ret
    exact ⟨rfl, Below.refl _ _⟩
  clear hby
  go_loop [7, 8] (fun t i => ∃ k m : Nat, k ≤ n ∧ m ≤ 1048576 ∧ i = .int .i64 k ∧ t = .int .i64 m) (fun _ i => n - (intOf i).toNat)
  case atStart => exact ⟨0, 16 * n + 16 * n2 + f.size, Nat.zero_le _, by omega, rfl, by go_num⟩
  case round =>
    obtain ⟨k, m, hk, hm, rfl, rfl⟩ := hrel
    by_cases hlt : k < n
    · have hao' := hao (by omega)
      subst hao'
      have hck := hc k hlt
      generalize ss.getD k ByteArray.empty = s at hck
      by_cases hs : 1048576 < (s.size : Int)
      · go_wp2
        go_ret
        exact ⟨rfl, Below.refl _ _⟩
      · by_cases hs2 : 1048576 < (m : Int) + (s.size : Int)
        · go_wp2
          go_ret
          exact ⟨rfl, Below.refl _ _⟩
        · go_wp2
          go_round
          case rel => exact ⟨k + 1, m + s.size, by omega, by omega, by go_num, by go_num⟩
          case measure => simp [intOf]; omega
    go_wp2
    go_loop [7, 9] (fun t i => ∃ k m : Nat, k ≤ n2 ∧ m ≤ 1048576 ∧ i = .int .i64 k ∧ t = .int .i64 m) (fun _ i => n2 - (intOf i).toNat)
    case atStart => exact ⟨0, m, Nat.zero_le _, by omega, rfl, rfl⟩
    case round =>
      obtain ⟨k', m', hk', hm', rfl, rfl⟩ := hrel
      by_cases hlt2 : k' < n2
      · have hao' := hao2 (by omega)
        subst hao'
        have hck := hc2 k' hlt2
        generalize ss2.getD k' ByteArray.empty = s at hck
        by_cases hs : 1048576 < (s.size : Int)
        · go_wp2
          go_ret
          exact ⟨rfl, Below.refl _ _⟩
        · by_cases hs2 : 1048576 < (m' : Int) + (s.size : Int)
          · go_wp2
            go_ret
            exact ⟨rfl, Below.refl _ _⟩
          · go_wp2
            go_round
            case rel => exact ⟨k' + 1, m' + s.size, by omega, by omega, by go_num, by go_num⟩
            case measure => simp [intOf]; omega
      by_cases hnn : n = n2
      · have hbe : ((n : Int) != (n2 : Int)) = false := by simp [hnn]
        subst hnn
        go_wp2_with fail
        refine (clone_any ao b off n cap ss _ hn hl hbw hnil hao hc).mono ?_
        rintro e w1 ⟨v, rfl, hown, hbel⟩
        obtain ⟨ao1, g1, cap1, hv, hg1, hh1, hc1⟩ := owned_strs hl hown
        subst hv
        have hbw2' : 0 < n → b2 < w1.heap.size := fun h => Nat.lt_of_lt_of_le (hbw2 h) hbel.size
        have hc2' := hc2.later hbel hbw2
        clear hown hnil hao hc hbw hc2 hbw2
        go_wp2_with fail
        refine (clone_any ao2 b2 off2 n cap2 ss2 w1 hn hl2 hbw2' hnil2 hao2 hc2').mono ?_
        rintro e w2 ⟨v, rfl, hown, hbel2⟩
        obtain ⟨ao3, g3, cap3, hv, hg3, hh3, hc3⟩ := owned_strs hl2 hown
        subst hv
        have hc1' := hc1.later hbel2 hg1
        have hg1' : 0 < n → g1 < w2.heap.size := fun h => Nat.lt_of_lt_of_le (hg1 h) hbel2.size
        have hb02 : Below w.heap.size w w2 := hbel.trans (hbel2.mono hbel.size)
        clear hown hnil2 hao2 hc2' hbw2' hbel hbel2 hc1 hg1
        go_wp2_with fail
        refine (with_any ao1 g1 0 n cap1 ss ao3 g3 0 cap3 ss2 w2 hn hg1' hg3 hh1 hc1' hh3 hc3).mono ?_
        rintro e w3 ⟨Ba, va, rfl, hBa, hone, hown, hb23⟩
        have hset := zzset_gen w2.heap.size Ba va n _ f w3 hn hBa hone hown
        have Hset := Hid.mk hset
        clear hset hone hown
        go_wp2_with fail
        refine Hset.out.mono ?_
        rintro e w4 ⟨rfl, va', hone, hown, hb34⟩
        clear Hset
        obtain ⟨g, cp, hv⟩ := owned_shape hown (by omega)
        subst hv
        have hcl := cell_of_one hone
        have hb24 : Below w2.heap.size w2 w4 := hb23.trans hb34
        have hlB := lt_of_block hone
        have hgl := hown.lt g rfl
        have hc14 := hc1'.later hb24 hg1'
        have hc34 := hc3.later hb24 hg3
        have hfin : Below w.heap.size w w4 := hb02.trans (hb24.mono hb02.size)
        have hent : ∀ j s a, j < n + 1 → ss.getD j f = s → ss2.getD j ⟨#[]⟩ = a → ∀ i u, (entry s a)[i]? = some u → w4.cell? ⟨g, j * 16 + i, none⟩ = some u := by
          intro j s a hj hs ha i u hu
          have hi : i < 16 := by have := (List.getElem?_eq_some_iff.1 hu).1; simpa [entry] using this
          rw [hown.cellAt (j * 16 + i) (by omega)]
          by_cases hjn : j < n
          · rw [List.getElem?_append_left (by rw [rows_len]; omega)]
            refine rows_at ss ss2 n j i u hjn ?_
            rw [show ss.getD j ByteArray.empty = s from by rw [← hs]; simp [show j < ss.length by omega], ha]
            exact hu
          · obtain rfl : j = n := by omega
            rw [List.getElem?_append_right (by rw [rows_len]; omega), rows_len, show j * 16 + i - j * 16 = i by omega]
            rw [getD_off ss j f (by omega)] at hs
            rw [getD_off ss2 j _ (by omega)] at ha
            rw [hs, ha]
            exact hu
        have Hent := Hid.mk hent
        clear hent hown hone hb23 hb34 hb24 hc1' hc3 hb02
        go_wp2_with (go_at_call 12; refine (len_any Ba (some ⟨g, 0, none⟩) (n + 1) cp _ hcl).mono ?_; rintro e w5 ⟨rfl, hw5⟩; have hw5 := hw5.symm; subst hw5)
        go_loopw [12] (fun i wr => ∃ (j : Nat), j ≤ n ∧ i = .int .i64 j ∧ Below w4.heap.size w4 wr) (fun i _ => n - (intOf i).toNat)
        case atStart => exact ⟨0, Nat.zero_le _, rfl, Below.refl _ _⟩
        case round =>
          obtain ⟨j, hj, rfl, hb5⟩ := hrel
          by_cases hlt3 : j < n
          · have hha := hh1 (by omega)
            have hhb := hh3 (by omega)
            subst hha hhb
            have hent := Hent.out j (ss.getD j ByteArray.empty) (ss2.getD j ByteArray.empty) (by omega) (by simp [show j < ss.length by omega]) rfl
            have d1 := cell_later hb5 (hc14 j hlt3)
            have d2 := cell_later hb5 (hc34 j hlt3)
            rw [Nat.zero_add] at d1 d2
            have hcl5 := cell_later hb5 hcl
            generalize ss.getD j ByteArray.empty = s at *
            generalize ss2.getD j ByteArray.empty = a at *
            have hfile := cell_later hb5 (hent 0 _ rfl)
            rw [Nat.add_zero] at hfile
            have Hfl := Hid.mk (fun nq => file_any Ba g (n + 1) cp j s (wr.drewN nq) hcl5 (by omega) hfile)
            have Hgv := Hid.mk (fun W (hW : Below w4.heap.size w4 W) => given_any Ba g (n + 1) cp j s a W (Nat.lt_of_lt_of_le hlB hW.size) (Nat.lt_of_lt_of_le hgl.2 hW.size) (cell_later hW hcl) (by omega) (fun i u hu => cell_later hW (hent i u hu)))
            clear hent hfile hcl5
            have e0 : (0 : Int) ≤ (j : Int) := Int.natCast_nonneg _
            have e1 : (j : Int) < (n : Int) := by omega
            go_wp2_with fail
            go_quiet ((go_at_call 13; exact Calls.quiet_of_same (Hfl.out _)))
            have hb6 : Below w4.heap.size w4 (wr.drewN nq) := below_drewN hb5 nq
            have hg34 : g3 < w4.heap.size := World.block_lt_of_cell? w4 _ (hc34 j hlt3)
            have d34 : w4.cell? ⟨g3, j, none⟩ = some (.string a) := (hb5.cell (p := ⟨g3, j, none⟩) hg34).symm.trans d2
            have Har := Hid.mk (fun W (hW : Below w4.heap.size w4 W) => (arch_any a W).mono (fun e w' h => (⟨h.1, hW.trans (h.2.mono hW.size)⟩ : e = .returned (.bool true) ∧ Below w4.heap.size w4 w')))
            have Hgw := Hid.mk (fun W (hW : Below w4.heap.size w4 W) => (Hgv.out W hW).mono (fun e w' h => (⟨h.1, hW.trans (h.2.mono hW.size)⟩ : e = .returned (given a) ∧ Below w4.heap.size w4 w')))
            clear Hfl Hgv d1 d2
            go_wp2_with fail
            go_region_held3 (fun w' => Below w4.heap.size w4 w' ∧ w'.cell? ⟨g3, j, none⟩ = some (.string a))
              (exact ⟨by first | assumption | exact below_drewN hb5 _ | exact Below.drew (by assumption), cell_later (by first | assumption | exact below_drewN hb5 _ | exact Below.drew (by assumption)) d34⟩)
              (first | (go_at_call 15; refine (Hgw.out _ (by first | assumption | exact below_drewN hb5 _ | exact Below.drew (by assumption))).mono ?_; rintro e w6 ⟨rfl, hb7⟩) | (go_at_call 18; refine (Har.out _ (by first | assumption | exact below_drewN hb5 _ | exact Below.drew (by assumption))).mono ?_; rintro e w8 ⟨rfl, hb8⟩))
            go_wp2
            go_roundw
            case rel => exact ⟨j + 1, by omega, by go_num, hb8⟩
            case measure => simp [intOf]; omega
          · have hent := Hent.out n f ⟨#[]⟩ (by omega) (getD_off _ _ _ (by omega)) (getD_off _ _ _ (by omega))
            have hcl5 := cell_later hb5 hcl
            have hfile := cell_later hb5 (hent 0 _ rfl)
            rw [Nat.add_zero] at hfile
            have Hfl := Hid.mk (file_any Ba g (n + 1) cp n f wr hcl5 (by omega) hfile)
            have Hgv := Hid.mk (given_any Ba g (n + 1) cp n f ⟨#[]⟩ wr (Nat.lt_of_lt_of_le hlB hb5.size) (Nat.lt_of_lt_of_le hgl.2 hb5.size) hcl5 (by omega) (fun i u hu => cell_later hb5 (hent i u hu)))
            have hfin5 : Below w.heap.size w wr := hfin.trans (hb5.mono hfin.size)
            clear hent hfile hcl5 hcl Hent
            go_wp2_with (go_at_call 13; refine Hfl.out.mono ?_; rintro e w6 ⟨rfl, hw6⟩; have hw6 := hw6.symm; subst hw6)
            refine Hgv.out.mono ?_
            rintro e w6 ⟨rfl, hb6⟩
            have hb7 : Below w.heap.size w w6 := hfin5.trans (hb6.mono hfin5.size)
            clear Hgv Hfl
            go_wp2_with fail
            refine (zero_given w6).mono ?_
            rintro e w7 ⟨rfl, hb8⟩
            go_wp2
            go_ret
            exact ⟨rfl, hb7.trans (hb8.mono hb7.size)⟩
      · have hbe : ((n : Int) != (n2 : Int)) = true := by rw [bne_iff_ne]; omega
        go_wp2
        go_ret
        exact ⟨rfl, Below.refl _ _⟩
end Go.Proofs.Qxb6604442a
