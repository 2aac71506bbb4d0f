import Derived.Test.Qxb6604706aGrid
namespace Go.Proofs.Qxb6604706a
open Go.RowKit

/-- The world, some draws later. -/
def Drawn (w wr : World) : Prop := ∃ q, wr = w.drewN q
theorem Drawn.refl (w : World) : Drawn w w := ⟨0, rfl⟩
theorem Drawn.more {w wr : World} (h : Drawn w wr) (q : Nat) : Drawn w (wr.drewN q) := by
  obtain ⟨p, rfl⟩ := h
  exact ⟨p + q, by rw [World.drewN_drewN]⟩
theorem Drawn.cell {w wr : World} (h : Drawn w wr) {a : Addr} {v : Value} (hc : w.cell? a = some v) : wr.cell? a = some v := by
  obtain ⟨p, rfl⟩ := h
  exact hc
theorem Drawn.below {w0 w wr : World} (h : Drawn w wr) {B : Nat} (hb : Below B w0 w) : Below B w0 wr := by
  obtain ⟨p, rfl⟩ := h
  exact below_drewN hb p

set_option maxRecDepth 100000 in
set_option maxHeartbeats 4000000 in
theorem main_any (ro co : Int) (ao : Option Addr) (b off n cap : Nat) (xs : List Nat) (F H L D C I q0 : Nat) (w : World) (hro : ro ≤ 9223372036854775807) (hco : co ≤ 9223372036854775807) (hl : xs.length = n) (hbw : 0 < n → b < w.heap.size) (hao : AtHead ao b off n) (hc : FloatCells w b off n xs)
    (g1 : (n : Int) ≤ 131072) (g4 : (F : Int) + (H : Int) ≤ ro) (g7 : (L : Int) + (D : Int) ≤ co) (k1 : 1 ≤ H) (k2 : 1 ≤ D) (g9 : (H : Int) ≤ (n : Int)) (r3 : (n : Int) / (H : Int) = (q0 : Int)) (r4 : q0 ≤ n) (g10 : (D : Int) ≤ (q0 : Int))
    (hCeq : H * D = C) (hC1 : C ≤ n) (hC2 : 1 ≤ C) (r6 : (n : Int) % (C : Int) = ((0 : Nat) : Int)) (r7 : (n : Int) / (C : Int) = (I : Int)) (hI : n = I * C) (hHC : H ≤ C) (hDC : D ≤ C)
    (key : ((((L : Int) == 0) = true) ∧ (((L : Int) + (D : Int) == co) = true)) ∨ ((((L : Int) == 0) = true) ∧ (((L : Int) + (D : Int) == co) = false) ∧ (((F : Int) + (H : Int) == (F : Int) + 1) = true)) ∨ ((((L : Int) == 0) = false) ∧ (((F : Int) + (H : Int) == (F : Int) + 1) = true))) :
    Calls Try.prog 3 #[.int .i64 ro, .int .i64 co, .int .i64 F, .int .i64 ((F : Int) + H), .int .i64 L, .int .i64 ((L : Int) + D), .slice ao n cap] w fun e w' => e = .returned (.bool true) ∧ Below w.heap.size w w' := by
  have Hby := Hid.mk (bytes_any ro co F ((F : Int) + H) L ((L : Int) + D) ao n cap w)
  have hao' := hao (by omega)
  subst hao'
  have Hcl := Hid.mk (clone_any ⟨b, off, none⟩ b off n cap xs w (by omega) hl hbw hao hc)
  have Hl := Hid.mk hl
  have HI := Hid.mk hI
  have HC := Hid.mk hCeq
  have r5 : (H : Int) * (D : Int) = (C : Int) := by rw [← hCeq]; simp
  have r1 : (F : Int) + (H : Int) - (F : Int) = (H : Int) := by omega
  have r2 : (L : Int) + (D : Int) - (L : Int) = (D : Int) := by omega
  have d1 : decide (131072 < (n : Int)) = false := by simp; omega
  have d2 : decide ((F : Int) < 0) = false := by simp
  have d3 : decide ((F : Int) + (H : Int) ≤ (F : Int)) = false := by simp; omega
  have d4 : decide (ro < (F : Int) + (H : Int)) = false := by simp; omega
  have d5 : decide ((L : Int) < 0) = false := by simp
  have d6 : decide ((L : Int) + (D : Int) ≤ (L : Int)) = false := by simp; omega
  have d7 : decide (co < (L : Int) + (D : Int)) = false := by simp; omega
  have d9 : decide ((n : Int) < (H : Int)) = false := by simp; omega
  have d10 : decide ((q0 : Int) < (D : Int)) = false := by simp; omega
  clear hI hCeq hl hc hao
  rcases key with ⟨b1, b2⟩ | ⟨b1, b2, b3⟩ | ⟨b1, b3⟩
  · go_enter Try.func3, Try.ntmps3
    go_wp2_with (go_at_call 10; refine Hby.out.mono ?_; rintro e w' ⟨⟨r, rfl⟩, hw⟩; have hw := hw.symm; subst hw; cases r)
    · go_ret
      exact ⟨rfl, Below.refl _ _⟩
    clear Hby
    refine Hcl.out.mono ?_
    rintro e w1 ⟨rfl, hown, hb1⟩
    clear Hcl
    have hgr := Hid.mk (grid_any ro co F ((F : Int) + H) L ((L : Int) + D) (.slice (some ⟨w.heap.size, 0, none⟩) n n) _ _ _ w1 rfl)
    go_wp2_with fail
    refine hgr.out.mono ?_
    rintro e w2 ⟨rfl, hw2⟩
    clear hgr
    generalize hgb : w1.heap.size = gb at *
    have m0 : Below w.heap.size w w2 := by rw [← hw2]; exact hb1.alloc hb1.size _
    have m3 : w2.cell? ⟨gb, 3, none⟩ = some (.int .i64 F) := by rw [← hw2, ← hgb]; simp [go_sem]
    have m4 : w2.cell? ⟨gb, 4, none⟩ = some (.int .i64 ((F : Int) + H)) := by rw [← hw2, ← hgb]; simp [go_sem]
    have m5 : w2.cell? ⟨gb, 5, none⟩ = some (.int .i64 L) := by rw [← hw2, ← hgb]; simp [go_sem]
    have m6 : w2.cell? ⟨gb, 6, none⟩ = some (.int .i64 ((L : Int) + D)) := by rw [← hw2, ← hgb]; simp [go_sem]
    have m7 : w2.cell? ⟨gb, 7, none⟩ = some (.slice (some ⟨w.heap.size, 0, none⟩) n n) := by rw [← hw2, ← hgb]; simp [go_sem]
    have mx : ∀ k, k < n → w2.cell? ⟨w.heap.size, k, none⟩ = some (.float .f64 (xs.getD k 0)) := fun k hk => by
      rw [← hw2]
      have h := hown.cellAt k (by omega)
      rw [fl_at xs k n Hl.out hk] at h
      exact cell_later ((Below.refl _ _).alloc (Nat.le_refl _) _) h
    have M3 := Hid.mk m3
    have M4 := Hid.mk m4
    have M5 := Hid.mk m5
    have M6 := Hid.mk m6
    have M7 := Hid.mk m7
    have MX := Hid.mk mx
    clear m3 m4 m5 m6 m7 mx hw2 hgb hown hb1
    have hIn : I ≤ n := by have := HI.out; have h2 := Nat.le_mul_of_pos_right I hC2; omega
    go_wp2
    go_loopw [20, 21, 22, 23] (fun kk ii _ _ wr => ∃ i : Nat, i ≤ I ∧ ii = .int .i64 i ∧ kk = .int .i64 (i * C : Nat) ∧ Drawn w2 wr) (fun _ ii _ _ _ => I - (intOf ii).toNat)
    case atStart => exact ⟨0, Nat.zero_le _, rfl, by simp, Drawn.refl _⟩
    case round =>
      obtain ⟨i, hi, rfl, rfl, hdr⟩ := hrel
      by_cases hlt : i < I
      · have hiC : i * C + C ≤ n := by have h1 := HI.out; have h2 := Nat.mul_le_mul_right C (show i + 1 ≤ I by omega); rw [Nat.add_mul, Nat.one_mul] at h2; omega
        have HiC := Hid.mk (show (i + 1) * C = i * C + C by rw [Nat.add_mul, Nat.one_mul])
        have HiH := Hid.mk (show i * H * D = i * C by rw [Nat.mul_assoc, HC.out])
        have hiH : i * H ≤ i * C := Nat.mul_le_mul_left i hHC
        generalize i * C = iC at *
        generalize hP : i * H = P at *
        have HP := Hid.mk hP
        clear hP
        go_wp2
        go_loopw [20, 22, 23] (fun kk rr _ wr => ∃ j : Nat, j ≤ H ∧ rr = .int .i64 ((F : Int) + j) ∧ kk = .int .i64 (iC + j * D : Nat) ∧ Drawn w2 wr) (fun _ rr _ _ => H - ((intOf rr) - F).toNat)
        case atStart => exact ⟨0, Nat.zero_le _, by simp, by simp, hdr⟩
        case round =>
          clear hdr
          obtain ⟨j, hj, rfl, rfl, hdr⟩ := hrel
          by_cases hlt2 : j < H
          · have hjD : j * D + D ≤ C := by have h1 := HC.out; have h2 := Nat.mul_le_mul_right D (show j + 1 ≤ H by omega); rw [Nat.add_mul, Nat.one_mul] at h2; omega
            have HjD := Hid.mk (show (j + 1) * D = j * D + D by rw [Nat.add_mul, Nat.one_mul])
            have HPj := Hid.mk (show (P + j) * D = iC + j * D by rw [Nat.add_mul, HiH.out])
            generalize hjd : j * D = jD at *
            clear hjd
            go_wp2
            go_loopw [20, 23] (fun kk cc wr => ∃ m : Nat, m ≤ D ∧ cc = .int .i64 ((L : Int) + m) ∧ kk = .int .i64 (iC + jD + m : Nat) ∧ Drawn w2 wr) (fun _ cc _ => D - ((intOf cc) - L).toNat)
            case atStart => exact ⟨0, Nat.zero_le _, by simp, by simp, hdr⟩
            case round =>
              clear hdr
              obtain ⟨m, hm, rfl, rfl, hdr⟩ := hrel
              by_cases hlt3 : m < D
              · have hK : iC + jD + m < n := by omega
                have hxk := hdr.cell (MX.out (iC + jD + m) hK)
                have hidx := idx i F H j L D m (iC + jD + m) (by rw [HP.out]; omega) (by omega) (by omega) (by omega) (by omega) (by rw [HP.out, HPj.out]; omega) (by rw [HP.out, HPj.out])
                have Hat := Hid.mk (fun nq => at_any gb w.heap.size n n F ((F : Int) + H) L ((L : Int) + D) i ((F : Int) + j) ((L : Int) + m) (xs.getD (iC + jD + m) 0) (iC + jD + m) (wr.drewN nq) (hdr.cell M3.out) (hdr.cell M4.out) (hdr.cell M5.out) (hdr.cell M6.out) (hdr.cell M7.out) hK hxk hidx)
                have e0 : (0 : Int) ≤ ((iC + jD + m : Nat) : Int) := Int.natCast_nonneg _
                have e1 : ((iC + jD + m : Nat) : Int) < (n : Int) := by omega
                clear hidx
                generalize xs.getD (iC + jD + m) 0 = x at *
                generalize hkk : iC + jD + m = K at *
                have HK := Hid.mk hkk
                clear hkk
                go_wp2_with fail
                go_quiet (first | (go_at_call 14; exact Calls.quiet_of (Hat.out _)) | (go_at_call 13; exact Calls.quiet_of_same (same_any _ _)))
                go_wp2
                go_roundw
                case rel => exact ⟨m + 1, by omega, by go_num, by rw [← Nat.add_assoc, HK.out]; go_num, hdr.more _⟩
                case measure => simp [intOf]; omega
              · obtain rfl : m = D := by omega
                go_wp2
                go_roundw
                case rel => exact ⟨j + 1, by omega, by go_num, by rw [HjD.out, Nat.add_assoc], hdr⟩
                case measure => simp [intOf]; omega
          · obtain rfl : j = H := by omega
            go_wp2
            go_roundw
            case rel => exact ⟨i + 1, by omega, by go_num, by rw [HiC.out, HC.out], hdr⟩
            case measure => simp [intOf]; omega
      · go_wp2
        go_ret
        exact ⟨rfl, hdr.below m0⟩
  · go_enter Try.func3, Try.ntmps3
    go_wp2_with (go_at_call 10; refine Hby.out.mono ?_; rintro e w' ⟨⟨r, rfl⟩, hw⟩; have hw := hw.symm; subst hw; cases r)
    · go_ret
      exact ⟨rfl, Below.refl _ _⟩
    clear Hby
    refine Hcl.out.mono ?_
    rintro e w1 ⟨rfl, hown, hb1⟩
    clear Hcl
    have hgr := Hid.mk (grid_any ro co F ((F : Int) + H) L ((L : Int) + D) (.slice (some ⟨w.heap.size, 0, none⟩) n n) _ _ _ w1 rfl)
    go_wp2_with fail
    refine hgr.out.mono ?_
    rintro e w2 ⟨rfl, hw2⟩
    clear hgr
    generalize hgb : w1.heap.size = gb at *
    have m0 : Below w.heap.size w w2 := by rw [← hw2]; exact hb1.alloc hb1.size _
    have m3 : w2.cell? ⟨gb, 3, none⟩ = some (.int .i64 F) := by rw [← hw2, ← hgb]; simp [go_sem]
    have m4 : w2.cell? ⟨gb, 4, none⟩ = some (.int .i64 ((F : Int) + H)) := by rw [← hw2, ← hgb]; simp [go_sem]
    have m5 : w2.cell? ⟨gb, 5, none⟩ = some (.int .i64 L) := by rw [← hw2, ← hgb]; simp [go_sem]
    have m6 : w2.cell? ⟨gb, 6, none⟩ = some (.int .i64 ((L : Int) + D)) := by rw [← hw2, ← hgb]; simp [go_sem]
    have m7 : w2.cell? ⟨gb, 7, none⟩ = some (.slice (some ⟨w.heap.size, 0, none⟩) n n) := by rw [← hw2, ← hgb]; simp [go_sem]
    have mx : ∀ k, k < n → w2.cell? ⟨w.heap.size, k, none⟩ = some (.float .f64 (xs.getD k 0)) := fun k hk => by
      rw [← hw2]
      have h := hown.cellAt k (by omega)
      rw [fl_at xs k n Hl.out hk] at h
      exact cell_later ((Below.refl _ _).alloc (Nat.le_refl _) _) h
    have M3 := Hid.mk m3
    have M4 := Hid.mk m4
    have M5 := Hid.mk m5
    have M6 := Hid.mk m6
    have M7 := Hid.mk m7
    have MX := Hid.mk mx
    clear m3 m4 m5 m6 m7 mx hw2 hgb hown hb1
    have hIn : I ≤ n := by have := HI.out; have h2 := Nat.le_mul_of_pos_right I hC2; omega
    go_wp2
    go_loopw [20, 21, 22, 23] (fun kk ii _ _ wr => ∃ i : Nat, i ≤ I ∧ ii = .int .i64 i ∧ kk = .int .i64 (i * C : Nat) ∧ Drawn w2 wr) (fun _ ii _ _ _ => I - (intOf ii).toNat)
    case atStart => exact ⟨0, Nat.zero_le _, rfl, by simp, Drawn.refl _⟩
    case round =>
      obtain ⟨i, hi, rfl, rfl, hdr⟩ := hrel
      by_cases hlt : i < I
      · have hiC : i * C + C ≤ n := by have h1 := HI.out; have h2 := Nat.mul_le_mul_right C (show i + 1 ≤ I by omega); rw [Nat.add_mul, Nat.one_mul] at h2; omega
        have HiC := Hid.mk (show (i + 1) * C = i * C + C by rw [Nat.add_mul, Nat.one_mul])
        have HiH := Hid.mk (show i * H * D = i * C by rw [Nat.mul_assoc, HC.out])
        have hiH : i * H ≤ i * C := Nat.mul_le_mul_left i hHC
        generalize i * C = iC at *
        generalize hP : i * H = P at *
        have HP := Hid.mk hP
        clear hP
        go_wp2
        go_loopw [20, 22, 23] (fun kk rr _ wr => ∃ j : Nat, j ≤ H ∧ rr = .int .i64 ((F : Int) + j) ∧ kk = .int .i64 (iC + j * D : Nat) ∧ Drawn w2 wr) (fun _ rr _ _ => H - ((intOf rr) - F).toNat)
        case atStart => exact ⟨0, Nat.zero_le _, by simp, by simp, hdr⟩
        case round =>
          clear hdr
          obtain ⟨j, hj, rfl, rfl, hdr⟩ := hrel
          by_cases hlt2 : j < H
          · have hjD : j * D + D ≤ C := by have h1 := HC.out; have h2 := Nat.mul_le_mul_right D (show j + 1 ≤ H by omega); rw [Nat.add_mul, Nat.one_mul] at h2; omega
            have HjD := Hid.mk (show (j + 1) * D = j * D + D by rw [Nat.add_mul, Nat.one_mul])
            have HPj := Hid.mk (show (P + j) * D = iC + j * D by rw [Nat.add_mul, HiH.out])
            generalize hjd : j * D = jD at *
            clear hjd
            go_wp2
            go_loopw [20, 23] (fun kk cc wr => ∃ m : Nat, m ≤ D ∧ cc = .int .i64 ((L : Int) + m) ∧ kk = .int .i64 (iC + jD + m : Nat) ∧ Drawn w2 wr) (fun _ cc _ => D - ((intOf cc) - L).toNat)
            case atStart => exact ⟨0, Nat.zero_le _, by simp, by simp, hdr⟩
            case round =>
              clear hdr
              obtain ⟨m, hm, rfl, rfl, hdr⟩ := hrel
              by_cases hlt3 : m < D
              · have hK : iC + jD + m < n := by omega
                have hxk := hdr.cell (MX.out (iC + jD + m) hK)
                have hidx := idx i F H j L D m (iC + jD + m) (by rw [HP.out]; omega) (by omega) (by omega) (by omega) (by omega) (by rw [HP.out, HPj.out]; omega) (by rw [HP.out, HPj.out])
                have Hat := Hid.mk (fun nq => at_any gb w.heap.size n n F ((F : Int) + H) L ((L : Int) + D) i ((F : Int) + j) ((L : Int) + m) (xs.getD (iC + jD + m) 0) (iC + jD + m) (wr.drewN nq) (hdr.cell M3.out) (hdr.cell M4.out) (hdr.cell M5.out) (hdr.cell M6.out) (hdr.cell M7.out) hK hxk hidx)
                have e0 : (0 : Int) ≤ ((iC + jD + m : Nat) : Int) := Int.natCast_nonneg _
                have e1 : ((iC + jD + m : Nat) : Int) < (n : Int) := by omega
                clear hidx
                generalize xs.getD (iC + jD + m) 0 = x at *
                generalize hkk : iC + jD + m = K at *
                have HK := Hid.mk hkk
                clear hkk
                go_wp2_with fail
                go_quiet (first | (go_at_call 14; exact Calls.quiet_of (Hat.out _)) | (go_at_call 13; exact Calls.quiet_of_same (same_any _ _)))
                go_wp2
                go_roundw
                case rel => exact ⟨m + 1, by omega, by go_num, by rw [← Nat.add_assoc, HK.out]; go_num, hdr.more _⟩
                case measure => simp [intOf]; omega
              · obtain rfl : m = D := by omega
                go_wp2
                go_roundw
                case rel => exact ⟨j + 1, by omega, by go_num, by rw [HjD.out, Nat.add_assoc], hdr⟩
                case measure => simp [intOf]; omega
          · obtain rfl : j = H := by omega
            go_wp2
            go_roundw
            case rel => exact ⟨i + 1, by omega, by go_num, by rw [HiC.out, HC.out], hdr⟩
            case measure => simp [intOf]; omega
      · go_wp2
        go_ret
        exact ⟨rfl, hdr.below m0⟩
  · go_enter Try.func3, Try.ntmps3
    go_wp2_with (go_at_call 10; refine Hby.out.mono ?_; rintro e w' ⟨⟨r, rfl⟩, hw⟩; have hw := hw.symm; subst hw; cases r)
    · go_ret
      exact ⟨rfl, Below.refl _ _⟩
    clear Hby
    refine Hcl.out.mono ?_
    rintro e w1 ⟨rfl, hown, hb1⟩
    clear Hcl
    have hgr := Hid.mk (grid_any ro co F ((F : Int) + H) L ((L : Int) + D) (.slice (some ⟨w.heap.size, 0, none⟩) n n) _ _ _ w1 rfl)
    go_wp2_with fail
    refine hgr.out.mono ?_
    rintro e w2 ⟨rfl, hw2⟩
    clear hgr
    generalize hgb : w1.heap.size = gb at *
    have m0 : Below w.heap.size w w2 := by rw [← hw2]; exact hb1.alloc hb1.size _
    have m3 : w2.cell? ⟨gb, 3, none⟩ = some (.int .i64 F) := by rw [← hw2, ← hgb]; simp [go_sem]
    have m4 : w2.cell? ⟨gb, 4, none⟩ = some (.int .i64 ((F : Int) + H)) := by rw [← hw2, ← hgb]; simp [go_sem]
    have m5 : w2.cell? ⟨gb, 5, none⟩ = some (.int .i64 L) := by rw [← hw2, ← hgb]; simp [go_sem]
    have m6 : w2.cell? ⟨gb, 6, none⟩ = some (.int .i64 ((L : Int) + D)) := by rw [← hw2, ← hgb]; simp [go_sem]
    have m7 : w2.cell? ⟨gb, 7, none⟩ = some (.slice (some ⟨w.heap.size, 0, none⟩) n n) := by rw [← hw2, ← hgb]; simp [go_sem]
    have mx : ∀ k, k < n → w2.cell? ⟨w.heap.size, k, none⟩ = some (.float .f64 (xs.getD k 0)) := fun k hk => by
      rw [← hw2]
      have h := hown.cellAt k (by omega)
      rw [fl_at xs k n Hl.out hk] at h
      exact cell_later ((Below.refl _ _).alloc (Nat.le_refl _) _) h
    have M3 := Hid.mk m3
    have M4 := Hid.mk m4
    have M5 := Hid.mk m5
    have M6 := Hid.mk m6
    have M7 := Hid.mk m7
    have MX := Hid.mk mx
    clear m3 m4 m5 m6 m7 mx hw2 hgb hown hb1
    have hIn : I ≤ n := by have := HI.out; have h2 := Nat.le_mul_of_pos_right I hC2; omega
    go_wp2
    go_loopw [20, 21, 22, 23] (fun kk ii _ _ wr => ∃ i : Nat, i ≤ I ∧ ii = .int .i64 i ∧ kk = .int .i64 (i * C : Nat) ∧ Drawn w2 wr) (fun _ ii _ _ _ => I - (intOf ii).toNat)
    case atStart => exact ⟨0, Nat.zero_le _, rfl, by simp, Drawn.refl _⟩
    case round =>
      obtain ⟨i, hi, rfl, rfl, hdr⟩ := hrel
      by_cases hlt : i < I
      · have hiC : i * C + C ≤ n := by have h1 := HI.out; have h2 := Nat.mul_le_mul_right C (show i + 1 ≤ I by omega); rw [Nat.add_mul, Nat.one_mul] at h2; omega
        have HiC := Hid.mk (show (i + 1) * C = i * C + C by rw [Nat.add_mul, Nat.one_mul])
        have HiH := Hid.mk (show i * H * D = i * C by rw [Nat.mul_assoc, HC.out])
        have hiH : i * H ≤ i * C := Nat.mul_le_mul_left i hHC
        generalize i * C = iC at *
        generalize hP : i * H = P at *
        have HP := Hid.mk hP
        clear hP
        go_wp2
        go_loopw [20, 22, 23] (fun kk rr _ wr => ∃ j : Nat, j ≤ H ∧ rr = .int .i64 ((F : Int) + j) ∧ kk = .int .i64 (iC + j * D : Nat) ∧ Drawn w2 wr) (fun _ rr _ _ => H - ((intOf rr) - F).toNat)
        case atStart => exact ⟨0, Nat.zero_le _, by simp, by simp, hdr⟩
        case round =>
          clear hdr
          obtain ⟨j, hj, rfl, rfl, hdr⟩ := hrel
          by_cases hlt2 : j < H
          · have hjD : j * D + D ≤ C := by have h1 := HC.out; have h2 := Nat.mul_le_mul_right D (show j + 1 ≤ H by omega); rw [Nat.add_mul, Nat.one_mul] at h2; omega
            have HjD := Hid.mk (show (j + 1) * D = j * D + D by rw [Nat.add_mul, Nat.one_mul])
            have HPj := Hid.mk (show (P + j) * D = iC + j * D by rw [Nat.add_mul, HiH.out])
            generalize hjd : j * D = jD at *
            clear hjd
            go_wp2
            go_loopw [20, 23] (fun kk cc wr => ∃ m : Nat, m ≤ D ∧ cc = .int .i64 ((L : Int) + m) ∧ kk = .int .i64 (iC + jD + m : Nat) ∧ Drawn w2 wr) (fun _ cc _ => D - ((intOf cc) - L).toNat)
            case atStart => exact ⟨0, Nat.zero_le _, by simp, by simp, hdr⟩
            case round =>
              clear hdr
              obtain ⟨m, hm, rfl, rfl, hdr⟩ := hrel
              by_cases hlt3 : m < D
              · have hK : iC + jD + m < n := by omega
                have hxk := hdr.cell (MX.out (iC + jD + m) hK)
                have hidx := idx i F H j L D m (iC + jD + m) (by rw [HP.out]; omega) (by omega) (by omega) (by omega) (by omega) (by rw [HP.out, HPj.out]; omega) (by rw [HP.out, HPj.out])
                have Hat := Hid.mk (fun nq => at_any gb w.heap.size n n F ((F : Int) + H) L ((L : Int) + D) i ((F : Int) + j) ((L : Int) + m) (xs.getD (iC + jD + m) 0) (iC + jD + m) (wr.drewN nq) (hdr.cell M3.out) (hdr.cell M4.out) (hdr.cell M5.out) (hdr.cell M6.out) (hdr.cell M7.out) hK hxk hidx)
                have e0 : (0 : Int) ≤ ((iC + jD + m : Nat) : Int) := Int.natCast_nonneg _
                have e1 : ((iC + jD + m : Nat) : Int) < (n : Int) := by omega
                clear hidx
                generalize xs.getD (iC + jD + m) 0 = x at *
                generalize hkk : iC + jD + m = K at *
                have HK := Hid.mk hkk
                clear hkk
                go_wp2_with fail
                go_quiet (first | (go_at_call 14; exact Calls.quiet_of (Hat.out _)) | (go_at_call 13; exact Calls.quiet_of_same (same_any _ _)))
                go_wp2
                go_roundw
                case rel => exact ⟨m + 1, by omega, by go_num, by rw [← Nat.add_assoc, HK.out]; go_num, hdr.more _⟩
                case measure => simp [intOf]; omega
              · obtain rfl : m = D := by omega
                go_wp2
                go_roundw
                case rel => exact ⟨j + 1, by omega, by go_num, by rw [HjD.out, Nat.add_assoc], hdr⟩
                case measure => simp [intOf]; omega
          · obtain rfl : j = H := by omega
            go_wp2
            go_roundw
            case rel => exact ⟨i + 1, by omega, by go_num, by rw [HiC.out, HC.out], hdr⟩
            case measure => simp [intOf]; omega
      · go_wp2
        go_ret
        exact ⟨rfl, hdr.below m0⟩
end Go.Proofs.Qxb6604706a
