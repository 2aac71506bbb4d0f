import Derived.Test.Qxb6604442aGiven
namespace Go.Proofs.Qxb6604442a
open Go.RowKit

theorem Hid.mk {p : Prop} (h : p) : Hid p := h

/-- The entries' cells behind k calls of Set: file i, Architecture (as f says). -/
def rows (ss ar : List ByteArray) : Nat → List Value
  | 0 => []
  | k + 1 => rows ss ar k ++ entry (ss.getD k ByteArray.empty) (ar.getD k ⟨#[]⟩)

theorem rows_len (ss ar : List ByteArray) (k : Nat) : (rows ss ar k).length = k * 16 := by
  induction k with
  | zero => rfl
  | succ k ih => rw [rows, List.length_append, ih]; simp [entry]; omega

theorem rows_at (ss ar : List ByteArray) (n k j : Nat) (u : Value) (hk : k < n) (hu : (entry (ss.getD k ByteArray.empty) (ar.getD k ⟨#[]⟩))[j]? = some u) : (rows ss ar n)[k * 16 + j]? = some u := by
  induction n with
  | zero => omega
  | succ n ih =>
    have hj : j < 16 := by have := (List.getElem?_eq_some_iff.1 hu).1; simpa [entry] using this
    rw [rows]
    by_cases h : k < n
    · rw [List.getElem?_append_left (by rw [rows_len]; omega)]; exact ih h
    · obtain rfl : k = n := by omega
      rw [List.getElem?_append_right (by rw [rows_len]; omega), rows_len]
      simpa using hu

/-- What is owned, as the walk wants it: a slice value, its head, its strings. -/
theorem owned_strs {w : World} {base : Nat} {v : Value} {n : Nat} {ss : List ByteArray} (hl : ss.length = n) (h : w.ownsRow base 9 1 v n (ss.map Value.string)) :
    ∃ ao g cap, v = .slice ao n cap ∧ (0 < n → g < w.heap.size) ∧ AtHead ao g 0 n ∧ StrCells w g 0 n ss := by
  rcases h.2 with ⟨rfl, rfl⟩ | ⟨g, cap, cur, rfl, _, hg, _⟩
  · exact ⟨none, 0, 0, rfl, fun h => absurd h (by omega), fun h => absurd h (by omega), fun k hk => absurd hk (by omega)⟩
  · refine ⟨_, g, cap, rfl, fun _ => lt_of_block hg, fun _ => rfl, fun k hk => ?_⟩
    rw [Nat.zero_add, h.cellAt k (by omega)]
    exact strs_at ss k n hl hk

theorem empty_any (w : World) : Calls Try.prog 10 #[] w fun e w' => e = .returned (.pointer (some ⟨w.heap.size, 0, none⟩)) ∧ w.alloc (.cells #[.slice none 0 0] 63) = w' := by
  go_enter Try.func10, Try.ntmps10
  go_wp2
  go_ret
  exact ⟨rfl, rfl⟩

theorem owned_slice {w : World} {base : Nat} {e : TypeId} {size : Nat} {v : Value} {n : Nat} {xs : List Value} (h : w.ownsRow base e size v n xs) : ∃ ao cap, v = .slice ao n cap := by
  rcases h.2 with ⟨h1, h0⟩ | ⟨g, cap, _, hv, _⟩
  · exact ⟨none, 0, by rw [h1, h0]⟩
  · exact ⟨_, cap, hv⟩

theorem zero_given (w : World) : Calls Try.prog 14 #[given ⟨#[]⟩] w fun e w' => e = .returned (.bool true) ∧ Below w.heap.size w w' := zero_any w

set_option maxHeartbeats 1000000 in
theorem script_any (ao : Option Addr) (b off n cap : Nat) (ss : List ByteArray) (w : World) (hl : ss.length = n) (hbw : 0 < n → b < w.heap.size)
    (hnil : ao = none → n = 0) (hao : AtHead ao b off n) (hc : StrCells w b off n ss) :
    Calls Try.prog 3 #[.slice ao n cap] w fun e w' => e = .returned (.bool true) ∧ Below w.heap.size w w' := by
  have hby := bytes_any ao b off n cap ss w hao hc
  by_cases hbig : 65536 < (n : Int)
  · go_enter Try.func3, Try.ntmps3
    go_wp2_with (go_at_call 8; refine hby.mono ?_; rintro e w' ⟨⟨r, rfl⟩, hw⟩; have hw := hw.symm; subst hw; cases r)
    all_goals (go_ret; exact ⟨rfl, Below.refl _ _⟩)
  · have hd : decide (65536 < (n : Int)) = false := by simpa using hbig
    have hbig2 : n ≤ 65536 := by omega
    go_enter Try.func3, Try.ntmps3
    go_wp2_with (go_at_call 8; refine hby.mono ?_; rintro e w' ⟨⟨r, rfl⟩, hw⟩; have hw := hw.symm; subst hw; cases r)
    · go_ret
      exact ⟨rfl, Below.refl _ _⟩
    go_loop [3, 4] (fun t i => ∃ k m : Nat, k ≤ n ∧ m ≤ 1048576 ∧ i = .int .i64 k ∧ t = .int .i64 m) (fun _ i => n - (intOf i).toNat)
    case atStart => exact ⟨0, 16 * n, Nat.zero_le _, by omega, rfl, by go_num⟩
    case round =>
      obtain ⟨k, m, hk, hm, rfl, rfl⟩ := hrel
      by_cases hlt : k < n
      · have hao' := hao (by omega)
        subst hao'
        have hck := hc k hlt
        generalize ss.getD k ByteArray.empty = s at hck
        clear hby
        by_cases hs : 1048576 < (s.size : Int)
        · go_wp2
          go_ret
          exact ⟨rfl, Below.refl _ _⟩
        · by_cases hs2 : 1048576 < (m : Int) + (s.size : Int)
          · go_wp2
            go_ret
            exact ⟨rfl, Below.refl _ _⟩
          · go_wp2
            go_round
            case rel => exact ⟨k + 1, m + s.size, by omega, by omega, by go_num, by go_num⟩
            case measure => simp [intOf]; omega
      · clear hby
        go_wp2_with (go_at_call 9; refine (clone_any ao b off n cap ss _ hbig2 hl hbw hnil hao hc).mono ?_; rintro e w1 ⟨v, rfl, hown, hbel⟩; obtain ⟨ao1, g1, cap1, hv, hg1, hh1, hc1⟩ := owned_strs hl hown; subst hv)
        clear hown hnil hao hc hbw
        refine (empty_any w1).mono ?_
        rintro e w2 ⟨rfl, hw2⟩
        have hone : w2.heap[w1.heap.size]? = some (.cells #[.slice none 0 0] 63 (0, 0)) := by rw [← hw2]; exact heap_alloc_new w1 _
        have hb2 : Below w1.heap.size w1 w2 := by rw [← hw2]; exact (Below.refl _ _).alloc (Nat.le_refl _) _
        clear hw2
        generalize hBa : w1.heap.size = Ba at *
        have HBa : Hid (w1.heap.size = Ba) := hBa
        clear hBa
        go_wp2_with fail
        go_loopw [6] (fun i wr => ∃ (k : Nat) (va : Value), k ≤ n ∧ i = .int .i64 k ∧ wr.heap[Ba]? = some (.cells #[va] 63 (0, 0)) ∧ wr.ownsRow (Ba + 1) 66 16 va k (rows ss [] k) ∧ Below Ba w1 wr) (fun i _ => n - (intOf i).toNat)
        case atStart => exact ⟨0, _, Nat.zero_le _, rfl, hone, World.ownsRow_nil _ _ _ _, hb2⟩
        case round =>
          clear hone hb2
          obtain ⟨k, va, hk, rfl, hone, hown, hb2⟩ := hrel
          by_cases hlt : k < n
          · have hh := hh1 (by omega)
            subst hh
            have hck : wr.cell? ⟨g1, k, none⟩ = some (.string (ss.getD k ByteArray.empty)) := by
              rw [hb2.cell (p := ⟨g1, k, none⟩) (hg1 (by omega))]
              have := hc1 k hlt
              rwa [Nat.zero_add] at this
            have hset := zzset_any Ba va k (rows ss [] k) (ss.getD k ByteArray.empty) wr (by omega) hone hown
            rw [show rows ss [] k ++ entry (ss.getD k ByteArray.empty) ⟨#[]⟩ = rows ss [] (k + 1) from by simp [rows]] at hset
            generalize ss.getD k ByteArray.empty = s at hck hset
            clear hone hown
            have Hset := Hid.mk hset
            clear hset
            go_wp2_with fail
            refine Hset.out.mono ?_
            rintro e w3 ⟨rfl, va', hone, hown, hb3⟩
            obtain ⟨ao3, cap3, hv3⟩ := owned_slice hown
            subst hv3
            have hcl := cell_of_one hone
            clear Hset hck
            go_wp2_with (go_at_call 12; refine (len_any Ba ao3 (k + 1) cap3 _ hcl).mono ?_; rintro e w4 ⟨rfl, hw4⟩; have hw4 := hw4.symm; subst hw4)
            go_roundw
            case rel => exact ⟨k + 1, _, by omega, by go_num, hone, hown, hb2.trans hb3⟩
            case measure => simp [intOf]; omega
          · obtain rfl : k = n := by omega
            obtain ⟨w5, hw5⟩ : ∃ x, x = wr := ⟨_, rfl⟩
            subst hw5
            obtain ⟨ao3, cap3, hv3⟩ := owned_slice hown
            subst hv3
            have hcl := cell_of_one hone
            go_wp2_with (go_at_call 12; refine (len_any Ba ao3 k cap3 _ hcl).mono ?_; rintro e w4 ⟨rfl, hw4⟩; have hw4 := hw4.symm; subst hw4)
            have hb0 : Below w.heap.size w w5 := hbel.trans (hb2.mono (by rw [← HBa.out]; exact hbel.size))
            have hk0 : k ≤ 65536 := hbig2
            have hlB := lt_of_block hone
            have hg1r : 0 < k → g1 < w5.heap.size := fun h => by have h1 := hg1 h; omega
            go_loopw [7] (fun i wr => ∃ (j : Nat), j ≤ k ∧ i = .int .i64 j ∧ Below w5.heap.size w5 wr) (fun i _ => k - (intOf i).toNat)
            case atStart => exact ⟨0, Nat.zero_le _, rfl, Below.refl _ _⟩
            case round =>
              obtain ⟨j, hj, rfl, hb3⟩ := hrel
              by_cases hlt : j < k
              · have hh := hh1 (by omega)
                subst hh
                obtain ⟨g, cp, hv⟩ := owned_shape hown (by omega)
                simp only [Value.slice.injEq, true_and] at hv
                obtain ⟨hao3, hcp⟩ := hv
                subst hao3 hcp
                have hgl := hown.lt g rfl
                have ent : ∀ i u, (entry (ss.getD j ByteArray.empty) ⟨#[]⟩)[i]? = some u → w5.cell? ⟨g, j * 16 + i, none⟩ = some u := by
                  intro i u hu
                  have hi : i < 16 := by have := (List.getElem?_eq_some_iff.1 hu).1; simpa [entry] using this
                  rw [hown.cellAt (j * 16 + i) (by omega)]
                  exact rows_at ss [] k j i u hlt (by simpa using hu)
                have hck : w5.cell? ⟨g1, j, none⟩ = some (.string (ss.getD j ByteArray.empty)) := by
                  rw [hb2.cell (p := ⟨g1, j, none⟩) (hg1 (by omega))]
                  have := hc1 j hlt
                  rwa [Nat.zero_add] at this
                have hck3 := cell_later hb3 hck
                have hcl3 := cell_later hb3 hcl
                have hfile := cell_later hb3 (ent 0 _ rfl)
                rw [Nat.add_zero] at hfile
                have hfl := fun nq => file_any Ba g k cap3 j (ss.getD j ByteArray.empty) (wr.drewN nq) hcl3 hlt hfile
                have hsz := hb3.size
                generalize ss.getD j ByteArray.empty = s at *
                have Hent := Hid.mk ent
                have Hfl := Hid.mk hfl
                clear ent hfl hown hone hcl hck hfile hc1 hb0
                go_wp2_with fail
                go_quiet ((go_at_call 13; exact Calls.quiet_of_same (Hfl.out _)))
                have hgv := given_any Ba g k cap3 j s ⟨#[]⟩ (wr.drewN nq) (by simp; omega) (by simp; omega) (by simpa using hcl3) hlt (fun i u hu => by rw [World.cell?_drewN]; exact cell_later hb3 (Hent.out i u hu))
                have hb4 : Below w5.heap.size w5 (wr.drewN nq) := below_drewN hb3 nq
                have Hgv := Hid.mk hgv
                clear hgv Hent Hfl hck3 hcl3
                go_wp2_with fail
                refine Hgv.out.mono ?_
                rintro e w6 ⟨rfl, hb6⟩
                have hb7 : Below w5.heap.size w5 w6 := hb4.trans (hb6.mono hb4.size)
                clear Hgv
                go_wp2_with fail
                refine (zero_given w6).mono ?_
                rintro e w7 ⟨rfl, hb8⟩
                have hb9 : Below w5.heap.size w5 w7 := hb7.trans (hb8.mono hb7.size)
                go_wp2
                go_roundw
                case rel => exact ⟨j + 1, by omega, by go_num, hb9⟩
                case measure => simp [intOf]; omega
              · go_wp2
                go_ret
                exact ⟨rfl, hb0.trans (hb3.mono hb0.size)⟩
end Go.Proofs.Qxb6604442a
