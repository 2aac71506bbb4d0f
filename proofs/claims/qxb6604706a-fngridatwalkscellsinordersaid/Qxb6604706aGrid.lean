import Derived.Test.Qxb6604706aParts
namespace Go.Proofs.Qxb6604706a
open Go.RowKit

def AtHead (ao : Option Addr) (b off n : Nat) : Prop := 0 < n → ao = some ⟨b, off, none⟩
def FloatCells (w : World) (b off n : Nat) (xs : List Nat) : Prop := ∀ k, k < n → w.cell? ⟨b, off + k, none⟩ = some (.float .f64 (xs.getD k 0))

/-- The clone's row behind k rounds. -/
def half (vs : List Value) (z : Value) (n k : Nat) : List Value := vs.take k ++ List.replicate (n - k) z

theorem half_zero (vs : List Value) (z : Value) (n : Nat) : half vs z n 0 = List.replicate n z := by simp [half]
theorem half_all (vs : List Value) (z : Value) (n : Nat) (h : vs.length = n) : half vs z n n = vs := by simp [half, List.take_of_length_le (Nat.le_of_eq h)]
theorem half_set (vs : List Value) (z : Value) (n k : Nat) (v : Value) (h : vs.length = n) (hk : k < n) (hv : vs[k]? = some v) : (half vs z n k).set k v = half vs z n (k + 1) := by
  obtain ⟨m, hm⟩ : ∃ m, n - k = m + 1 := ⟨n - k - 1, by omega⟩
  have hl : (vs.take k).length = k := by rw [List.length_take]; omega
  have hm' : n - (k + 1) = m := by omega
  unfold half
  rw [hm, hm', List.set_append_right _ _ (by omega), hl, Nat.sub_self, List.replicate_succ, List.set_cons_zero]
  obtain ⟨h1, rfl⟩ := List.getElem?_eq_some_iff.1 hv
  rw [List.take_succ_eq_append_getElem h1, List.append_assoc]
  rfl

theorem fl_at (xs : List Nat) (k n : Nat) (h : xs.length = n) (hk : k < n) : (xs.map (Value.float .f64))[k]? = some (.float .f64 (xs.getD k 0)) := by
  simp [show k < xs.length by omega]

theorem Try.info28 : (Try.prog.info? 28).map (fun i => (i.zero, i.size, i.bytes)) = some (some (.float .f64 0), 1, 8) := by kernel_rfl

theorem clone_any (a : Addr) (b off n cap : Nat) (xs : List Nat) (w : World) (hn : n ≤ 131072) (hl : xs.length = n) (hbw : 0 < n → b < w.heap.size)
    (hao : AtHead (some a) b off n) (hc : FloatCells w b off n xs) :
    Calls Try.prog 11 #[.slice (some a) n cap] w fun e w' => e = .returned (.slice (some ⟨w.heap.size, 0, none⟩) n n) ∧ w'.ownsRow w.heap.size 28 1 (.slice (some ⟨w.heap.size, 0, none⟩) n n) n (xs.map (Value.float .f64)) ∧ Below w.heap.size w w' := by
  have q22 : ∀ (w : World) (a : Option Addr) (n c n' c' : Nat), (binOp .eql 22 (.slice a n c) (.slice none n' c')).run Try.prog w = .ok (.bool a.isNone) w := fun w a n c n' c' => Lib.run_eql_slice_nil w _ _ a n c n' c' Try.underlying22
  have hsf : ∀ (W : World) (a : Addr) (x : Nat) (m : Mode), (store a (.float .f64 x) m).run Try.prog W = stored Try.prog W a (.float .f64 x) m := fun W a x m => run_store Try.prog W a _ m rfl
  obtain ⟨i0, hi, hz0, hz1, hz2⟩ := info_parts Try.info28
  go_enter Try.func11, Try.ntmps11
  go_wp2_with (at_make; refine wpList_make_full _ rfl _ _ 22 rfl w.heap.size 28 i0 (.float .f64 0) 1 Try.underlying22 hi hz0 hz1 _ _ _ _ n rfl rfl rfl rfl (by rw [hz2]; omega) (by unfold maxLen; omega) (Nat.le_refl _) ?_)
  intro w1 hown hgr
  rw [show (madeCells #[Value.float .f64 0] n).toList = half (xs.map (Value.float .f64)) (.float .f64 0) n 0 from by rw [half_zero]; exact toList_madeCells_one _ _] at hown
  have hbel : Below w.heap.size w w1 := (Below.refl _ _).grown hgr (Nat.le_refl _) (by simp)
  clear hgr hi hz0 hz1 hz2
  go_wp2
  go_loopw [4] (fun i wr => ∃ k : Nat, k ≤ n ∧ i = .int .i64 k ∧ wr.ownsRow w.heap.size 28 1 (.slice (some ⟨w.heap.size, 0, none⟩) n n) n (half (xs.map (Value.float .f64)) (.float .f64 0) n k) ∧ Below w.heap.size w wr) (fun i _ => n - (intOf i).toNat)
  case atStart => exact ⟨0, Nat.zero_le _, rfl, hown, hbel⟩
  case round =>
    clear hown hbel
    obtain ⟨k, hk, rfl, hown, hbel⟩ := hrel
    by_cases hlt : k < n
    · have hao' := Option.some.inj (hao (by omega))
      subst hao'
      have hck : wr.cell? ⟨b, off + k, none⟩ = some (.float .f64 (xs.getD k 0)) := (hbel.cell (p := ⟨b, off + k, none⟩) (hbw (by omega))).trans (hc k hlt)
      have hfz := hown.frozenAt k
      have hst := (hown.stored k (.float .f64 (xs.getD k 0))).1
      have hb2 := hbel.setCell (p := ⟨w.heap.size, k, none⟩) (Nat.le_refl _) (.float .f64 (xs.getD k 0))
      rw [half_set _ _ n k _ (by simpa using hl) hlt (fl_at xs k n hl hlt)] at hst
      have hol : ∃ u, wr.cell? ⟨w.heap.size, k, none⟩ = some u := ⟨(half (xs.map (Value.float .f64)) (.float .f64 0) n k)[k]'(by rw [hown.1]; omega), by rw [hown.cellAt k (by omega)]; simp⟩
      obtain ⟨u, hu⟩ := hol
      clear hown hbel
      generalize xs.getD k 0 = s at *
      have Hst := Hid.mk hst
      clear hst
      go_wp2
      go_roundw
      case rel => exact ⟨k + 1, by omega, by go_num, Hst.out, hb2⟩
      case measure => simp [intOf]; omega
    · obtain rfl : k = n := by omega
      rw [half_all _ _ k (by simpa using hl)] at hown
      go_wp2
      go_ret
      exact ⟨rfl, hown, hbel⟩

theorem wrap_small (a : Int) (h0 : 0 ≤ a) (h : a ≤ 9223372036854775807) : IntKind.i64.wrap a = a := by
  rw [IntKind.wrap_i64]; omega
theorem wrap_back (a b j : Int) (ha : 0 ≤ a) (ha2 : a ≤ 1048576) (hj : 0 ≤ j) (hj2 : j ≤ 1048576) : IntKind.i64.wrap (IntKind.i64.wrap (a + (b + j)) - b) = a + j := by
  rw [IntKind.wrap_i64, IntKind.wrap_i64]; omega

/-- The index that 'At' reckons. -/
theorem idx (i F H j L D m K : Nat) (hiH : i * H ≤ 1048576) (hj : j ≤ 1048576) (hH : H ≤ 1048576) (hD : D ≤ 1048576) (hm : m ≤ 1048576) (hq : (i * H + j) * D ≤ 1048576) (hK : (i * H + j) * D + m = K) :
    IntKind.i64.wrap (IntKind.i64.wrap (IntKind.i64.wrap (IntKind.i64.wrap (IntKind.i64.wrap (IntKind.i64.wrap ((i : Int) * IntKind.i64.wrap (((F : Int) + H) - F)) + ((F : Int) + j)) - F) * IntKind.i64.wrap (((L : Int) + D) - L)) + ((L : Int) + m)) - L) = (K : Int) := by
  have e1 : IntKind.i64.wrap (((F : Int) + H) - F) = (H : Int) := by rw [show ((F : Int) + H) - F = (H : Int) by omega]; exact wrap_small _ (by omega) (by omega)
  have e2 : IntKind.i64.wrap (((L : Int) + D) - L) = (D : Int) := by rw [show ((L : Int) + D) - L = (D : Int) by omega]; exact wrap_small _ (by omega) (by omega)
  have e3 : (i : Int) * (H : Int) = ((i * H : Nat) : Int) := by simp
  rw [e1, e2, e3]
  generalize i * H = P at *
  rw [wrap_small (P : Int) (by omega) (by omega), wrap_back (P : Int) (F : Int) (j : Int) (by omega) (by omega) (by omega) (by omega)]
  have e4 : ((P : Int) + j) * (D : Int) = (((P + j) * D : Nat) : Int) := by simp
  rw [e4]
  generalize (P + j) * D = Q at *
  rw [wrap_small (Q : Int) (by omega) (by omega), wrap_back (Q : Int) (L : Int) (m : Int) (by omega) (by omega) (by omega) (by omega)]
  omega
end Go.Proofs.Qxb6604706a
