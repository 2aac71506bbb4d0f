import Derived.Test.Qxb6604446aRows
import Derived.Test.Qxb6604446aShelf
import Derived.WalkKit
import Derived.WalkSpells
import Derived.WalkLawsBesides
import Derived.Laws.BitsAllLaws
namespace Go.Proofs.Qxb6604446a
open Go.RowKit

theorem Hid.mk {p : Prop} (h : p) : Hid p := h

def names : List ByteArray := [⟨#[100, 111, 110, 101]⟩, ⟨#[114, 117, 110, 110, 105, 110, 103]⟩, ⟨#[115, 116, 97, 108, 101]⟩, ⟨#[119, 97, 105, 116, 101, 100]⟩]

/-- The names of the flags set among the first k bits. -/
def sel (m : Nat) : Nat → List ByteArray
  | 0 => []
  | k + 1 => sel m k ++ (if m.testBit k then [names.getD k ⟨#[]⟩] else [])

theorem sel_le (m k : Nat) : (sel m k).length ≤ k := by
  induction k with
  | zero => simp [sel]
  | succ k ih => rw [sel, List.length_append]; split <;> simp <;> omega

theorem sel_hit (m k : Nat) (h : m.testBit k = true) : (sel m (k + 1)) = sel m k ++ [names.getD k ⟨#[]⟩] := by rw [sel, if_pos h]
theorem sel_miss (m k : Nat) (h : ¬ m.testBit k = true) : (sel m (k + 1)) = sel m k := by rw [sel, if_neg h, List.append_nil]

theorem bit_test (x : Nat) (hx : x < 4294967296) (k : Nat) (hk : k < 32) : (bits BinOp.and IntKind.u32 (x : Int) ((2 ^ k : Nat) : Int) != 0) = x.testBit k := by
  have hp : 2 ^ k < 4294967296 := by
    have : 2 ^ k < 2 ^ 32 := Nat.pow_lt_pow_right (by omega) hk
    simpa using this
  rw [u32_and_nat x (2 ^ k) hx hp, nat_bit, Nat.testBit_eq_decide_div_mod_eq]
  have h2 : 0 < 2 ^ k := Nat.two_pow_pos k
  generalize 2 ^ k = p at *
  rcases Nat.mod_two_eq_zero_or_one (x / p) with h | h
  · simp [h]
  · rw [h, Nat.one_mul, decide_eq_true (rfl : (1 : Nat) = 1), bne_iff_ne]; omega

theorem Try.info9 : (Try.prog.info? 9).map (fun i => (i.zero, i.size, i.bytes)) = some (some (.string ⟨#[]⟩), 1, 16) := by kernel_rfl

theorem add_step {w wr w1 : World} {v v' : Value} {o o' : Obj} {m k : Nat} {l : ByteArray} (hs : sel m (k + 1) = sel m k ++ [l]) (hb : Below w.heap.size w wr) (hh : wr.heap[w.heap.size]? = some o')
    (hown : wr.ownsRow (w.heap.size + 1) 9 1 v (sel m k).length ((sel m k).map Value.string)) (hg : (wr.alloc o).grownBy w1 v.ownBlock)
    (ho : w1.ownsRow (w.heap.size + 1) 9 1 v' ((sel m k).length + 1) ((sel m k).map Value.string ++ [.string l])) :
    w1.ownsRow (w.heap.size + 1) 9 1 v' (sel m (k + 1)).length ((sel m (k + 1)).map Value.string) ∧ w1.heap[w.heap.size]? = some o' ∧ Below w.heap.size w w1 := by
  have hl := lt_of_block hh
  refine ⟨by rw [hs]; simpa using ho, ?_, ?_⟩
  · rw [hg.block w.heap.size (by simp; omega) (fun h => by have := hown.lt _ h.symm; omega)]
    exact (Below.heap_alloc wr o _ hl).trans hh
  · exact (hb.alloc hb.size o).grown hg (by simp; have := hb.size; omega) (fun j hj => by have := hown.lt j hj; omega)

/-- The text of a state that is not 0. -/
def txt (x : Nat) : ByteArray := ⟨(Lib.join ((sel x 4).map (·.data.toList)) [124]).toArray⟩

theorem join_small (x : Nat) : (Lib.join ((sel x 4).map (·.data.toList)) [124]).length ≤ 140737488355328 := by
  simp only [sel]
  cases x.testBit 0 <;> cases x.testBit 1 <;> cases x.testBit 2 <;> cases x.testBit 3 <;> decide

set_option maxHeartbeats 1000000 in
theorem str_any (x : Nat) (hx : x < 4294967296) (h0 : x ≠ 0) (w : World) :
    Calls Try.prog 12 #[.int .u32 x] w fun e w' => e = .returned (.string (txt x)) ∧ Below w.heap.size w w' := by
  have hz : ((x : Int) == 0) = false := beq_eq_false_iff_ne.2 (by omega)
  obtain ⟨i0, hi, hz0, hz1, hz2⟩ := info_parts Try.info9
  go_enter Try.func12, Try.ntmps12
  go_wp2
  go_loopw [3, 10] (fun v i wr => ∃ k : Nat, k ≤ 4 ∧ i = .int .i64 k ∧ wr.ownsRow (w.heap.size + 1) 9 1 v (sel x k).length ((sel x k).map Value.string) ∧ wr.heap[w.heap.size]? = some (.cells #[.string ⟨#[100, 111, 110, 101]⟩, .string ⟨#[114, 117, 110, 110, 105, 110, 103]⟩, .string ⟨#[115, 116, 97, 108, 101]⟩, .string ⟨#[119, 97, 105, 116, 101, 100]⟩] 9 (0, 0)) ∧ Below w.heap.size w wr) (fun _ i _ => 4 - (intOf i).toNat)
  case atStart => exact ⟨0, by omega, rfl, World.ownsRow_nil _ _ _ _, heap_alloc_new w _, (Below.refl _ _).alloc (Nat.le_refl _) _⟩
  case round =>
    obtain ⟨k, hk, rfl, hown, hh, hb⟩ := hrel
    rcases (show k = 0 ∨ k = 1 ∨ k = 2 ∨ k = 3 ∨ k = 4 by omega) with rfl | rfl | rfl | rfl | rfl
    · have c : wr.cell? ⟨w.heap.size, 0, none⟩ = some (.string ⟨#[100, 111, 110, 101]⟩) := by simp [World.cell?, hh]
      have hbt := bit_test x hx 0 (by omega)
      rw [show (2 : Nat) ^ 0 = 1 from rfl] at hbt
      by_cases hbit : x.testBit 0
      · have ht : (bits BinOp.and IntKind.u32 (x : Int) 1 != 0) = true := by rw [hbit] at hbt; exact hbt
        clear hbt
        have HS := Hid.mk (sel_hit x 0 hbit)
        clear hbit
        go_wp2_with (at_builtin; refine wpList_append_own _ rfl _ _ 41 rfl (w.heap.size + 1) 9 i0 (.string ⟨#[]⟩) 1 16 Try.underlying41 hi hz0 hz1 hz2 rfl (by decide) _ _ _ rfl (hown.alloc _) ⟨wr.heap.size, 0, none⟩ 1 1 [.string ⟨#[100, 111, 110, 101]⟩] rfl rfl (cell_one_new _ _ _) (by intro u hu; simp at hu; subst hu; rfl) (by have := sel_le x 0; unfold maxLen; omega) (by have := sel_le x 0; omega) (by have := hb.size; have := lt_of_block hh; simp; omega) ?_)
        intro v' w1 hown' hgrow _
        have R := add_step HS.out hb hh hown hgrow hown'
        clear hgrow hown hh hb hown'
        go_wp2
        go_roundw
        case rel => exact ⟨1, by omega, rfl, R.1, R.2.1, R.2.2⟩
        case measure => simp [intOf]
      · have ht : (bits BinOp.and IntKind.u32 (x : Int) 1 != 0) = false := by rw [Bool.not_eq_true] at hbit; rw [hbit] at hbt; exact hbt
        clear hbt
        rw [← sel_miss x 0 hbit] at hown
        clear hbit
        go_wp2
        go_roundw
        case rel => exact ⟨1, by omega, rfl, hown, hh, hb⟩
        case measure => simp [intOf]
    · have c : wr.cell? ⟨w.heap.size, 1, none⟩ = some (.string ⟨#[114, 117, 110, 110, 105, 110, 103]⟩) := by simp [World.cell?, hh]
      have hbt := bit_test x hx 1 (by omega)
      rw [show (2 : Nat) ^ 1 = 2 from rfl] at hbt
      by_cases hbit : x.testBit 1
      · have ht : (bits BinOp.and IntKind.u32 (x : Int) 2 != 0) = true := by rw [hbit] at hbt; exact hbt
        clear hbt
        have HS := Hid.mk (sel_hit x 1 hbit)
        clear hbit
        go_wp2_with (at_builtin; refine wpList_append_own _ rfl _ _ 41 rfl (w.heap.size + 1) 9 i0 (.string ⟨#[]⟩) 1 16 Try.underlying41 hi hz0 hz1 hz2 rfl (by decide) _ _ _ rfl (hown.alloc _) ⟨wr.heap.size, 0, none⟩ 1 1 [.string ⟨#[114, 117, 110, 110, 105, 110, 103]⟩] rfl rfl (cell_one_new _ _ _) (by intro u hu; simp at hu; subst hu; rfl) (by have := sel_le x 1; unfold maxLen; omega) (by have := sel_le x 1; omega) (by have := hb.size; have := lt_of_block hh; simp; omega) ?_)
        intro v' w1 hown' hgrow _
        have R := add_step HS.out hb hh hown hgrow hown'
        clear hgrow hown hh hb hown'
        go_wp2
        go_roundw
        case rel => exact ⟨2, by omega, rfl, R.1, R.2.1, R.2.2⟩
        case measure => simp [intOf]
      · have ht : (bits BinOp.and IntKind.u32 (x : Int) 2 != 0) = false := by rw [Bool.not_eq_true] at hbit; rw [hbit] at hbt; exact hbt
        clear hbt
        rw [← sel_miss x 1 hbit] at hown
        clear hbit
        go_wp2
        go_roundw
        case rel => exact ⟨2, by omega, rfl, hown, hh, hb⟩
        case measure => simp [intOf]
    · have c : wr.cell? ⟨w.heap.size, 2, none⟩ = some (.string ⟨#[115, 116, 97, 108, 101]⟩) := by simp [World.cell?, hh]
      have hbt := bit_test x hx 2 (by omega)
      rw [show (2 : Nat) ^ 2 = 4 from rfl] at hbt
      by_cases hbit : x.testBit 2
      · have ht : (bits BinOp.and IntKind.u32 (x : Int) 4 != 0) = true := by rw [hbit] at hbt; exact hbt
        clear hbt
        have HS := Hid.mk (sel_hit x 2 hbit)
        clear hbit
        go_wp2_with (at_builtin; refine wpList_append_own _ rfl _ _ 41 rfl (w.heap.size + 1) 9 i0 (.string ⟨#[]⟩) 1 16 Try.underlying41 hi hz0 hz1 hz2 rfl (by decide) _ _ _ rfl (hown.alloc _) ⟨wr.heap.size, 0, none⟩ 1 1 [.string ⟨#[115, 116, 97, 108, 101]⟩] rfl rfl (cell_one_new _ _ _) (by intro u hu; simp at hu; subst hu; rfl) (by have := sel_le x 2; unfold maxLen; omega) (by have := sel_le x 2; omega) (by have := hb.size; have := lt_of_block hh; simp; omega) ?_)
        intro v' w1 hown' hgrow _
        have R := add_step HS.out hb hh hown hgrow hown'
        clear hgrow hown hh hb hown'
        go_wp2
        go_roundw
        case rel => exact ⟨3, by omega, rfl, R.1, R.2.1, R.2.2⟩
        case measure => simp [intOf]
      · have ht : (bits BinOp.and IntKind.u32 (x : Int) 4 != 0) = false := by rw [Bool.not_eq_true] at hbit; rw [hbit] at hbt; exact hbt
        clear hbt
        rw [← sel_miss x 2 hbit] at hown
        clear hbit
        go_wp2
        go_roundw
        case rel => exact ⟨3, by omega, rfl, hown, hh, hb⟩
        case measure => simp [intOf]
    · have c : wr.cell? ⟨w.heap.size, 3, none⟩ = some (.string ⟨#[119, 97, 105, 116, 101, 100]⟩) := by simp [World.cell?, hh]
      have hbt := bit_test x hx 3 (by omega)
      rw [show (2 : Nat) ^ 3 = 8 from rfl] at hbt
      by_cases hbit : x.testBit 3
      · have ht : (bits BinOp.and IntKind.u32 (x : Int) 8 != 0) = true := by rw [hbit] at hbt; exact hbt
        clear hbt
        have HS := Hid.mk (sel_hit x 3 hbit)
        clear hbit
        go_wp2_with (at_builtin; refine wpList_append_own _ rfl _ _ 41 rfl (w.heap.size + 1) 9 i0 (.string ⟨#[]⟩) 1 16 Try.underlying41 hi hz0 hz1 hz2 rfl (by decide) _ _ _ rfl (hown.alloc _) ⟨wr.heap.size, 0, none⟩ 1 1 [.string ⟨#[119, 97, 105, 116, 101, 100]⟩] rfl rfl (cell_one_new _ _ _) (by intro u hu; simp at hu; subst hu; rfl) (by have := sel_le x 3; unfold maxLen; omega) (by have := sel_le x 3; omega) (by have := hb.size; have := lt_of_block hh; simp; omega) ?_)
        intro v' w1 hown' hgrow _
        have R := add_step HS.out hb hh hown hgrow hown'
        clear hgrow hown hh hb hown'
        go_wp2
        go_roundw
        case rel => exact ⟨4, by omega, rfl, R.1, R.2.1, R.2.2⟩
        case measure => simp [intOf]
      · have ht : (bits BinOp.and IntKind.u32 (x : Int) 8 != 0) = false := by rw [Bool.not_eq_true] at hbit; rw [hbit] at hbt; exact hbt
        clear hbt
        rw [← sel_miss x 3 hbit] at hown
        clear hbit
        go_wp2
        go_roundw
        case rel => exact ⟨4, by omega, rfl, hown, hh, hb⟩
        case measure => simp [intOf]
    · have hj := join_small x
      rcases hown.2 with ⟨hv, hn⟩ | ⟨g, cap, cur, hv, _, hg, hnc, _⟩
      · have hnil : sel x 4 = [] := List.eq_nil_of_length_eq_zero hn
        have ht : txt x = ⟨#[]⟩ := by unfold txt; rw [hnil]; rfl
        have Ht := Hid.mk ht
        clear ht hn hown hj hnil
        subst hv
        go_wp2_with (go_at_call 17; refine (Try.strings_Join_none _ _ _ _).mono ?_; rintro e w' ⟨rfl, hw⟩; have hw := hw.symm; subst hw)
        go_ret
        exact ⟨by rw [Ht.out]; rfl, hb⟩
      · have hcells : ∀ (j : Nat) (y : ByteArray), (sel x 4)[j]? = some y → wr.cell? ⟨g, 0 + j, none⟩ = some (.string y) := by
          intro j y hy
          have hj2 := (List.getElem?_eq_some_iff.1 hy).1
          rw [hv] at hown
          rw [Nat.zero_add, hown.cellAt j (by omega), List.getElem?_map, hy]
          rfl
        have hJ := Try.strings_Join g 0 cap (sel x 4) ⟨#[124]⟩ wr hcells (lt_of_block hg) (by have := sel_le x 4; omega) hnc hj
        have HJ := Hid.mk hJ
        have ht : (⟨(Lib.join ((sel x 4).map (·.data.toList)) [124]).toArray⟩ : ByteArray) = txt x := rfl
        have Ht := Hid.mk ht
        clear hcells hJ hj hown ht hg
        subst hv
        go_wp2_with fail
        refine HJ.out.mono ?_
        rintro e w' ⟨rfl, hb2⟩
        clear HJ
        go_wp2
        go_ret
        exact ⟨rfl, hb.trans (hb2.mono hb.size)⟩

end Go.Proofs.Qxb6604446a
