import Derived.Test.Qxb6604442aArch
import Derived.Deep.RegionLaw
import Derived.Deep.AppendLies
import Derived.Deep.DrawnRows
namespace Go.Proofs.Qxb6604442a
open Go.RowKit

/-- Blocks of unlike element types are apart. -/
theorem own_apart {w : World} {B Ba size n : Nat} {e t : TypeId} {c : Array Value} {v : Value} {xs : List Value} (hne : e ≠ t) (h : w.heap[Ba]? = some (.cells c t (0, 0))) (ho : w.ownsRow B e size v n xs) : v.ownBlock ≠ some Ba := by
  intro hv
  rcases ho.2 with ⟨rfl, _⟩ | ⟨g, cap, cur, rfl, _, hg, _⟩
  · simp [Value.ownBlock] at hv
  · simp [Value.ownBlock] at hv
    subst hv
    rw [h] at hg
    simp at hg
    exact hne hg.2.symm

theorem own_below {w : World} {B b size n : Nat} {e : TypeId} {v : Value} {xs : List Value} (ho : w.ownsRow B e size v n xs) (hb : b < B) : v.ownBlock ≠ some b := fun h => by
  have := (ho.lt b h).1
  omega

theorem grown_block {wr w1 : World} {o : Obj} {row : Option Nat} {Ba : Nat} (hg : (wr.alloc o).drew.grownBy w1 row) (hl : Ba < wr.heap.size) (hne : some Ba ≠ row) :
    w1.cell? ⟨Ba, 0, none⟩ = wr.cell? ⟨Ba, 0, none⟩ ∧ w1.frozen? ⟨Ba, 0, none⟩ = wr.frozen? ⟨Ba, 0, none⟩ := by
  have h : w1.heap[Ba]? = wr.heap[Ba]? := (hg.block Ba (by simp; omega) hne).trans (Below.heap_alloc wr o Ba hl)
  exact ⟨World.cell?_of_block h, World.frozen?_of_block h⟩

set_option maxHeartbeats 400000 in
theorem set_gen (B Ba : Nat) (va : Value) (k : Nat) (xs : List Value) (s : ByteArray) (w : World) (hk : k ≤ 65536) (hB : B ≤ Ba) (hcell : w.heap[Ba]? = some (.cells #[va] 63 (0,0))) (hown : w.ownsRow B 66 16 va k xs) :
   Calls Try.prog 34 #[.pointer (some ⟨Ba,0,none⟩), .string s] w fun e w' => e = .returned .nilIface ∧ ∃ va', w'.heap[Ba]? = some (.cells #[va'] 63 (0,0)) ∧ w'.ownsRow B 66 16 va' (k+1) (xs ++ entry s ⟨#[]⟩) ∧ Below B w w' := by
  have hc := cell_of_one hcell
  obtain ⟨i0, hi, hz0, hz1, hz2⟩ := info_parts Try.info66
  have hlt := lt_of_block hcell
  have hap := own_apart (by decide) hcell hown
  go_enter Try.func34, Try.ntmps34
  go_wp2_with (at_builtin; refine wpList_append_own _ rfl _ _ 63 rfl B 66 i0 _ 16 264 Try.underlying63 hi hz0 hz1 hz2 rfl (by decide) va k xs rfl (hown.alloc _) ⟨w.heap.size, 0, none⟩ 1 1 (entry s ⟨#[]⟩) rfl rfl ?c1 ?c2 ?c3 ?c4 ?c5 ?_)
  case c1 => exact row_cells w (entry s ⟨#[]⟩) 66
  case c2 => exact entry_one s _
  case c3 => unfold maxLen; omega
  case c4 => omega
  case c5 => simp; omega
  intro v' w1 hown' hgrow _
  obtain ⟨g, cp, hv⟩ := owned_shape hown' (by omega)
  subst hv
  have hold : w1.heap[Ba]? = some (.cells #[va] 63 (0,0)) := by
    rw [hgrow.block Ba (by simp; omega) (fun h => hap h.symm)]
    exact (Below.heap_alloc w _ Ba hlt).trans hcell
  have hb1 : Below B w w1 := ((Below.refl B w).alloc (by omega) _).grown hgrow (by simp; omega) (fun j hj => by have := hown.lt j hj; omega)
  have hc1 := cell_of_one hold
  have hf1 := free_of_one hold
  have hown2 := ownsRow_setCell_other (a := ⟨Ba, 0, none⟩) hown' (own_apart (by decide) hold hown') (.slice (some ⟨g, 0, none⟩) (k + 1) cp)
  have hb2 := hb1.setCell (p := ⟨Ba, 0, none⟩) hB (.slice (some ⟨g, 0, none⟩) (k + 1) cp)
  have hone := one_setCell (u := .slice (some ⟨g, 0, none⟩) (k + 1) cp) hold
  clear hown hown' hgrow hb1 hi hz0 hz1 hz2 hcell hold hap
  go_wp2
  go_ret
  exact ⟨rfl, _, hone, hown2, hb2⟩

theorem zzset_gen (B Ba : Nat) (va : Value) (k : Nat) (xs : List Value) (s : ByteArray) (w : World) (hk : k ≤ 65536) (hB : B ≤ Ba) (hcell : w.heap[Ba]? = some (.cells #[va] 63 (0,0))) (hown : w.ownsRow B 66 16 va k xs) :
   Calls Try.prog 11 #[.pointer (some ⟨Ba,0,none⟩), .string s] w fun e w' => e = .returned .nilIface ∧ ∃ va', w'.heap[Ba]? = some (.cells #[va'] 63 (0,0)) ∧ w'.ownsRow B 66 16 va' (k+1) (xs ++ entry s ⟨#[]⟩) ∧ Below B w w' := by
  go_enter Try.func11, Try.ntmps11
  go_wp2_with (go_at_call 34; refine (set_gen B Ba va k xs s _ hk hB hcell hown).mono ?_; rintro e w' ⟨rfl, hq⟩)
  go_ret
  exact ⟨rfl, hq⟩

theorem with_step {w wr w1 : World} {o : Obj} {Ba k gg cp : Nat} {va : Value} {xs ys : List Value} (hB : w.heap.size ≤ Ba) (hb0 : Below w.heap.size w wr) (hone : wr.heap[Ba]? = some (.cells #[va] 63 (0, 0)))
    (hown : wr.ownsRow w.heap.size 66 16 va k xs) (hg : (wr.alloc o).drew.grownBy w1 va.ownBlock) (ho : w1.ownsRow w.heap.size 66 16 (.slice (some ⟨gg, 0, none⟩) (k + 1) cp) (k + 1) ys) :
    (w1.setCell ⟨Ba, 0, none⟩ (.slice (some ⟨gg, 0, none⟩) (k + 1) cp)).heap[Ba]? = some (.cells #[.slice (some ⟨gg, 0, none⟩) (k + 1) cp] 63 (0, 0)) ∧
    (w1.setCell ⟨Ba, 0, none⟩ (.slice (some ⟨gg, 0, none⟩) (k + 1) cp)).ownsRow w.heap.size 66 16 (.slice (some ⟨gg, 0, none⟩) (k + 1) cp) (k + 1) ys ∧
    Below w.heap.size w (w1.setCell ⟨Ba, 0, none⟩ (.slice (some ⟨gg, 0, none⟩) (k + 1) cp)) := by
  have hl := lt_of_block hone
  have hap := own_apart (by decide) hone hown
  have hs := hb0.size
  have hold : w1.heap[Ba]? = some (.cells #[va] 63 (0, 0)) := ((hg.block Ba (by simp; omega) (Ne.symm hap)).trans (Below.heap_alloc wr o Ba hl)).trans hone
  have hb1 : Below w.heap.size w w1 := ((hb0.alloc hs o).drew).grown hg (by simp; omega) (fun j hj => (hown.lt j hj).1)
  exact ⟨one_setCell hold, ownsRow_setCell_other ho (own_apart (by decide) hold ho) _, hb1.setCell hB _⟩

set_option maxRecDepth 100000 in
set_option maxHeartbeats 1000000 in
theorem with_any (ao : Option Addr) (b off n cap : Nat) (ss : List ByteArray) (ao2 : Option Addr) (b2 off2 cap2 : Nat) (ss2 : List ByteArray) (w : World) (hn : n ≤ 65536)
    (hbw : 0 < n → b < w.heap.size) (hbw2 : 0 < n → b2 < w.heap.size)
    (hao : AtHead ao b off n) (hc : StrCells w b off n ss) (hao2 : AtHead ao2 b2 off2 n) (hc2 : StrCells w b2 off2 n ss2) :
    Calls Try.prog 17 #[.slice ao n cap, .slice ao2 n cap2] w fun e w' => ∃ Ba va, e = .returned (.pointer (some ⟨Ba, 0, none⟩)) ∧ w.heap.size ≤ Ba ∧ w'.heap[Ba]? = some (.cells #[va] 63 (0,0)) ∧
      w'.ownsRow w.heap.size 66 16 va n (rows ss ss2 n) ∧ Below w.heap.size w w' := by
  go_enter Try.func17, Try.ntmps17
  go_wp2
  obtain ⟨i0, hi, hz0, hz1, hz2⟩ := info_parts Try.info66
  generalize hw0 : (w.alloc (Obj.cells #[] 66)).alloc (Obj.cells #[Value.slice (some { block := w.heap.size, off := 0 }) 0 0] 63) = w0
  have hone : w0.heap[w.heap.size + 1]? = some (.cells #[.slice (some { block := w.heap.size, off := 0 }) 0 0] 63 (0, 0)) := by
    rw [← hw0]; have := heap_alloc_new (w.alloc (Obj.cells #[] 66)) (Obj.cells #[Value.slice (some { block := w.heap.size, off := 0 }) 0 0] 63); simpa using this
  have hown : w0.ownsRow w.heap.size 66 16 (.slice (some { block := w.heap.size, off := 0 }) 0 0) 0 (rows ss ss2 0) := by
    rw [← hw0]; exact (World.ownsRow_made (e := 66) (size := 16) w #[] 0 (Nat.le_refl _) (Nat.zero_le _) rfl).alloc _
  have hb0 : Below w.heap.size w w0 := by rw [← hw0]; exact ((Below.refl _ _).alloc (Nat.le_refl _) _).alloc (by simp) _
  clear hw0
  generalize hBa : w.heap.size + 1 = Ba at *
  have HBa := Hid.mk hBa
  clear hBa
  go_loopw [10] (fun i wr => ∃ (k : Nat) (va : Value), k ≤ n ∧ i = .int .i64 k ∧ wr.heap[Ba]? = some (.cells #[va] 63 (0, 0)) ∧ wr.ownsRow w.heap.size 66 16 va k (rows ss ss2 k) ∧ Below w.heap.size w wr) (fun i _ => n - (intOf i).toNat)
  case atStart => exact ⟨0, _, Nat.zero_le _, rfl, hone, hown, hb0⟩
  case round =>
    clear hone hb0 hown
    obtain ⟨k, va, hk, rfl, hone, hown, hb0⟩ := hrel
    by_cases hlt : k < n
    · have hh := hao (by omega)
      have hh2 := hao2 (by omega)
      subst hh hh2
      have c1 : wr.cell? ⟨b, off + k, none⟩ = some (.string (ss.getD k ByteArray.empty)) := (hb0.cell (p := ⟨b, off + k, none⟩) (hbw (by omega))).trans (hc k hlt)
      have c2 : wr.cell? ⟨b2, off2 + k, none⟩ = some (.string (ss2.getD k ByteArray.empty)) := (hb0.cell (p := ⟨b2, off2 + k, none⟩) (hbw2 (by omega))).trans (hc2 k hlt)
      have c0 := cell_of_one hone
      have f0 := free_of_one hone
      have hap := own_apart (by decide) hone hown
      have hb1 := own_below hown (hbw (by omega))
      have hb2 := own_below hown (hbw2 (by omega))
      have lB := lt_of_block hone
      have l1 := World.block_lt_of_cell? wr _ c1
      have l2 := World.block_lt_of_cell? wr _ c2
      have e0 : (0 : Int) ≤ (k : Int) := Int.natCast_nonneg _
      have e1 : (k : Int) < (n : Int) := by omega
      have hrow : rows ss ss2 (k + 1) = rows ss ss2 k ++ entry (ss.getD k ByteArray.empty) (ss2.getD k ByteArray.empty) := rfl
      have Hrow := Hid.mk hrow
      clear hrow hc hc2 hao hao2
      generalize ss.getD k ByteArray.empty = s at *
      generalize ss2.getD k ByteArray.empty = a at *
      go_wp2_with fail
      go_region_law
        ((refine step_append_lies _ (by rfl) _ _ _ (by rfl) w.heap.size 66 i0 _ 16 264 Try.underlying63 hi hz0 hz1 hz2 rfl (by omega) va k (rows ss ss2 k) (by rfl) ((hown.alloc _).drew)
            ⟨wr.heap.size, 0, none⟩ 1 1 (entry s a) (by rfl) (by rfl) (row_cells wr (entry s a) 66) (entry_one s a)
            (by omega) (by unfold maxLen; omega) (by omega) (by have := hb0.size; simp; omega) (wr.heap.size + 1) (by simp) ?_; intro gg cp w1 hown1 hgrow hat hlt1; have f1 := (grown_block hgrow lB (Ne.symm hap)).2; have c3 := (grown_block hgrow lB (Ne.symm hap)).1; rw [c0] at c3; rw [f0] at f1))
      all_goals
        have R := with_step (by have := HBa.out; omega) hb0 hone hown hgrow hown1
        clear hown1 hgrow hown hone f1 c3 hi hz0 hz1 hz2 c0 f0 c1 c2
        go_wp2
        go_roundw
        case rel => exact ⟨k + 1, _, by omega, by go_num, R.1, by rw [Hrow.out]; exact R.2.1, R.2.2⟩
        case measure => simp [intOf]; omega
    · obtain rfl : k = n := by omega
      go_wp2
      go_ret
      exact ⟨Ba, va, rfl, by have := HBa.out; omega, hone, hown, hb0⟩
end Go.Proofs.Qxb6604442a
