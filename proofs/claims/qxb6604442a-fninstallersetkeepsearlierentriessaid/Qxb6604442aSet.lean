import Derived.Test.Qxb6604442aParts
namespace Go.Proofs.Qxb6604442a
open Go.RowKit
/-- The zero value of manifest.Installer, cell by cell. -/
def zs : Value := .string ⟨#[]⟩
def zeros : Array Value := #[zs, zs, zs, zs, zs, zs, zs, zs, zs, zs, zs, .slice none 0 0, zs, zs, zs]
theorem Try.info66 : (Try.prog.info? 66).map (fun i => (i.zero, i.size, i.bytes)) = some (some (.agg (#[zs] ++ zeros)), 16, 264) := by kernel_rfl
theorem Try.info36 : (Try.prog.info? 36).map (fun i => (i.zero, i.size, i.bytes)) = some (some (.agg zeros), 15, 248) := by kernel_rfl
/-- An entry's sixteen cells: its file, its Architecture, and nothing else. -/
def entry (s a : ByteArray) : List Value := [.string s, .string a, zs, zs, zs, zs, zs, zs, zs, zs, zs, zs, .slice none 0 0, zs, zs, zs]

theorem entry_one (s a : ByteArray) : ∀ u ∈ entry s a, u.oneCell' = true := by
  intro u hu
  have h : (entry s a).all (fun u => u.oneCell') = true := rfl
  exact List.all_eq_true.1 h u hu

theorem row_cells (w : World) (l : List Value) (e : TypeId) : ∀ j u, l[j]? = some u → (w.alloc (.cells l.toArray e)).cell? ((⟨w.heap.size, 0, none⟩ : Addr).add j) = some u := by
  intro j u h
  rw [Addr.add_lit, Nat.zero_add, cell_of_row _ _ j l.toArray e (0, 0) (heap_alloc_new w _)]
  simpa using h

theorem owned_shape {w : World} {base : Nat} {e : TypeId} {size : Nat} {v : Value} {n : Nat} {xs : List Value} (h : w.ownsRow base e size v n xs) (hn : 0 < n) : ∃ g cap, v = .slice (some ⟨g, 0, none⟩) n cap := by
  rcases h.2 with ⟨_, h0⟩ | ⟨g, cap, _, hv, _⟩
  · omega
  · exact ⟨g, cap, hv⟩

theorem Below.old {B : Nat} {w w' : World} (h : Below B w w') {k : Nat} {o : Obj} (hk : k < B) (ho : w.heap[k]? = some o) : w'.heap[k]? = some o := (h.block k hk).trans ho

set_option maxHeartbeats 400000 in
theorem set_any (Ba : Nat) (va : Value) (k : Nat) (xs : List Value) (s : ByteArray) (w : World) (hk : k ≤ 65536) (hcell : w.heap[Ba]? = some (.cells #[va] 63 (0,0))) (hown : w.ownsRow (Ba+1) 66 16 va k xs) :
   Calls Try.prog 34 #[.pointer (some ⟨Ba,0,none⟩), .string s] w fun e w' => e = .returned .nilIface ∧ ∃ va', w'.heap[Ba]? = some (.cells #[va'] 63 (0,0)) ∧ w'.ownsRow (Ba+1) 66 16 va' (k+1) (xs ++ entry s ⟨#[]⟩) ∧ Below Ba w w' := by
  have hc := cell_of_one hcell
  obtain ⟨i0, hi, hz0, hz1, hz2⟩ := info_parts Try.info66
  have hlt := lt_of_block hcell
  go_enter Try.func34, Try.ntmps34
  go_wp2_with (at_builtin; refine wpList_append_own _ rfl _ _ 63 rfl (Ba + 1) 66 i0 _ 16 264 Try.underlying63 hi hz0 hz1 hz2 rfl (by decide) va k xs rfl (hown.alloc _) ⟨w.heap.size, 0, none⟩ 1 1 (entry s ⟨#[]⟩) rfl rfl ?c1 ?c2 ?c3 ?c4 ?c5 ?_)
  case c1 => exact row_cells w (entry s ⟨#[]⟩) 66
  case c2 => exact entry_one s _
  case c3 => unfold maxLen; omega
  case c4 => omega
  case c5 => simp; omega
  intro v' w1 hown' hgrow _
  obtain ⟨g, cp, hv⟩ := owned_shape hown' (by omega)
  subst hv
  have hold : w1.heap[Ba]? = some (.cells #[va] 63 (0,0)) := by
    rw [hgrow.block Ba (by simp; omega) (fun h => by have := hown.lt Ba h.symm; omega)]
    exact (Below.heap_alloc w _ Ba hlt).trans hcell
  have hb1 : Below Ba w w1 := ((Below.refl Ba w).alloc (by omega) _).grown hgrow (by simp; omega) (fun j hj => by have := hown.lt j hj; omega)
  have hc1 := cell_of_one hold
  have hf1 := free_of_one hold
  have hown2 := ownsRow_setCell_below (a := ⟨Ba, 0, none⟩) hown' (by simp) (.slice (some ⟨g, 0, none⟩) (k + 1) cp)
  have hb2 := hb1.setCell (p := ⟨Ba, 0, none⟩) (Nat.le_refl _) (.slice (some ⟨g, 0, none⟩) (k + 1) cp)
  have hone := one_setCell (u := .slice (some ⟨g, 0, none⟩) (k + 1) cp) hold
  clear hown hown' hgrow hb1 hi hz0 hz1 hz2 hcell hold
  go_wp2
  go_ret
  exact ⟨rfl, _, hone, hown2, hb2⟩

theorem zzset_any (Ba : Nat) (va : Value) (k : Nat) (xs : List Value) (s : ByteArray) (w : World) (hk : k ≤ 65536) (hcell : w.heap[Ba]? = some (.cells #[va] 63 (0,0))) (hown : w.ownsRow (Ba+1) 66 16 va k xs) :
   Calls Try.prog 11 #[.pointer (some ⟨Ba,0,none⟩), .string s] w fun e w' => e = .returned .nilIface ∧ ∃ va', w'.heap[Ba]? = some (.cells #[va'] 63 (0,0)) ∧ w'.ownsRow (Ba+1) 66 16 va' (k+1) (xs ++ entry s ⟨#[]⟩) ∧ Below Ba w w' := by
  go_enter Try.func11, Try.ntmps11
  go_wp2_with (go_at_call 34; refine (set_any Ba va k xs s _ hk hcell hown).mono ?_; rintro e w' ⟨rfl, hq⟩)
  go_ret
  exact ⟨rfl, hq⟩

theorem len_any (Ba : Nat) (ao : Option Addr) (k cap : Nat) (w : World) (hc : w.cell? ⟨Ba, 0, none⟩ = some (.slice ao k cap)) :
   Calls Try.prog 12 #[.pointer (some ⟨Ba,0,none⟩)] w fun e w' => e = .returned (.int .i64 k) ∧ w' = w := by
  go_enter Try.func12, Try.ntmps12
  go_wp2
  go_ret
  exact ⟨rfl, rfl⟩

theorem file_any (Ba g n cap i : Nat) (s : ByteArray) (w : World) (hc : w.cell? ⟨Ba, 0, none⟩ = some (.slice (some ⟨g, 0, none⟩) n cap)) (hi : i < n) (hs : w.cell? ⟨g, i * 16, none⟩ = some (.string s)) :
   Calls Try.prog 13 #[.pointer (some ⟨Ba,0,none⟩), .int .i64 i] w fun e w' => e = .returned (.string s) ∧ w' = w := by
  go_enter Try.func13, Try.ntmps13
  go_wp2
  go_ret
  exact ⟨rfl, rfl⟩

end Go.Proofs.Qxb6604442a
