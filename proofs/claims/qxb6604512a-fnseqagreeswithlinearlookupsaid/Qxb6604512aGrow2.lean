import Derived.Test.Qxb6604512aGrow
import Derived.Test.Qxb6604512aNown
namespace Go.Proofs.Qxb6604512a
open Go.RowKit

theorem Typed.below {t : TypeId} {row : Option Nat} {w w' : World} (h : Below w.heap.size w w') : Typed t row w w' := fun g _ hg _ => (h.block g (lt_of_block hg)).trans hg
theorem Typed.trans {t : TypeId} {w w' w'' : World} (h : Typed t none w w') (h' : Typed t none w' w'') : Typed t none w w'' := fun g c hg _ => h' g c (h g c hg (by simp)) (by simp)

theorem grown_cell' {W w1 : World} {row : Option Nat} {b j : Nat} (hg : W.grownBy w1 row) (hl : b < W.heap.size) (hne : row ≠ some b) :
    w1.cell? ⟨b, j, none⟩ = W.cell? ⟨b, j, none⟩ ∧ w1.frozen? ⟨b, j, none⟩ = W.frozen? ⟨b, j, none⟩ ∧ w1.heap[b]? = W.heap[b]? := by
  have h : w1.heap[b]? = W.heap[b]? := hg.block b hl (Ne.symm hne)
  exact ⟨World.cell?_of_block h, World.frozen?_of_block h, h⟩

theorem box_store {w : World} {Ba : Nat} {v u : Value} {t : TypeId} (h : w.heap[Ba]? = some (.cells #[v] t (0, 0))) : (w.setCell ⟨Ba, 0, none⟩ u).heap[Ba]? = some (.cells #[u] t (0, 0)) := by
  rw [heap_setCell_same w Ba 0 _ t u h]; rfl

/-- The world behind 'sv.members = append(..)'. -/
theorem member_step {w w4 : World} {o : Obj} {B Bn Ba k n : Nat} {vm vm' vn : Value} {xs zs ns : List Value} (hB : B ≤ Ba) (hs : B ≤ w.heap.size)
    (hone : w.heap[Ba]? = some (.cells #[vm] 75 (0, 0))) (hm : w.ownsRow B 78 2 vm k xs) (hn : w.ownsRow Bn 86 2 vn n ns)
    (hg : (w.alloc o).grownBy w4 vm.ownBlock) (ho : w4.ownsRow B 78 2 vm' (k + 1) zs) :
    let w5 := w4.setCell ⟨Ba, 0, none⟩ vm'
    w5.heap[Ba]? = some (.cells #[vm'] 75 (0, 0)) ∧ w5.ownsRow B 78 2 vm' (k + 1) zs ∧ w5.ownsRow Bn 86 2 vn n ns ∧ Typed 5 none w w5 ∧ Typed 86 none w w5 ∧ Typed 80 none w w5 ∧ Below B w w5 := by
  intro w5
  have lBa := lt_of_block hone
  have ap1 := own_apart (by decide) hone hm
  have al : ∀ b, b < w.heap.size → vm.ownBlock ≠ some b → w4.heap[b]? = w.heap[b]? := fun b hb hne => ((grown_cell' (j := 0) hg (by simp; omega) hne).2.2).trans (Below.heap_alloc w o b hb)
  have q1 := (al Ba lBa ap1).trans hone
  have hty : ∀ t, t ≠ 78 → t ≠ 75 → Typed t none w w5 := by
    intro t h78 h75 g c hgc _
    have lg := lt_of_block hgc
    have n1 : g ≠ Ba := by
      rintro rfl
      rw [hone] at hgc
      simp at hgc
      exact h75 hgc.2.symm
    exact ((Below.heap_setCell w4 ⟨Ba, 0, none⟩ _ g n1).trans (al g lg (own_apart (Ne.symm h78) hgc hm))).trans hgc
  refine ⟨box_store q1, ownsRow_setCell_other ho (own_apart (by decide) q1 ho) _, own_typed hn (hty 86 (by decide) (by decide)) ?_, hty 5 (by decide) (by decide), hty 86 (by decide) (by decide), hty 80 (by decide) (by decide), ?_⟩
  · cases h : vn.ownBlock with
    | none => exact .inl rfl
    | some _ => exact .inr (by simp)
  · have hb1 : Below B w w4 := ((Below.refl B w).alloc hs o).grown hg (by simp; omega) (fun j hj => (hm.lt j hj).1)
    exact hb1.setCell hB _

set_option maxRecDepth 100000 in
set_option maxHeartbeats 4000000 in
theorem addMember_any (B Ba k n Bn : Nat) (vm vt vv : Value) (xs : List Value) (ds : List Cm) (w : World) (hB : B ≤ Ba) (hk : k ≤ 1048576) (hnn : n ≤ 1099511627776) (hn : ds.length = n)
    (hone : w.heap[Ba]? = some (.cells #[vm] 75 (0, 0))) (hm : w.ownsRow B 78 2 vm k xs)
    (ht : w.ownsRow Bn 24 1 vt n (ds.map tyv)) (hv : w.ownsRow Bn 45 1 vv n (ds.map slv)) (hall : ∀ d ∈ ds, w.ownsRow Bn 5 1 (slv d) d.bs.length (Lib.byteCells d.bs)) :
    Calls Try.prog 30 #[.pointer (some ⟨Ba, 0, none⟩), vt, vv] w fun e w' => e = .returned (.tuple #[]) ∧ ∃ vm' vn, w'.heap[Ba]? = some (.cells #[vm'] 75 (0, 0)) ∧ w'.ownsRow B 78 2 vm' (k + 1) (xs ++ [vn, .slice none 0 0]) ∧
      w'.ownsRow w.heap.size 86 2 vn n (flat ds) ∧ Typed 5 none w w' ∧ Typed 86 none w w' ∧ Typed 80 none w w' ∧ Below B w w' := by
  obtain ⟨i0, hi, hz0, hz1, hz2⟩ := info_parts Try.info78
  obtain ⟨ma, mc, rfl⟩ := owned_slice hm
  have lBa := lt_of_block hone
  have hs : B ≤ w.heap.size := by omega
  have c0 : w.cell? ⟨Ba, 0, none⟩ = some (.slice ma k mc) := by simp [World.cell?, hone]
  have Hcall : Hid (Calls Try.prog 33 #[vt, vv] w.drew fun e w' => ∃ vn, e = .returned vn ∧ w'.ownsRow w.heap.size 86 2 vn n (flat ds) ∧ Below w.heap.size w w') :=
    Hid.mk ((name_own vt vv n Bn ds w.drew hn hnn ht hv hall).mono (fun e w' h => by
      obtain ⟨vn, h1, h2, h3⟩ := h
      exact ⟨vn, h1, h2, ((Below.refl w.heap.size w).drew).trans h3⟩))
  have Hone := Hid.mk hone
  have Hm := Hid.mk hm
  clear hone hm ht hv hall hn
  go_enter Try.func30, Try.ntmps30
  go_wp2_with fail
  go_region_law
    (first
     | (refine step_append_lies _ (by rfl) _ _ _ (by rfl) B 78 i0 _ 2 48 Try.underlying73 hi hz0 hz1 hz2 rfl (by omega) (.slice ma k mc) k xs (by rfl) (M3.out.alloc _)
            ⟨w3.heap.size, 0, none⟩ 1 1 [.slice na n nc, .slice none 0 0] (by rfl) (by rfl) (row_cells w3 [.slice na n nc, .slice none 0 0] 78) (by simp [Value.oneCell'])
            (by omega) (by unfold maxLen; omega) (by omega) (by simp; omega) (w3.heap.size + 1) (by simp) ?_; intro gg cp w4 hown4 hgrow hat hlt4; have G1 := grown_cell' (j := 0) hgrow (Nat.lt_of_lt_of_le l3 (by simp)) ap3; have r0 := G1.1; have r1 := G1.2.1; rw [a0] at r0; rw [a1] at r1; clear G1)
     | (go_simp
        go_at_call 33
        refine Hcall.out.mono ?_
        rintro e w3 ⟨vn, rfl, hn3, hb3⟩
        obtain ⟨na, nc, rfl⟩ := owned_slice hn3
        have M3 := Hid.mk (own_later Hm.out hb3)
        have O3 := Hid.mk ((hb3.block Ba lBa).trans Hone.out)
        have l3 := lt_of_block O3.out
        have c3 : w3.cell? ⟨Ba, 0, none⟩ = some (.slice ma k mc) := by simp [World.cell?, O3.out]
        have ap3 := own_apart (by decide) O3.out M3.out
        have a0 : ∀ o, (w3.alloc o).cell? ⟨Ba, 0, none⟩ = some (.slice ma k mc) := fun o => (World.cell?_of_block (Below.heap_alloc w3 o Ba l3)).trans c3
        have a1 : ∀ o, (w3.alloc o).frozen? ⟨Ba, 0, none⟩ = false := fun o => (World.frozen?_of_block (Below.heap_alloc w3 o Ba l3)).trans (by simp [World.frozen?, O3.out])
        have s3 := hb3.size))
  all_goals
    have R := member_step hB (Nat.le_trans hs s3) O3.out M3.out hn3 hgrow hown4
    have T5 := (Typed.below (t := 5) (row := none) hb3).trans R.2.2.2.1
    have T86 := (Typed.below (t := 86) (row := none) hb3).trans R.2.2.2.2.1
    have T80 := (Typed.below (t := 80) (row := none) hb3).trans R.2.2.2.2.2.1
    have TB := (hb3.mono hs).trans R.2.2.2.2.2.2
    have R1 := Hid.mk R.1
    have R2 := Hid.mk R.2.1
    have R3 := Hid.mk R.2.2.1
    clear R hown4 hgrow r0 r1 hi hz0 hz1 hz2 c0 c3 a0 a1 M3 O3 hn3 Hm Hone Hcall
    go_wp2
    go_end0
    exact ⟨rfl, _, _, R1.out, R2.out, R3.out, T5, T86, T80, TB⟩

/-- new(StateVector). -/
theorem new_any (w : World) : Calls Try.prog 29 #[] w fun e w' => e = .returned (.pointer (some ⟨w.heap.size, 0, none⟩)) ∧ w' = w.alloc (.cells #[.slice none 0 0] 75) := by
  go_enter Try.func29, Try.ntmps29
  go_wp2
  go_ret
  exact ⟨rfl, rfl⟩
end Go.Proofs.Qxb6604512a
