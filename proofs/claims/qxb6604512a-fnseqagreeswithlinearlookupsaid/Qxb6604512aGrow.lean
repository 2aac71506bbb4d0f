import Derived.Test.Qxb6604512aEnts
import Derived.Deep.RegionLaw
import Derived.Deep.AppendLies
import Derived.Deep.DrawnRows
namespace Go.Proofs.Qxb6604512a
open Go.RowKit

theorem Try.info80 : (Try.prog.info? 80).map (fun i => (i.zero, i.size, i.bytes)) = some (some (.agg #[.int .u64 0, .int .u64 0]), 2, 16) := by kernel_rfl
theorem Try.info78 : (Try.prog.info? 78).map (fun i => (i.zero, i.size, i.bytes)) = some (some (.agg #[.slice none 0 0, .slice none 0 0]), 2, 48) := by kernel_rfl

/-- The rows of the element type t stand as they stood, but for the block 'row'. -/
def Typed (t : TypeId) (row : Option Nat) (w w' : World) : Prop := ∀ g cur, w.heap[g]? = some (.cells cur t (0, 0)) → row ≠ some g → w'.heap[g]? = some (.cells cur t (0, 0))

theorem own_typed {w w' : World} {B size n : Nat} {e : TypeId} {v : Value} {xs : List Value} {row : Option Nat} (h : w.ownsRow B e size v n xs) (ht : Typed e row w w') (hr : v.ownBlock = none ∨ v.ownBlock ≠ row) : w'.ownsRow B e size v n xs := by
  refine ⟨h.1, ?_⟩
  rcases h.2 with h' | ⟨g, cap, cur, hv, hB, hg, r⟩
  · exact .inl h'
  · refine .inr ⟨g, cap, cur, hv, hB, ht g cur hg ?_, r⟩
    subst hv
    intro h
    rcases hr with hr | hr
    · simp [Value.ownBlock] at hr
    · exact hr (by rw [h]; rfl)

theorem grown_cell {wr w1 : World} {o : Obj} {row : Option Nat} {b j : Nat} (hg : (wr.alloc o).drew.grownBy w1 row) (hl : b < wr.heap.size) (hne : row ≠ some b) :
    w1.cell? ⟨b, j, none⟩ = wr.cell? ⟨b, j, none⟩ ∧ w1.frozen? ⟨b, j, none⟩ = wr.frozen? ⟨b, j, none⟩ ∧ w1.heap[b]? = wr.heap[b]? := by
  have h : w1.heap[b]? = wr.heap[b]? := (hg.block b (by simp; omega) (Ne.symm hne)).trans (Below.heap_alloc wr o b hl)
  exact ⟨World.cell?_of_block h, World.frozen?_of_block h, h⟩

theorem row_cells (w : World) (l : List Value) (e : TypeId) : ∀ j u, l[j]? = some u → (w.alloc (.cells l.toArray e)).cell? ((⟨w.heap.size, 0, none⟩ : Addr).add j) = some u := by
  intro j u h
  rw [Addr.add_lit, Nat.zero_add, cell_of_row _ _ j l.toArray e (0, 0) (heap_alloc_new w _)]
  simpa using h

/-- The world behind 'sv.members[i].seqs = append(..)'. -/
theorem seq_step {w w1 : World} {o : Obj} {B Bi Ba gm k m cpm gg cp : Nat} {sv nm : Value} {xs ys zs : List Value} (hB : B ≤ gm) (hBi : B ≤ Bi) (hs : B ≤ w.heap.size)
    (hone : w.heap[Ba]? = some (.cells #[.slice (some ⟨gm, 0, none⟩) (k + 1) cpm] 75 (0, 0))) (hxs : xs.length = k * 2)
    (hm : w.ownsRow B 78 2 (.slice (some ⟨gm, 0, none⟩) (k + 1) cpm) (k + 1) (xs ++ [nm, sv])) (hown : w.ownsRow Bi 80 2 sv m ys)
    (hg : (w.alloc o).drew.grownBy w1 sv.ownBlock) (ho : w1.ownsRow Bi 80 2 (.slice (some ⟨gg, 0, none⟩) (m + 1) cp) (m + 1) zs) :
    let w2 := w1.setCell ⟨gm, k * 2 + 1, none⟩ (.slice (some ⟨gg, 0, none⟩) (m + 1) cp)
    w2.heap[Ba]? = some (.cells #[.slice (some ⟨gm, 0, none⟩) (k + 1) cpm] 75 (0, 0)) ∧
    w2.ownsRow B 78 2 (.slice (some ⟨gm, 0, none⟩) (k + 1) cpm) (k + 1) (xs ++ [nm, .slice (some ⟨gg, 0, none⟩) (m + 1) cp]) ∧
    w2.ownsRow Bi 80 2 (.slice (some ⟨gg, 0, none⟩) (m + 1) cp) (m + 1) zs ∧ Typed 5 none w w2 ∧ Typed 86 none w w2 ∧ Typed 80 sv.ownBlock w w2 ∧ Below B w w2 := by
  intro w2
  obtain ⟨cur, hgm⟩ := own_block hm
  have lBa := lt_of_block hone
  have lgm := lt_of_block hgm
  have ap1 := own_apart (by decide) hone hown
  have ap2 := own_apart (by decide) hgm hown
  have q1 := (grown_cell (j := 0) hg lBa ap1).2.2.trans hone
  have q2 := (grown_cell (j := 0) hg lgm ap2).2.2.trans hgm
  have hne : Ba ≠ gm := by
    rintro rfl
    rw [hone] at hgm
    simp at hgm
  have hty : ∀ t row, t ≠ 78 → (t ≠ 80 ∨ row = sv.ownBlock) → Typed t row w w2 := by
    intro t row h78 h80 g c hgc hrow
    have lg := lt_of_block hgc
    have n1 : g ≠ gm := by
      rintro rfl
      rw [hgm] at hgc
      simp at hgc
      exact h78 hgc.2.symm
    have n2 : sv.ownBlock ≠ some g := by
      rcases h80 with h80 | h80
      · exact own_apart (Ne.symm h80) hgc hown
      · rw [← h80]; exact hrow
    exact ((Below.heap_setCell w1 ⟨gm, k * 2 + 1, none⟩ _ g n1).trans (grown_cell (j := 0) hg lg n2).2.2).trans hgc
  refine ⟨(Below.heap_setCell w1 ⟨gm, k * 2 + 1, none⟩ _ Ba hne).trans q1, ?_, ownsRow_setCell_other ho (own_apart (by decide) q2 ho) _, hty 5 none (by decide) (.inl (by decide)), hty 86 none (by decide) (.inl (by decide)), hty 80 _ (by decide) (.inr rfl), ?_⟩
  · have h1 := (((hm.alloc o).drew).kept hg (.inr (by simpa [Value.ownBlock] using Ne.symm ap2))).stored (k * 2 + 1) (.slice (some ⟨gg, 0, none⟩) (m + 1) cp)
    have h2 := h1.1
    rwa [show (xs ++ [nm, sv]).set (k * 2 + 1) (.slice (some ⟨gg, 0, none⟩) (m + 1) cp) = xs ++ [nm, .slice (some ⟨gg, 0, none⟩) (m + 1) cp] from by
      rw [List.set_append_right _ _ (by omega), hxs, show k * 2 + 1 - k * 2 = 1 by omega]; rfl] at h2
  · have hb1 : Below B w w1 := (((Below.refl B w).alloc hs o).drew).grown hg (by simp; omega) (fun j hj => Nat.le_trans hBi (hown.lt j hj).1)
    exact hb1.setCell hB _

set_option maxRecDepth 100000 in
set_option maxHeartbeats 4000000 in
theorem addSeq_any (B Bi Ba k m bt sq : Nat) (vm sv nm : Value) (xs ys : List Value) (w : World) (hBi : B ≤ Bi) (hs : Bi ≤ w.heap.size) (hk : k ≤ 1048576) (hmm : m ≤ 1048576)
    (hone : w.heap[Ba]? = some (.cells #[vm] 75 (0, 0))) (hxs : xs.length = k * 2)
    (hm : w.ownsRow B 78 2 vm (k + 1) (xs ++ [nm, sv])) (hown : w.ownsRow Bi 80 2 sv m ys) :
    Calls Try.prog 31 #[.pointer (some ⟨Ba, 0, none⟩), .int .u64 bt, .int .u64 sq] w fun e w' => e = .returned (.tuple #[]) ∧ ∃ sv', w'.heap[Ba]? = some (.cells #[vm] 75 (0, 0)) ∧ w'.ownsRow B 78 2 vm (k + 1) (xs ++ [nm, sv']) ∧
      w'.ownsRow Bi 80 2 sv' (m + 1) (ys ++ [.int .u64 bt, .int .u64 sq]) ∧ Typed 5 none w w' ∧ Typed 86 none w w' ∧ Typed 80 sv.ownBlock w w' ∧ Below B w w' := by
  obtain ⟨gm, cpm, rfl, hB, hgl⟩ := hm.form (by omega)
  obtain ⟨i0, hi, hz0, hz1, hz2⟩ := info_parts Try.info80
  obtain ⟨cur, hgm⟩ := own_block hm
  have c0 : w.cell? ⟨Ba, 0, none⟩ = some (.slice (some ⟨gm, 0, none⟩) (k + 1) cpm) := by simp [World.cell?, hone]
  have c1 : w.cell? ⟨gm, k * 2 + 1, none⟩ = some sv := by rw [hm.cellAt (k * 2 + 1) (by omega), List.getElem?_append_right (by omega), hxs, show k * 2 + 1 - k * 2 = 1 by omega]; rfl
  have f1 := hm.frozenAt (k * 2 + 1)
  have lBa := lt_of_block hone
  have ap1 := own_apart (by decide) hone hown
  have ap2 := own_apart (by decide) hgm hown
  have R := Hid.mk (fun o w1 gg cp zs hg ho => seq_step (o := o) (w1 := w1) (gg := gg) (cp := cp) (zs := zs) hB hBi (Nat.le_trans hBi hs) hone hxs hm hown hg ho)
  have Hown := Hid.mk hown
  have e0 : (0 : Int) ≤ (k : Int) := Int.natCast_nonneg _
  have e1 : (k : Int) < (k : Int) + 1 := by omega
  have e2 : ¬ (k : Int) < 0 := by omega
  clear hm hone hxs hown hgm
  go_enter Try.func31, Try.ntmps31
  go_wp2_with fail
  go_region_law
    ((refine step_append_lies _ (by rfl) _ _ _ (by rfl) Bi 80 i0 _ 2 16 Try.underlying76 hi hz0 hz1 hz2 rfl (by omega) sv m ys (by rfl) ((Hown.out.alloc _).drew)
        ⟨w.heap.size, 0, none⟩ 1 1 [.int .u64 bt, .int .u64 sq] (by rfl) (by rfl) (row_cells w [.int .u64 bt, .int .u64 sq] 80) (by simp [Value.oneCell'])
        (by omega) (by unfold maxLen; omega) (by omega) (by simp; omega) (w.heap.size + 1) (by simp) ?_; intro gg cp w1 hown1 hgrow hat hlt1; have G1 := grown_cell (j := 0) hgrow lBa ap1; have G2 := grown_cell (j := k * 2 + 1) hgrow hgl ap2; have r0 := G1.1; have r1 := G2.1; have r2 := G2.2.1; rw [c0] at r0; rw [c1] at r1; rw [f1] at r2; clear G1 G2))
  all_goals
    have R1 := R.out _ w1 gg cp _ hgrow hown1
    clear hown1 hgrow r0 r1 r2 hi hz0 hz1 hz2 c0 c1 f1 R Hown
    go_wp2
    go_end0
    exact ⟨rfl, _, R1⟩
end Go.Proofs.Qxb6604512a
