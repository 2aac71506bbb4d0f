import Derived.Test.Qxb6604512aVar
import Derived.Laws.AppendOwnNone
namespace Go.Proofs.Qxb6604512a
open Go.RowKit

/-- Bytes to be read: a nil slice, or a slice over cells that lie below B. -/
def Src (w : World) (B : Nat) (v : Value) (bs : List UInt8) : Prop :=
  (v = .slice none 0 0 ∧ bs = []) ∨ ∃ a c, v = .slice (some a) bs.length c ∧ (∀ j u, (Lib.byteCells bs)[j]? = some u → w.cell? (a.add j) = some u) ∧ (bs ≠ [] → a.block < B)

theorem add_block (a : Addr) (j : Nat) : (a.add j).block = a.block := by unfold Addr.add; split <;> rfl

theorem Src.later {w w' : World} {B B' : Nat} {v : Value} {bs : List UInt8} (h : Src w B v bs) (hb : Below B w w') (hB : B ≤ B') : Src w' B' v bs := by
  rcases h with h | ⟨a, c, hv, hc, hl⟩
  · exact .inl h
  · refine .inr ⟨a, c, hv, fun j u hu => ?_, fun hne => Nat.lt_of_lt_of_le (hl hne) hB⟩
    have hne : bs ≠ [] := by rintro rfl; simp [Lib.byteCells] at hu
    rw [hb.cell (p := a.add j) (by rw [add_block]; exact hl hne)]
    exact hc j u hu

/-- A TLV element. -/
def encElem (t : Nat) (bs : List UInt8) : List UInt8 := encVar t ++ (encVar bs.length ++ bs)

theorem encVar_le (n : Nat) : (encVar n).length ≤ 9 := by
  unfold encVar
  repeat' split
  all_goals simp [be_len]

theorem bytes_one (bs : List UInt8) : ∀ u ∈ Lib.byteCells bs, u.oneCell' = true := by
  intro u hu
  obtain ⟨_, _, rfl⟩ := List.mem_map.1 hu
  rfl

set_option maxRecDepth 100000 in
set_option maxHeartbeats 1000000 in
theorem elem_any (B k t : Nat) (ht : t < 18446744073709551616) (v : Value) (xs : List Value) (sv : Value) (bs : List UInt8) (w : World) (hown : w.ownsRow B 5 1 v k xs) (hBw : B ≤ w.heap.size) (hk : k ≤ 549755813888)
    (hs : Src w B sv bs) (hl : bs.length ≤ 549755813888) :
    Calls Try.prog 49 #[v, .int .u64 t, sv] w fun e w' => ∃ v', e = .returned v' ∧ w'.ownsRow B 5 1 v' (k + (encElem t bs).length) (xs ++ Lib.byteCells (encElem t bs)) ∧ Below B w w' := by
  obtain ⟨i0, hi, hz0, hz1, hz2⟩ := info_parts Try.info5
  have hv := Hid.mk (var_any B k t ht v xs w hown hBw (by omega))
  have l1 := encVar_le t
  have l2 := encVar_le bs.length
  have hwr : IntKind.u64.wrap (bs.length : Int) = (bs.length : Int) := by rw [IntKind.wrap_u64]; omega
  have fin : ∀ (v' : Value) (w' : World), w'.ownsRow B 5 1 v' (k + (encVar t).length + (encVar bs.length).length + bs.length) (xs ++ Lib.byteCells (encVar t) ++ Lib.byteCells (encVar bs.length) ++ Lib.byteCells bs) → w'.ownsRow B 5 1 v' (k + (encElem t bs).length) (xs ++ Lib.byteCells (encElem t bs)) := by
    intro v' w' h
    unfold encElem
    rw [Lib.byteCells_append, Lib.byteCells_append, List.length_append, List.length_append, ← List.append_assoc, ← List.append_assoc, ← Nat.add_assoc, ← Nat.add_assoc]
    exact h
  have Hfin := Hid.mk fin
  clear fin ht
  rcases hs with ⟨rfl, rfl⟩ | ⟨a, c, rfl, hc, hlow⟩
  · go_enter Try.func49, Try.ntmps49
    go_wp2_with fail
    refine hv.out.mono ?_
    rintro e w1 ⟨v1, rfl, hown1, hb1⟩
    go_wp2_with fail
    have hv2 := Hid.mk (var_any B (k + (encVar t).length) 0 (by omega) v1 _ w1 hown1 (Nat.le_trans hBw hb1.size) (by omega))
    refine hv2.out.mono ?_
    rintro e w2 ⟨v2, rfl, hown2, hb2⟩
    clear hv hv2
    go_wp2_with (at_builtin; refine wpList_append_own_none rfl _ _ 45 rfl B 5 i0 1 Try.underlying45 hi v2 _ _ rfl hown2 rfl ?_)
    go_ret
    exact ⟨v2, rfl, Hfin.out _ _ (by simpa [Lib.byteCells] using hown2), hb1.trans hb2⟩
  · have hsr : Src w B (.slice (some a) bs.length c) bs := .inr ⟨a, c, rfl, hc, hlow⟩
    clear hc hlow
    go_enter Try.func49, Try.ntmps49
    go_wp2_with fail
    refine hv.out.mono ?_
    rintro e w1 ⟨v1, rfl, hown1, hb1⟩
    go_wp2_with fail
    have hv2 := Hid.mk (var_any B (k + (encVar t).length) bs.length (by omega) v1 _ w1 hown1 (Nat.le_trans hBw hb1.size) (by omega))
    refine hv2.out.mono ?_
    rintro e w2 ⟨v2, rfl, hown2, hb2⟩
    have hb12 := hb1.trans hb2
    have hs2 := hsr.later hb12 (Nat.le_refl _)
    have hc2 : ∀ j u, (Lib.byteCells bs)[j]? = some u → w2.cell? (a.add j) = some u := by
      rcases hs2 with ⟨h, _⟩ | ⟨a', c', h, h', _⟩
      · simp at h
      · simp at h
        rw [h.1]
        exact h'
    have Hc2 := Hid.mk hc2
    clear hv hv2 hs2 hsr hc2
    go_wp2_with (at_builtin; refine wpList_append_own _ rfl _ _ 45 rfl B 5 i0 (.int .u8 0) 1 1 Try.underlying45 hi hz0 hz1 hz2 rfl (by decide) v2 _ _ rfl hown2 a bs.length c (Lib.byteCells bs) rfl (by rw [Lib.byteCells_length]; omega) Hc2.out (bytes_one bs) (by unfold maxLen; omega) (by omega) (Nat.le_trans hBw hb12.size) ?_)
    intro v3 w3 hown3 hgrow _
    have hb3 : Below B w w3 := hb12.grown hgrow (Nat.le_trans hBw hb12.size) (fun j hj => (hown2.lt j hj).1)
    clear hgrow Hc2 hown2
    go_wp2
    go_ret
    exact ⟨v3, rfl, Hfin.out _ _ (by simpa using hown3), hb3⟩
end Go.Proofs.Qxb6604512a
