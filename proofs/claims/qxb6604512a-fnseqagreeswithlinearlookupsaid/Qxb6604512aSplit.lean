import Derived.Test.Qxb6604512aKey2
namespace Go.Proofs.Qxb6604512a
open Go.RowKit

/-- A clone's row behind k rounds. -/
def half (vs : List Value) (z : Value) (n k : Nat) : List Value := vs.take k ++ List.replicate (n - k) z

theorem half_zero (vs : List Value) (z : Value) (n : Nat) : half vs z n 0 = List.replicate n z := by simp [half]
theorem half_all (vs : List Value) (z : Value) (n : Nat) (h : vs.length = n) : half vs z n n = vs := by simp [half, List.take_of_length_le (Nat.le_of_eq h)]
theorem half_set (vs : List Value) (z : Value) (n k : Nat) (v : Value) (h : vs.length = n) (hk : k < n) (hv : vs[k]? = some v) : (half vs z n k).set k v = half vs z n (k + 1) := by
  obtain ⟨m, hm⟩ : ∃ m, n - k = m + 1 := ⟨n - k - 1, by omega⟩
  have hl : (vs.take k).length = k := by rw [List.length_take]; omega
  have hm' : n - (k + 1) = m := by omega
  unfold half
  rw [hm, hm', List.set_append_right _ _ (by omega), hl, Nat.sub_self, List.replicate_succ, List.set_cons_zero]
  obtain ⟨h1, rfl⟩ := List.getElem?_eq_some_iff.1 hv
  rw [List.take_succ_eq_append_getElem h1, List.append_assoc]
  rfl

/-- Bytes that can be read, as a walk wants them. -/
theorem src_at {w : World} {B cp : Nat} {ao : Option Addr} {bs : List UInt8} (h : Src w B (.slice ao bs.length cp) bs) :
    ∃ b o, AtHead ao b o bs.length ∧ (ao = none → bs.length = 0 ∧ cp = 0) ∧ (0 < bs.length → b < B) ∧ ∀ j, j < bs.length → w.cell? ⟨b, o + j, none⟩ = some (.int .u8 (bs.getD j 0).toNat) := by
  rcases h with ⟨hv, rfl⟩ | ⟨a, c, hv, hc, hl⟩
  · simp at hv
    exact ⟨0, 0, fun h => by simp at h, fun _ => ⟨rfl, hv.2⟩, fun h => by simp at h, fun j hj => by simp at hj⟩
  · simp only [Value.slice.injEq, true_and] at hv
    obtain ⟨rfl, rfl⟩ := hv
    obtain ⟨b, o, spot⟩ := a
    have hcell : ∀ j, j < bs.length → w.cell? ((⟨b, o, spot⟩ : Addr).add j) = some (.int .u8 (bs.getD j 0).toNat) := fun j hj => hc j _ (by simp [Lib.byteCells, hj])
    refine ⟨b, o, ?_, by simp, fun h0 => hl (by rintro rfl; simp at h0), fun j hj => ?_⟩
    · intro h0
      have hspot : spot = none := by simpa [Addr.add] using World.cell?_spot (hcell 0 h0)
      rw [hspot]
    · have hspot : spot = none := by simpa [Addr.add] using World.cell?_spot (hcell 0 (by omega))
      have := hcell j hj
      rw [hspot, Addr.add_lit] at this
      exact this

theorem bytes_at (bs : List UInt8) (k : Nat) (hk : k < bs.length) : (Lib.byteCells bs)[k]? = some (.int .u8 (bs.getD k 0).toNat) := by simp [Lib.byteCells, hk]

set_option maxRecDepth 100000 in
set_option maxHeartbeats 1000000 in
theorem clone_any (ao : Option Addr) (cp : Nat) (bs : List UInt8) (w : World) (hs : Src w w.heap.size (.slice ao bs.length cp) bs) (hl : bs.length ≤ 1099511627776) :
    Calls Try.prog 24 #[.slice ao bs.length cp] w fun e w' => ∃ v, e = .returned v ∧ w'.ownsRow w.heap.size 5 1 v bs.length (Lib.byteCells bs) ∧ Below w.heap.size w w' := by
  have q45 : ∀ (w : World) (a : Option Addr) (n c n' c' : Nat), (binOp .eql 45 (.slice a n c) (.slice none n' c')).run Try.prog w = .ok (.bool a.isNone) w := fun w a n c n' c' => Lib.run_eql_slice_nil w _ _ a n c n' c' Try.underlying45
  obtain ⟨b, o, hao, hnil, hbw, hc⟩ := src_at hs
  clear hs
  obtain ⟨n, hn⟩ : ∃ n, n = bs.length := ⟨_, rfl⟩
  rw [← hn] at hao hnil hbw hc hl ⊢
  rcases ao with _ | a
  · obtain ⟨rfl, rfl⟩ := hnil rfl
    obtain rfl : bs = [] := List.eq_nil_of_length_eq_zero hn.symm
    clear hn hc hao hbw hnil
    go_enter Try.func24, Try.ntmps24
    go_wp2
    go_ret
    exact ⟨_, rfl, World.ownsRow_nil _ _ _ _, Below.refl _ _⟩
  · obtain ⟨i0, hi, hz0, hz1, hz2⟩ := info_parts Try.info5
    have Hn := Hid.mk hn
    have Hc := Hid.mk hc
    clear hn hc
    go_enter Try.func24, Try.ntmps24
    go_wp2_with (at_make; refine wpList_make_full _ rfl _ _ 45 rfl w.heap.size 5 i0 (.int .u8 0) 1 Try.underlying45 hi hz0 hz1 _ _ _ _ n rfl rfl rfl rfl (by rw [hz2]; omega) (by unfold maxLen; omega) (Nat.le_refl _) ?_)
    intro w1 hown hgr
    rw [show (madeCells #[Value.int .u8 0] n).toList = half (Lib.byteCells bs) (.int .u8 0) n 0 from by rw [half_zero]; exact toList_madeCells_one _ _] at hown
    have hbel : Below w.heap.size w w1 := (Below.refl _ _).grown hgr (Nat.le_refl _) (by simp)
    clear hgr hi hz0 hz1 hz2
    go_wp2
    go_loopw [4] (fun i wr => ∃ k : Nat, k ≤ n ∧ i = .int .i64 k ∧ wr.ownsRow w.heap.size 5 1 (.slice (some ⟨w.heap.size, 0, none⟩) n n) n (half (Lib.byteCells bs) (.int .u8 0) n k) ∧ Below w.heap.size w wr) (fun i _ => n - (intOf i).toNat)
    case atStart => exact ⟨0, Nat.zero_le _, rfl, hown, hbel⟩
    case round =>
      clear hown hbel
      obtain ⟨k, hk, rfl, hown, hbel⟩ := hrel
      by_cases hlt : k < n
      · have hao' := Option.some.inj (hao (by omega))
        subst hao'
        have hck : wr.cell? ⟨b, o + k, none⟩ = some (.int .u8 (bs.getD k 0).toNat) := (hbel.cell (p := ⟨b, o + k, none⟩) (hbw (by omega))).trans (Hc.out k hlt)
        have hfz := hown.frozenAt k
        have hst := (hown.stored k (.int .u8 (bs.getD k 0).toNat)).1
        have hb2 := hbel.setCell (p := ⟨w.heap.size, k, none⟩) (Nat.le_refl _) (.int .u8 (bs.getD k 0).toNat)
        rw [half_set _ _ n k _ (by rw [Lib.byteCells_length, Hn.out]) hlt (bytes_at bs k (by rw [← Hn.out]; exact hlt))] at hst
        have hol : ∃ u, wr.cell? ⟨w.heap.size, k, none⟩ = some u := ⟨(half (Lib.byteCells bs) (.int .u8 0) n k)[k]'(by rw [hown.1]; omega), by rw [hown.cellAt k (by omega)]; simp⟩
        obtain ⟨u, hu⟩ := hol
        clear hown hbel
        generalize (bs.getD k 0).toNat = s at *
        have Hst := Hid.mk hst
        clear hst
        go_wp2
        go_roundw
        case rel => exact ⟨k + 1, by omega, by go_num, Hst.out, hb2⟩
        case measure => simp [intOf]; omega
      · obtain rfl : k = n := by omega
        rw [half_all _ _ k (by rw [Lib.byteCells_length, Hn.out])] at hown
        go_wp2
        go_ret
        exact ⟨_, rfl, hown, hbel⟩
end Go.Proofs.Qxb6604512a
