import Derived.Test.Qxb6604512aSplit2
namespace Go.Proofs.Qxb6604512a
open Go.RowKit

/-- The cells of a name's components. -/
def flat (ds : List Cm) : List Value := ds.flatMap fun d => [tyv d, slv d]

/-- n zero components. -/
def zz : Nat → List Value
  | 0 => []
  | n + 1 => .int .u64 0 :: .slice none 0 0 :: zz n

theorem zz_made (n : Nat) : (madeCells #[Value.int .u64 0, .slice none 0 0] (n * 2)).toList = zz n := by
  apply List.ext_getElem?
  have h : ∀ n j, (zz n)[j]? = if j < n * 2 then some (if j % 2 = 0 then Value.int .u64 0 else .slice none 0 0) else none := by
    intro n
    induction n with
    | zero => intro j; simp [zz]
    | succ n ih =>
      intro j
      match j with
      | 0 => simp [zz]
      | 1 => simp [zz]; omega
      | j + 2 =>
        have e : (zz (n + 1))[j + 2]? = (zz n)[j]? := rfl
        rw [e, ih, show (j + 2) % 2 = j % 2 by omega]
        by_cases hj : j < n * 2
        · have h2 : j + 2 < (n + 1) * 2 := by omega
          rw [if_pos hj, if_pos h2]
        · have h2 : ¬ j + 2 < (n + 1) * 2 := by omega
          rw [if_neg hj, if_neg h2]
  intro j
  rw [h]
  by_cases hj : j < n * 2
  · rw [if_pos hj]
    rcases Nat.mod_two_eq_zero_or_one j with hm | hm <;> simp [madeCells, hj, hm]
  · rw [if_neg hj]
    simp [madeCells, hj]

theorem flat_len (ds : List Cm) : (flat ds).length = ds.length * 2 := by
  induction ds with
  | nil => rfl
  | cons d ds ih => unfold flat at *; rw [List.flatMap_cons, List.length_append, ih]; simp; omega

theorem flat_set (ds : List Cm) (d : Cm) (n k : Nat) (hl : ds.length = k) (hk : k < n) :
    ((flat ds ++ zz (n - k)).set (k * 2) (tyv d)).set (k * 2 + 1) (slv d) = flat (ds ++ [d]) ++ zz (n - (k + 1)) := by
  obtain ⟨m, hm⟩ : ∃ m, n - k = m + 1 := ⟨n - k - 1, by omega⟩
  have hm' : n - (k + 1) = m := by omega
  have hf := flat_len ds
  rw [hm, hm', zz, List.set_append_right _ _ (by omega), List.set_append_right _ _ (by omega), hf, hl, Nat.sub_self, show k * 2 + 1 - k * 2 = 1 by omega]
  simp [flat]

theorem flat_at (ds : List Cm) (k : Nat) (d : Cm) (h : ds[k]? = some d) : (flat ds)[k * 2]? = some (tyv d) ∧ (flat ds)[k * 2 + 1]? = some (slv d) := by
  induction ds generalizing k with
  | nil => simp at h
  | cons e ds ih =>
    match k with
    | 0 => simp at h; subst h; exact ⟨rfl, rfl⟩
    | k + 1 =>
      have := ih k (by simpa using h)
      rw [show (k + 1) * 2 = k * 2 + 2 by omega]
      exact this

theorem Try.info86 : (Try.prog.info? 86).map (fun i => (i.zero, i.size, i.bytes)) = some (some (.agg #[.int .u64 0, .slice none 0 0]), 2, 32) := by kernel_rfl

/-- A row of plain values, as a walk reads it. -/
theorem owned_at {w : World} {base n : Nat} {e : TypeId} {v : Value} {xs : List Value} (h : w.ownsRow base e 1 v n xs) :
    ∃ ao g cap, v = .slice ao n cap ∧ AtHead ao g 0 n ∧ (ao = none → n = 0) ∧ (0 < n → g < w.heap.size) ∧ ∀ k, k < n → w.cell? ⟨g, k, none⟩ = xs[k]? := by
  rcases h.2 with ⟨rfl, rfl⟩ | ⟨g, cap, cur, rfl, _, hg, _⟩
  · exact ⟨none, 0, 0, rfl, fun h => absurd h (by omega), fun _ => rfl, fun h => absurd h (by omega), fun k hk => absurd hk (by omega)⟩
  · exact ⟨_, g, cap, rfl, fun _ => rfl, by simp, fun _ => lt_of_block hg, fun k hk => h.cellAt k (by omega)⟩

theorem name_in {w : World} {B B' g n cap : Nat} {ds : List Cm} (hn : ds.length = n) (hty : ∀ d ∈ ds, d.ty < 18446744073709551616) (h : w.ownsRow B 86 2 (.slice (some ⟨g, 0, none⟩) n cap) n (flat ds))
    (hall : ∀ d ∈ ds, w.ownsRow B' 5 1 (slv d) d.bs.length (Lib.byteCells d.bs)) : NameIn w w.heap.size g 0 ds := by
  intro k c hc
  have hk : k < n := by have := (List.getElem?_eq_some_iff.1 hc).1; omega
  obtain ⟨f1, f2⟩ := flat_at ds k c hc
  have hm : c ∈ ds := List.mem_of_getElem? hc
  refine ⟨?_, ?_, src_of_owns (hall c hm) (Nat.le_refl _), hty c hm, (h.lt g rfl).2⟩
  · rw [Nat.zero_add, h.cellAt (k * 2) (by omega), f1]; rfl
  · rw [Nat.zero_add, h.cellAt (k * 2 + 1) (by omega), f2]; rfl

set_option maxRecDepth 100000 in
set_option maxHeartbeats 1000000 in
theorem name_any (vt vv : Value) (n B : Nat) (ds : List Cm) (w : World) (hn : ds.length = n) (hnn : n ≤ 1099511627776) (hty : ∀ d ∈ ds, d.ty < 18446744073709551616)
    (ht : w.ownsRow B 24 1 vt n (ds.map tyv)) (hv : w.ownsRow B 45 1 vv n (ds.map slv)) (hall : ∀ d ∈ ds, w.ownsRow B 5 1 (slv d) d.bs.length (Lib.byteCells d.bs)) :
    Calls Try.prog 33 #[vt, vv] w fun e w' => ∃ ao g cap, e = .returned (.slice ao n cap) ∧ AtHead ao g 0 n ∧ (ao = none → n = 0) ∧ NameIn w' w'.heap.size g 0 ds ∧ Below w.heap.size w w' := by
  have q31 : ∀ (w : World) (a : Option Addr) (n c n' c' : Nat), (binOp .eql 31 (.slice a n c) (.slice none n' c')).run Try.prog w = .ok (.bool a.isNone) w := fun w a n c n' c' => Lib.run_eql_slice_nil w _ _ a n c n' c' Try.underlying31
  obtain ⟨at1, gt, ct, rfl, t1, t2, t3, t4⟩ := owned_at ht
  obtain ⟨av1, gv, cv, rfl, v1, v2, v3, v4⟩ := owned_at hv
  have Hn := Hid.mk hn
  have Hall := Hid.mk hall
  have Hty := Hid.mk hty
  have Ht4 := Hid.mk t4
  have Hv4 := Hid.mk v4
  clear hn hall hty ht hv t4 v4
  rcases at1 with _ | a
  · obtain rfl := t2 rfl
    obtain rfl : ds = [] := List.eq_nil_of_length_eq_zero Hn.out
    clear t1 t2 t3 v1 v2 v3 Ht4 Hv4 Hall Hty Hn
    go_enter Try.func33, Try.ntmps33
    go_wp2
    go_ret
    exact ⟨none, 0, 0, rfl, fun h => absurd h (by omega), by simp, fun k c hc => by simp at hc, Below.refl _ _⟩
  · obtain ⟨i0, hi, hz0, hz1, hz2⟩ := info_parts Try.info86
    go_enter Try.func33, Try.ntmps33
    go_wp2_with (at_make; refine wpList_make_full _ rfl _ _ 61 rfl w.heap.size 86 i0 (.agg #[.int .u64 0, .slice none 0 0]) 2 Try.underlying61 hi hz0 hz1 _ _ _ _ n rfl rfl rfl rfl (by rw [hz2]; omega) (by unfold maxLen; omega) (Nat.le_refl _) ?_)
    intro w1 hown hgr
    have hbel : Below w.heap.size w w1 := (Below.refl _ _).grown hgr (Nat.le_refl _) (by simp)
    rw [show (madeCells #[Value.int .u64 0, .slice none 0 0] (n * 2)).toList = flat (ds.take 0) ++ zz (n - 0) from zz_made n] at hown
    clear hgr hi hz0 hz1 hz2
    go_wp2
    go_loopw [6] (fun i wr => ∃ k : Nat, k ≤ n ∧ i = .int .i64 k ∧ wr.ownsRow w.heap.size 86 2 (.slice (some ⟨w.heap.size, 0, none⟩) n n) n (flat (ds.take k) ++ zz (n - k)) ∧ Below w.heap.size w wr) (fun i _ => n - (intOf i).toNat)
    case atStart => exact ⟨0, Nat.zero_le _, rfl, hown, hbel⟩
    case round =>
      clear hown hbel
      obtain ⟨k, hk, rfl, hown, hbel⟩ := hrel
      by_cases hlt : k < n
      · have h1 := Option.some.inj (t1 (by omega))
        have h2 := v1 (by omega)
        subst h1 h2
        obtain ⟨d, hd⟩ : ∃ d, ds[k]? = some d := ⟨ds[k]'(by rw [Hn.out]; exact hlt), List.getElem?_eq_getElem (by rw [Hn.out]; exact hlt)⟩
        have r1 : wr.cell? ⟨gt, k, none⟩ = some (.int .u64 d.ty) := by rw [hbel.cell (p := ⟨gt, k, none⟩) (t3 (by omega)), Ht4.out k hlt, List.getElem?_map, hd]; rfl
        have r2 : wr.cell? ⟨gv, k, none⟩ = some (.slice d.ao d.bs.length d.cp) := by rw [hbel.cell (p := ⟨gv, k, none⟩) (v3 (by omega)), Hv4.out k hlt, List.getElem?_map, hd]; rfl
        have hdt : (ds.take k).length = k := by rw [List.length_take, Hn.out]; omega
        have hst := ((hown.stored (k * 2) (tyv d)).1.stored (k * 2 + 1) (slv d)).1
        rw [flat_set (ds.take k) d n k hdt hlt, show ds.take k ++ [d] = ds.take (k + 1) from by obtain ⟨hkk, rfl⟩ := List.getElem?_eq_some_iff.1 hd; rw [List.take_succ_eq_append_getElem hkk]] at hst
        have hst' : ((wr.setCell ⟨w.heap.size, k * 2, none⟩ (.int .u64 d.ty)).setCell ⟨w.heap.size, k * 2 + 1, none⟩ (.slice d.ao d.bs.length d.cp)).ownsRow w.heap.size 86 2 (.slice (some ⟨w.heap.size, 0, none⟩) n n) n (flat (ds.take (k + 1)) ++ zz (n - (k + 1))) := hst
        have Hst := Hid.mk hst'
        have f1 := hown.frozenAt (k * 2)
        have f2 := hown.frozenAt (k * 2 + 1)
        have hX : (flat (ds.take k) ++ zz (n - k)).length = n * 2 := hown.1
        obtain ⟨u1, hu1⟩ : ∃ u, wr.cell? ⟨w.heap.size, k * 2, none⟩ = some u := ⟨(flat (ds.take k) ++ zz (n - k))[k * 2]'(by rw [hX]; omega), by rw [hown.cellAt (k * 2) (by omega)]; exact List.getElem?_eq_getElem _⟩
        obtain ⟨u2, hu2⟩ : ∃ u, wr.cell? ⟨w.heap.size, k * 2 + 1, none⟩ = some u := ⟨(flat (ds.take k) ++ zz (n - k))[k * 2 + 1]'(by rw [hX]; omega), by rw [hown.cellAt (k * 2 + 1) (by omega)]; exact List.getElem?_eq_getElem _⟩
        have hb2 := (hbel.setCell (p := ⟨w.heap.size, k * 2, none⟩) (Nat.le_refl _) (.int .u64 d.ty)).setCell (p := ⟨w.heap.size, k * 2 + 1, none⟩) (Nat.le_refl _) (.slice d.ao d.bs.length d.cp)
        clear hown hst hst' hX hd hdt
        go_wp2
        go_roundw
        case rel => exact ⟨k + 1, by omega, by go_num, Hst.out, hb2⟩
        case measure => simp [intOf]; omega
      · obtain rfl : k = n := by omega
        rw [List.take_of_length_le (Nat.le_of_eq Hn.out), Nat.sub_self, zz, List.append_nil] at hown
        have hNI := name_in Hn.out Hty.out hown (fun d hd => own_later (Hall.out d hd) hbel)
        have HNI := Hid.mk hNI
        clear hown hNI
        go_wp2
        go_ret
        exact ⟨_, w.heap.size, _, rfl, fun _ => rfl, by simp, HNI.out, hbel⟩
end Go.Proofs.Qxb6604512a
