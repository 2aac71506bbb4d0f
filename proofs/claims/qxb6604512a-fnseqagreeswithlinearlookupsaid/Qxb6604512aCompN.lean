import Derived.Test.Qxb6604512aComp
namespace Go.Proofs.Qxb6604512a
open Go.RowKit

/-- 'zzCompName'. -/
def cmpN : List Cm → List Cm → Int
  | c :: cs, d :: ds => if cmpC c d = 0 then cmpN cs ds else cmpC c d
  | [], [] => 0
  | [], _ :: _ => -1
  | _ :: _, [] => 1

theorem cmpN_step (xs ys : List Cm) (k : Nat) (c d : Cm) (hc : xs[k]? = some c) (hd : ys[k]? = some d) :
    cmpN (xs.drop k) (ys.drop k) = if cmpC c d = 0 then cmpN (xs.drop (k + 1)) (ys.drop (k + 1)) else cmpC c d := by
  obtain ⟨h1, rfl⟩ := List.getElem?_eq_some_iff.1 hc
  obtain ⟨h2, rfl⟩ := List.getElem?_eq_some_iff.1 hd
  rw [List.drop_eq_getElem_cons h1, List.drop_eq_getElem_cons h2, cmpN]

theorem cmpN_eq (xs ys : List Cm) (h1 : xs.length = 0) (h2 : ys.length = 0) : cmpN xs ys = 0 := by
  rw [List.eq_nil_of_length_eq_zero h1, List.eq_nil_of_length_eq_zero h2]; rfl
theorem cmpN_lt (xs ys : List Cm) (h1 : xs.length = 0) (h2 : 0 < ys.length) : cmpN xs ys = -1 := by
  rw [List.eq_nil_of_length_eq_zero h1]
  cases ys with
  | nil => simp at h2
  | cons _ _ => rfl
theorem cmpN_gt (xs ys : List Cm) (h2 : ys.length = 0) (h1 : 0 < xs.length) : cmpN xs ys = 1 := by
  rw [List.eq_nil_of_length_eq_zero h2]
  cases xs with
  | nil => simp at h1
  | cons _ _ => rfl

theorem keep5 {w w' : World} {a b c d : Addr} {x y z t : Value} (h : Below w.heap.size w w') (h1 : w.cell? a = some x) (h2 : w.cell? b = some y) (h3 : w.cell? c = some z) (h4 : w.cell? d = some t) :
    Below w.heap.size w w' ∧ w'.cell? a = some x ∧ w'.cell? b = some y ∧ w'.cell? c = some z ∧ w'.cell? d = some t :=
  ⟨h, cell_later h h1, cell_later h h2, cell_later h h3, cell_later h h4⟩

set_option maxRecDepth 100000 in
set_option maxHeartbeats 2000000 in
theorem compN_any (ao : Option Addr) (g off n cap : Nat) (cs : List Cm) (ao2 : Option Addr) (g2 off2 n2 cap2 : Nat) (cs2 : List Cm) (w : World) (hn : cs.length = n) (hao : AtHead ao g off n) (hN : NameIn w w.heap.size g off cs) (hnn : n ≤ 1099511627776)
    (hv : ∀ c ∈ cs, c.bs.length ≤ 1099511627776) (hn2 : cs2.length = n2) (hao2 : AtHead ao2 g2 off2 n2) (hN2 : NameIn w w.heap.size g2 off2 cs2) (hnn2 : n2 ≤ 1099511627776) :
    Calls Try.prog 22 #[.slice ao n cap, .slice ao2 n2 cap2] w fun e w' => e = .returned (.int .i64 (cmpN cs cs2)) ∧ Below w.heap.size w w' := by
  have Hn := Hid.mk hn
  have Hn2 := Hid.mk hn2
  have Hv := Hid.mk hv
  clear hn hn2 hv
  by_cases hcmp : n2 < n
  · have hdc : decide ((n2 : Int) < (n : Int)) = true := by simpa using hcmp
    go_enter Try.func22, Try.ntmps22
    go_wp2
    go_loopw [6, 7] (fun i _ wr => ∃ k : Nat, k ≤ n2 ∧ i = .int .i64 k ∧ Hid (cmpN cs cs2 = cmpN (cs.drop k) (cs2.drop k)) ∧ Below w.heap.size w wr) (fun i _ _ => n2 - (intOf i).toNat)
    case atStart => exact ⟨0, Nat.zero_le _, rfl, rfl, Below.refl _ _⟩
    case round =>
      obtain ⟨k, hk, rfl, Hk, hb⟩ := hrel
      by_cases hlt : k < n2
      · have h1 := hao (by omega)
        have h2 := hao2 (by omega)
        subst h1 h2
        obtain ⟨c, hc⟩ : ∃ c, cs[k]? = some c := ⟨cs[k]'(by rw [Hn.out]; omega), List.getElem?_eq_getElem (by rw [Hn.out]; omega)⟩
        obtain ⟨d, hdd⟩ : ∃ d, cs2[k]? = some d := ⟨cs2[k]'(by rw [Hn2.out]; omega), List.getElem?_eq_getElem (by rw [Hn2.out]; omega)⟩
        obtain ⟨c1, c2, c3, _, c5⟩ := hN k c hc
        obtain ⟨d1, d2, d3, _, d5⟩ := hN2 k d hdd
        have hst := cmpN_step cs cs2 k c d hc hdd
        have hcv := Hv.out c (List.mem_of_getElem? hc)
        have Hcall := Hid.mk (fun W (hW : Below w.heap.size w W) => (compC_any c d W hcv (c3.later hW hW.size) (d3.later hW hW.size)).mono (fun e w' h => (⟨h.1, hW.trans (h.2.mono hW.size)⟩ : e = .returned (.int .i64 (cmpC c d)) ∧ Below w.heap.size w w')))
        have C1 := Hid.mk c1
        have C2 := Hid.mk c2
        have D1 := Hid.mk d1
        have D2 := Hid.mk d2
        have e0 : (0 : Int) ≤ (k : Int) := Int.natCast_nonneg _
        have e1 : (k : Int) < (n : Int) := by omega
        have e2 : (k : Int) < (n2 : Int) := by omega
        have Hst := Hid.mk hst
        clear c1 c2 c3 d1 d2 d3 c5 d5 hc hdd hN hN2 hao hao2 hcv hst
        generalize cmpC c d = r at *
        go_wp2_with fail
        go_region_held3 (fun w' => Below w.heap.size w w' ∧ w'.cell? ⟨g, off + k * 2, none⟩ = some (.int .u64 c.ty) ∧ w'.cell? ⟨g, off + k * 2 + 1, none⟩ = some (.slice c.ao c.bs.length c.cp) ∧ w'.cell? ⟨g2, off2 + k * 2, none⟩ = some (.int .u64 d.ty) ∧ w'.cell? ⟨g2, off2 + k * 2 + 1, none⟩ = some (.slice d.ao d.bs.length d.cp))
          (exact keep5 (by first | assumption | exact Below.drew (by assumption)) C1.out C2.out D1.out D2.out)
          (first | (go_at_call 37; refine (Hcall.out _ (by first | assumption | exact Below.drew (by assumption))).mono ?_; rintro e w6 ⟨rfl, hb7⟩))
        by_cases hr : r = 0
        · have hne : (r != 0) = false := by simp [hr]
          have Hk' := Hid.mk (Hk.out.trans (Hst.out.trans (if_pos hr)))
          clear hr
          go_wp2
          go_roundw
          case rel => exact ⟨k + 1, by omega, by go_num, Hk', hb7⟩
          case measure => simp [intOf]; omega
        · have hne : (r != 0) = true := by simp [hr]
          have Hk' := Hid.mk (Hk.out.trans (Hst.out.trans (if_neg hr)))
          clear hr
          go_wp2
          go_ret
          exact ⟨ret_int (by rw [Hk'.out]), hb7⟩
      · obtain rfl : k = n2 := by omega
        have hr : cmpN cs cs2 = 1 := Hk.out.trans (cmpN_gt _ _ (by rw [List.length_drop, Hn2.out]; omega) (by rw [List.length_drop, Hn.out]; omega))
        have Hr := Hid.mk hr
        clear hr
        have h3 : ¬ (n : Int) < (k : Int) := by omega
        go_wp2
        go_ret
        exact ⟨ret_int (by rw [Hr.out]), hb⟩
  · have hdc : decide ((n2 : Int) < (n : Int)) = false := by simpa using hcmp
    go_enter Try.func22, Try.ntmps22
    go_wp2
    go_loopw [6, 7] (fun i _ wr => ∃ k : Nat, k ≤ n ∧ i = .int .i64 k ∧ Hid (cmpN cs cs2 = cmpN (cs.drop k) (cs2.drop k)) ∧ Below w.heap.size w wr) (fun i _ _ => n - (intOf i).toNat)
    case atStart => exact ⟨0, Nat.zero_le _, rfl, rfl, Below.refl _ _⟩
    case round =>
      obtain ⟨k, hk, rfl, Hk, hb⟩ := hrel
      by_cases hlt : k < n
      · have h1 := hao (by omega)
        have h2 := hao2 (by omega)
        subst h1 h2
        obtain ⟨c, hc⟩ : ∃ c, cs[k]? = some c := ⟨cs[k]'(by rw [Hn.out]; omega), List.getElem?_eq_getElem (by rw [Hn.out]; omega)⟩
        obtain ⟨d, hdd⟩ : ∃ d, cs2[k]? = some d := ⟨cs2[k]'(by rw [Hn2.out]; omega), List.getElem?_eq_getElem (by rw [Hn2.out]; omega)⟩
        obtain ⟨c1, c2, c3, _, c5⟩ := hN k c hc
        obtain ⟨d1, d2, d3, _, d5⟩ := hN2 k d hdd
        have hst := cmpN_step cs cs2 k c d hc hdd
        have hcv := Hv.out c (List.mem_of_getElem? hc)
        have Hcall := Hid.mk (fun W (hW : Below w.heap.size w W) => (compC_any c d W hcv (c3.later hW hW.size) (d3.later hW hW.size)).mono (fun e w' h => (⟨h.1, hW.trans (h.2.mono hW.size)⟩ : e = .returned (.int .i64 (cmpC c d)) ∧ Below w.heap.size w w')))
        have C1 := Hid.mk c1
        have C2 := Hid.mk c2
        have D1 := Hid.mk d1
        have D2 := Hid.mk d2
        have e0 : (0 : Int) ≤ (k : Int) := Int.natCast_nonneg _
        have e1 : (k : Int) < (n : Int) := by omega
        have e2 : (k : Int) < (n2 : Int) := by omega
        have Hst := Hid.mk hst
        clear c1 c2 c3 d1 d2 d3 c5 d5 hc hdd hN hN2 hao hao2 hcv hst
        generalize cmpC c d = r at *
        go_wp2_with fail
        go_region_held3 (fun w' => Below w.heap.size w w' ∧ w'.cell? ⟨g, off + k * 2, none⟩ = some (.int .u64 c.ty) ∧ w'.cell? ⟨g, off + k * 2 + 1, none⟩ = some (.slice c.ao c.bs.length c.cp) ∧ w'.cell? ⟨g2, off2 + k * 2, none⟩ = some (.int .u64 d.ty) ∧ w'.cell? ⟨g2, off2 + k * 2 + 1, none⟩ = some (.slice d.ao d.bs.length d.cp))
          (exact keep5 (by first | assumption | exact Below.drew (by assumption)) C1.out C2.out D1.out D2.out)
          (first | (go_at_call 37; refine (Hcall.out _ (by first | assumption | exact Below.drew (by assumption))).mono ?_; rintro e w6 ⟨rfl, hb7⟩))
        by_cases hr : r = 0
        · have hne : (r != 0) = false := by simp [hr]
          have Hk' := Hid.mk (Hk.out.trans (Hst.out.trans (if_pos hr)))
          clear hr
          go_wp2
          go_roundw
          case rel => exact ⟨k + 1, by omega, by go_num, Hk', hb7⟩
          case measure => simp [intOf]; omega
        · have hne : (r != 0) = true := by simp [hr]
          have Hk' := Hid.mk (Hk.out.trans (Hst.out.trans (if_neg hr)))
          clear hr
          go_wp2
          go_ret
          exact ⟨ret_int (by rw [Hk'.out]), hb7⟩
      · obtain rfl : k = n := by omega
        by_cases hlt2 : k < n2
        · have hr : cmpN cs cs2 = -1 := Hk.out.trans (cmpN_lt _ _ (by rw [List.length_drop, Hn.out]; omega) (by rw [List.length_drop, Hn2.out]; omega))
          have Hr := Hid.mk hr
          clear hr
          go_wp2
          go_ret
          exact ⟨ret_int (by rw [Hr.out]), hb⟩
        · have hr : cmpN cs cs2 = 0 := Hk.out.trans (cmpN_eq _ _ (by rw [List.length_drop, Hn.out]; omega) (by rw [List.length_drop, Hn2.out]; omega))
          have Hr := Hid.mk hr
          clear hr
          go_wp2
          go_ret
          exact ⟨ret_int (by rw [Hr.out]), hb⟩
end Go.Proofs.Qxb6604512a
