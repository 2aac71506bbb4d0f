import Derived.Test.Qxb6604512aNcmp
import Derived.Deep.RegionHeld3
namespace Go.Proofs.Qxb6604512a
open Go.RowKit

theorem cmpI_nat (a b : Nat) (h : a ≠ b) : cmpI a b = if a < b then -1 else 1 := by
  unfold cmpI
  by_cases h1 : a < b
  · rw [if_pos (by omega), if_pos h1]
  · rw [if_neg (by omega), if_pos (by omega), if_neg h1]

set_option maxRecDepth 100000 in
set_option maxHeartbeats 1000000 in
/-- Component.Compare: the same order as the law's own. -/
theorem compK_any (c d : Cm) (w : World) (hc : Src w w.heap.size (.slice c.ao c.bs.length c.cp) c.bs) (hd : Src w w.heap.size (.slice d.ao d.bs.length d.cp) d.bs) :
    Calls Try.prog 61 #[.agg #[.int .u64 c.ty, .slice c.ao c.bs.length c.cp], .agg #[.int .u64 d.ty, .slice d.ao d.bs.length d.cp]] w fun e w' => e = .returned (.int .i64 (cmpC c d)) ∧ Below w.heap.size w w' := by
  obtain ⟨t1, a1, c1, l⟩ := c
  obtain ⟨t2, a2, c2, m⟩ := d
  simp only at *
  have hb2 : ∀ o1 o2, Below w.heap.size w ((w.alloc o1).alloc o2) := fun o1 o2 => ((Below.refl _ _).alloc (Nat.le_refl _) _).alloc (by simp) _
  have Hb2 := Hid.mk hb2
  clear hb2
  by_cases ht : t1 = t2
  · subst ht
    by_cases hn : l.length = m.length
    · have hr : cmpC ⟨t1, a1, c1, l⟩ ⟨t1, a2, c2, m⟩ = cmpB l m := by unfold cmpC; rw [if_neg (by simp), if_neg (by simpa using hn)]
      rw [hr, ← compareBytes_eq l m hn]
      have Hc := Hid.mk (fun o1 o2 => bcmp_any ((w.alloc o1).alloc o2) (hc.later (Hb2.out o1 o2) (Hb2.out o1 o2).size) (hd.later (Hb2.out o1 o2) (Hb2.out o1 o2).size))
      have Hm := Hid.mk hn
      have hne : ((l.length : Int) != (m.length : Int)) = false := by simp [hn]
      have hne2 : ((t1 : Int) != (t1 : Int)) = false := by simp
      clear hc hd hr hn
      generalize Lib.compareBytes l m = q at *
      go_enter Try.func61, Try.ntmps61
      go_wp2_with (go_at_call 68; refine (Hc.out _ _).mono ?_; rintro e w' ⟨rfl, rfl⟩)
      go_ret
      exact ⟨rfl, Hb2.out _ _⟩
    · have hr : cmpC ⟨t1, a1, c1, l⟩ ⟨t1, a2, c2, m⟩ = cmpI l.length m.length := by unfold cmpC; rw [if_neg (by simp), if_pos hn, cmpI_nat _ _ hn]
      rw [hr]
      clear hc hd hr
      generalize l.length = x at *
      generalize m.length = y at *
      have hne : ((x : Int) != (y : Int)) = true := by rw [bne_iff_ne]; omega
      have hne2 : ((t1 : Int) != (t1 : Int)) = false := by simp
      clear hn
      go_enter Try.func61, Try.ntmps61
      go_wp2_with (go_at_call 62; refine (cmp3_any _ _ _).mono ?_; rintro e w' ⟨rfl, rfl⟩)
      go_ret
      exact ⟨rfl, Hb2.out _ _⟩
  · have hr : cmpC ⟨t1, a1, c1, l⟩ ⟨t2, a2, c2, m⟩ = cmpI t1 t2 := by unfold cmpC; rw [if_pos ht, cmpI_nat _ _ ht]
    rw [hr]
    clear hc hd hr
    have hne : ((t1 : Int) != (t2 : Int)) = true := by rw [bne_iff_ne]; omega
    clear ht
    go_enter Try.func61, Try.ntmps61
    go_wp2_with (go_at_call 67; refine (cmp84_any _ _ _).mono ?_; rintro e w' ⟨rfl, rfl⟩)
    go_ret
    exact ⟨rfl, Hb2.out _ _⟩

theorem cmpN_len (xs ys : List Cm) (h : xs.length = 0 ∨ ys.length = 0) : cmpN xs ys = cmpI xs.length ys.length := by
  cases xs with
  | nil => cases ys with
    | nil => rfl
    | cons _ _ => rw [cmpN, cmpI, if_pos (by simp)]
  | cons _ _ => cases ys with
    | nil => rw [cmpN, cmpI, if_neg (by simp; omega), if_pos (by simp)]
    | cons _ _ => simp at h

theorem cmpI_sub (a b k : Nat) (h1 : k ≤ a) (h2 : k ≤ b) : cmpI (a - k : Nat) (b - k : Nat) = cmpI a b := by
  have e1 : (((a - k : Nat) : Int) < ((b - k : Nat) : Int)) = ((a : Int) < (b : Int)) := propext (by omega)
  have e2 : (((b - k : Nat) : Int) < ((a - k : Nat) : Int)) = ((b : Int) < (a : Int)) := propext (by omega)
  unfold cmpI
  simp only [e1, e2]

set_option maxRecDepth 100000 in
set_option maxHeartbeats 2000000 in
/-- Name.Compare: the same order as the law's own. -/
theorem nameC_any (ao : Option Addr) (g off n cap : Nat) (cs : List Cm) (ao2 : Option Addr) (g2 off2 n2 cap2 : Nat) (cs2 : List Cm) (w : World) (hn : cs.length = n) (hao : AtHead ao g off n) (hN : NameIn w w.heap.size g off cs) (hnn : n ≤ 1099511627776)
    (hn2 : cs2.length = n2) (hao2 : AtHead ao2 g2 off2 n2) (hN2 : NameIn w w.heap.size g2 off2 cs2) (hnn2 : n2 ≤ 1099511627776) :
    Calls Try.prog 54 #[.slice ao n cap, .slice ao2 n2 cap2] w fun e w' => e = .returned (.int .i64 (cmpN cs cs2)) ∧ Below w.heap.size w w' := by
  have Hn := Hid.mk hn
  have Hn2 := Hid.mk hn2
  clear hn hn2
  obtain ⟨mm, hm, hm1, hm2, hm3⟩ : ∃ mm : Nat, min (n : Int) (n2 : Int) = (mm : Int) ∧ mm ≤ n ∧ mm ≤ n2 ∧ (mm = n ∨ mm = n2) := ⟨min n n2, by omega, by omega, by omega, by omega⟩
  go_enter Try.func54, Try.ntmps54
  go_wp2
  go_loopw [12, 5, 6] (fun i _ _ wr => ∃ k : Nat, k ≤ mm ∧ i = .int .i64 k ∧ Hid (cmpN cs cs2 = cmpN (cs.drop k) (cs2.drop k)) ∧ Below w.heap.size w wr) (fun i _ _ _ => mm - (intOf i).toNat)
  case atStart => exact ⟨0, Nat.zero_le _, rfl, rfl, Below.refl _ _⟩
  case round =>
    obtain ⟨k, hk, rfl, Hk, hb⟩ := hrel
    by_cases hlt : k < mm
    · have h1 := hao (by omega)
      have h2 := hao2 (by omega)
      subst h1 h2
      obtain ⟨c, hc⟩ : ∃ c, cs[k]? = some c := ⟨cs[k]'(by rw [Hn.out]; omega), List.getElem?_eq_getElem (by rw [Hn.out]; omega)⟩
      obtain ⟨d, hdd⟩ : ∃ d, cs2[k]? = some d := ⟨cs2[k]'(by rw [Hn2.out]; omega), List.getElem?_eq_getElem (by rw [Hn2.out]; omega)⟩
      obtain ⟨c1, c2, c3, _, c5⟩ := hN k c hc
      obtain ⟨d1, d2, d3, _, d5⟩ := hN2 k d hdd
      have hst := cmpN_step cs cs2 k c d hc hdd
      have Hcall := Hid.mk (fun W (hW : Below w.heap.size w W) => (compK_any c d W (c3.later hW hW.size) (d3.later hW hW.size)).mono (fun e w' h => (⟨h.1, hW.trans (h.2.mono hW.size)⟩ : e = .returned (.int .i64 (cmpC c d)) ∧ Below w.heap.size w w')))
      have C1 := Hid.mk c1
      have C2 := Hid.mk c2
      have D1 := Hid.mk d1
      have D2 := Hid.mk d2
      have e0 : (0 : Int) ≤ (k : Int) := Int.natCast_nonneg _
      have e1 : (k : Int) < (n : Int) := by omega
      have e2 : (k : Int) < (n2 : Int) := by omega
      have Hst := Hid.mk hst
      clear c1 c2 c3 d1 d2 d3 c5 d5 hc hdd hN hN2 hao hao2 hst hm3
      generalize cmpC c d = r at *
      go_wp2_with fail
      go_region_held3 (fun w' => Below w.heap.size w w' ∧ w'.cell? ⟨g, off + k * 2, none⟩ = some (.int .u64 c.ty) ∧ w'.cell? ⟨g, off + k * 2 + 1, none⟩ = some (.slice c.ao c.bs.length c.cp) ∧ w'.cell? ⟨g2, off2 + k * 2, none⟩ = some (.int .u64 d.ty) ∧ w'.cell? ⟨g2, off2 + k * 2 + 1, none⟩ = some (.slice d.ao d.bs.length d.cp))
        (exact keep5 (by first | assumption | exact Below.drew (by assumption)) C1.out C2.out D1.out D2.out)
        (first | (go_at_call 61; refine (Hcall.out _ (by first | assumption | exact Below.drew (by assumption))).mono ?_; rintro e w6 ⟨rfl, hb7⟩))
      by_cases hr : r = 0
      · have hne : (r != 0) = false := by simp [hr]
        have Hk' := Hid.mk (Hk.out.trans (Hst.out.trans (if_pos hr)))
        clear hr
        go_wp2
        go_roundw
        case rel => exact ⟨k + 1, by omega, by go_num, Hk', hb7⟩
        case measure => simp [intOf]; omega
      · have hne : (r != 0) = true := by simp [hr]
        have Hk' := Hid.mk (Hk.out.trans (Hst.out.trans (if_neg hr)))
        clear hr
        go_wp2
        go_ret
        exact ⟨ret_int (by rw [Hk'.out]), hb7⟩
    · obtain rfl : k = mm := by omega
      have hr : cmpN cs cs2 = cmpI n n2 := by
        rw [Hk.out, cmpN_len _ _ (by rw [List.length_drop, List.length_drop, Hn.out, Hn2.out]; omega), List.length_drop, List.length_drop, Hn.out, Hn2.out, cmpI_sub _ _ _ hm1 hm2]
      have Hr := Hid.mk hr
      clear hr
      go_wp2_with (go_at_call 62; refine (cmp3_any _ _ _).mono ?_; rintro e w' ⟨rfl, rfl⟩)
      go_ret
      exact ⟨ret_int (by rw [Hr.out]), hb⟩

set_option maxHeartbeats 1000000 in
/-- find's closure over names. -/
theorem cl53_any (ao : Option Addr) (g off n cap : Nat) (cs : List Cm) (sv : Value) (ao2 : Option Addr) (g2 off2 n2 cap2 : Nat) (cs2 : List Cm) (w : World) (hn : cs.length = n) (hao : AtHead ao g off n) (hN : NameIn w w.heap.size g off cs) (hnn : n ≤ 1099511627776)
    (hn2 : cs2.length = n2) (hao2 : AtHead ao2 g2 off2 n2) (hN2 : NameIn w w.heap.size g2 off2 cs2) (hnn2 : n2 ≤ 1099511627776) (hsv : ∃ a n c, sv = .slice a n c) :
    Calls Try.prog 53 #[.agg #[.slice ao n cap, sv], .slice ao2 n2 cap2] w fun e w' => e = .returned (.int .i64 (cmpN cs cs2)) ∧ Below w.heap.size w w' := by
  obtain ⟨sa, sn, sc, rfl⟩ := hsv
  have hb : ∀ o, Below w.heap.size w (w.alloc o) := fun o => (Below.refl _ _).alloc (Nat.le_refl _) _
  have H := Hid.mk (fun o => nameC_any ao g off n cap cs ao2 g2 off2 n2 cap2 cs2 (w.alloc o) hn hao (hN.later (hb o) (hb o).size) hnn hn2 hao2 (hN2.later (hb o) (hb o).size) hnn2)
  have Hb := Hid.mk hb
  clear hb hN hN2 hao hao2 hn hn2 hnn hnn2
  generalize cmpN cs cs2 = q at *
  go_enter Try.func53, Try.ntmps53
  go_wp2_with (go_at_call 54; refine (H.out _).mono ?_; rintro e w' ⟨rfl, h2⟩)
  go_ret
  exact ⟨rfl, (Hb.out _).trans (h2.mono (Hb.out _).size)⟩

/-- find's closure over bootstrap times. -/
theorem cl56_any (a s b : Int) (w : World) :
    Calls Try.prog 56 #[.agg #[.int .u64 a, .int .u64 s], .int .u64 b] w fun e w' => e = .returned (.int .i64 (cmpI a b)) ∧ Below w.heap.size w w' := by
  have Hb := Hid.mk (fun o => ((Below.refl w.heap.size w).alloc (Nat.le_refl _) o))
  go_enter Try.func56, Try.ntmps56
  go_wp2_with (go_at_call 57; refine (cmp24_any _ _ _).mono ?_; rintro e w' ⟨rfl, rfl⟩)
  go_ret
  exact ⟨rfl, Hb.out _⟩
end Go.Proofs.Qxb6604512a
