import Derived.Test.Qxb6604512aPlain
namespace Go.Proofs.Qxb6604512a
open Go.RowKit

theorem Same.encName {ds cs : List Cm} (h : Same ds cs) : encName ds = encName cs := by unfold Qxb6604512a.encName; rw [h.enc]

theorem Same.ty {ds cs : List Cm} (h : Same ds cs) (hc : ∀ c ∈ cs, c.ty < 18446744073709551616) : ∀ d ∈ ds, d.ty < 18446744073709551616 := by
  intro d hd
  have : (d.ty, d.bs) ∈ ds.map (fun c => (c.ty, c.bs)) := List.mem_map_of_mem hd
  rw [h] at this
  obtain ⟨c, hc', he⟩ := List.mem_map.1 this
  simp only [Prod.mk.injEq] at he
  rw [← he.1]
  exact hc c hc'

theorem NameIn.ty {w : World} {B g off : Nat} {cs : List Cm} (h : NameIn w B g off cs) : ∀ c ∈ cs, c.ty < 18446744073709551616 := by
  intro c hc
  obtain ⟨k, hk⟩ := List.getElem?_of_mem hc
  exact (h k c hk).2.2.2.1

theorem all_later {w w' : World} {B : Nat} {ds : List Cm} (h : ∀ d ∈ ds, w.ownsRow B 5 1 (slv d) d.bs.length (Lib.byteCells d.bs)) (hb : Below w.heap.size w w') : ∀ d ∈ ds, w'.ownsRow B 5 1 (slv d) d.bs.length (Lib.byteCells d.bs) := fun d hd => own_later (h d hd) hb

theorem cost_small (cs : List Cm) (h : cost cs ≤ 1048576) : cs.length ≤ 32768 ∧ vals cs ≤ 1048576 ∧ (encComps cs).length ≤ 1048576 ∧ cost cs = 32 * cs.length + vals cs ∧ ∀ c ∈ cs, c.bs.length ≤ 1048576 := by
  have hc : 32 * cs.length + vals cs ≤ 1048576 := by
    by_cases h' : 32 * cs.length + vals cs ≤ 1048576
    · exact h'
    · rw [cost_big cs (by omega)] at h; omega
  have he := enc_bound cs
  exact ⟨by omega, by omega, by omega, cost_ok cs hc, fun c hm => by have := vals_mem cs c hm; omega⟩

set_option maxRecDepth 100000 in
set_option maxHeartbeats 4000000 in
theorem equal_any (ao : Option Addr) (g off n cap : Nat) (cs : List Cm) (bt : Int) (ao2 : Option Addr) (g2 off2 n2 cap2 : Nat) (cs2 : List Cm) (bt2 : Int) (w : World)
    (hn : cs.length = n) (hnil : ao = none → n = 0) (hao : AtHead ao g off n) (hN : NameIn w w.heap.size g off cs)
    (hn2 : cs2.length = n2) (hnil2 : ao2 = none → n2 = 0) (hao2 : AtHead ao2 g2 off2 n2) (hN2 : NameIn w w.heap.size g2 off2 cs2) :
    Calls Try.prog 6 #[.slice ao n cap, .int .u64 bt, .slice ao2 n2 cap2, .int .u64 bt2] w fun e w' => e = .returned (.bool true) ∧ Below w.heap.size w w' := by
  have Hby := Hid.mk (bytes2_any ao g off n cap cs bt ao2 g2 off2 n2 cap2 cs2 bt2 w hn hao w.heap.size hN hn2 hao2 hN2)
  have Hc1 := Hid.mk (cost_any ao g off n cap cs w hn hao w.heap.size hN)
  have Hc2 := Hid.mk (cost_any ao2 g2 off2 n2 cap2 cs2 w hn2 hao2 w.heap.size hN2)
  by_cases hb1 : 1048576 < (cost cs : Int)
  · have hd1 : decide (1048576 < (cost cs : Int)) = true := by simpa using hb1
    clear hN hN2 hn hn2
    generalize cost cs = q1 at *
    go_enter Try.func6, Try.ntmps6
    go_wp2_with (go_at_call 21; refine Hby.out.mono ?_; rintro e w' ⟨⟨r, rfl⟩, hw⟩; have hw := hw.symm; subst hw; cases r)
    · go_ret
      exact ⟨rfl, Below.refl _ _⟩
    clear Hby
    refine Hc1.out.mono ?_
    rintro e w' ⟨rfl, hw⟩
    have hw := hw.symm
    subst hw
    go_wp2
    go_ret
    exact ⟨rfl, Below.refl _ _⟩
  have hd1 : decide (1048576 < (cost cs : Int)) = false := by simpa using hb1
  by_cases hb2 : 1048576 - (cost cs : Int) < (cost cs2 : Int)
  · have hd2 : decide (1048576 - (cost cs : Int) < (cost cs2 : Int)) = true := by simpa using hb2
    clear hN hN2 hn hn2
    generalize cost cs = q1 at *
    generalize cost cs2 = q2 at *
    go_enter Try.func6, Try.ntmps6
    go_wp2_with (go_at_call 21; refine Hby.out.mono ?_; rintro e w' ⟨⟨r, rfl⟩, hw⟩; have hw := hw.symm; subst hw; cases r)
    · go_ret
      exact ⟨rfl, Below.refl _ _⟩
    clear Hby
    refine Hc1.out.mono ?_
    rintro e w' ⟨rfl, hw⟩
    have hw := hw.symm
    subst hw
    go_wp2_with fail
    refine Hc2.out.mono ?_
    rintro e w' ⟨rfl, hw⟩
    have hw := hw.symm
    subst hw
    go_wp2
    go_ret
    exact ⟨rfl, Below.refl _ _⟩
  have hd2 : decide (1048576 - (cost cs : Int) < (cost cs2 : Int)) = false := by simpa using hb2
  obtain ⟨z1, z2, z3, z4, z5⟩ := cost_small cs (by omega)
  obtain ⟨y1, y2, y3, y4, y5⟩ := cost_small cs2 (by omega)
  have F1 : Fits cs := fun c hc => ⟨hN.ty c hc, by have := z5 c hc; omega⟩
  have F2 : Fits cs2 := fun c hc => ⟨hN2.ty c hc, by have := y5 c hc; omega⟩
  have hiff := (encName_inj cs cs2 F1 F2 (by omega) (by omega)).trans (cmpN_zero cs cs2).symm
  have Hs1 := Hid.mk (split_any ao g off n cap cs w hn hnil hao hN (by omega) (by omega))
  have Hs2 := Hid.mk (fun w1 (hb : Below w.heap.size w w1) => split_any ao2 g2 off2 n2 cap2 cs2 w1 hn2 hnil2 hao2 (hN2.later hb hb.size) (by omega) (by omega))
  have Hcp := Hid.mk (fun w1 (hb : Below w.heap.size w w1) => compN_any ao g off n cap cs ao2 g2 off2 n2 cap2 cs2 w1 hn hao (hN.later hb hb.size) (by omega) (fun c hc => by have := z5 c hc; omega) hn2 hao2 (hN2.later hb hb.size) (by omega))
  have T1 := Hid.mk hN.ty
  have T2 := Hid.mk hN2.ty
  have Hn := Hid.mk hn
  have Hn2 := Hid.mk hn2
  have E1 : (encComps cs).length ≤ 549755813888 := by omega
  have E2 : (encComps cs2).length ≤ 549755813888 := by omega
  have N1 : n ≤ 1099511627776 := by omega
  have N2 : n2 ≤ 1099511627776 := by omega
  clear hN hN2 F1 F2 z1 z2 z3 z4 z5 y1 y2 y3 y4 y5 hn hn2 hao hao2 hnil hnil2
  have Hiff := Hid.mk hiff
  clear hiff
  generalize cost cs = q1 at *
  generalize cost cs2 = q2 at *
  generalize hl1 : encName cs = l1 at *
  generalize hl2 : encName cs2 = l2 at *
  have Hl1 := Hid.mk hl1
  have Hl2 := Hid.mk hl2
  clear hl1 hl2
  go_enter Try.func6, Try.ntmps6
  go_wp2_with (go_at_call 21; refine Hby.out.mono ?_; rintro e w' ⟨⟨r, rfl⟩, hw⟩; have hw := hw.symm; subst hw; cases r)
  · go_ret
    exact ⟨rfl, Below.refl _ _⟩
  clear Hby
  refine Hc1.out.mono ?_
  rintro e w' ⟨rfl, hw⟩
  have hw := hw.symm
  subst hw
  go_wp2_with fail
  refine Hc2.out.mono ?_
  rintro e w' ⟨rfl, hw⟩
  have hw := hw.symm
  subst hw
  clear Hc1 Hc2
  go_wp2_with fail
  refine Hs1.out.mono ?_
  rintro e w1 ⟨vt1, vv1, ds1, rfl, hsm1, ht1, hv1, hall1, hb1⟩
  have HA1 := Hid.mk hall1
  have Hs2' := Hid.mk (Hs2.out w1 hb1)
  clear Hs1 hall1 Hs2
  go_wp2_with fail
  refine Hs2'.out.mono ?_
  rintro e w2 ⟨vt2, vv2, ds2, rfl, hsm2, ht2, hv2, hall2, hb2⟩
  have hb02 : Below w.heap.size w w2 := hb1.trans (hb2.mono hb1.size)
  have K1 := Hid.mk (zzkey_any vt1 vv1 n w.heap.size ds1 bt w2 (by rw [hsm1.len, Hn.out]) N1 (by rw [hsm1.enc]; exact E1) (hsm1.ty T1.out) (own_later ht1 hb2) (own_later hv1 hb2) (all_later HA1.out hb2))
  have K2 := Hid.mk (fun w3 (hb : Below w2.heap.size w2 w3) => zzkey_any vt2 vv2 n2 w1.heap.size ds2 bt2 w3 (by rw [hsm2.len, Hn2.out]) N2 (by rw [hsm2.enc]; exact E2) (hsm2.ty T2.out) (own_later ht2 hb) (own_later hv2 hb) (all_later hall2 hb))
  rw [hsm1.encName, Hl1.out] at K1
  rw [hsm2.encName, Hl2.out] at K2
  clear Hs2' HA1 hall2 ht1 hv1 ht2 hv2 hsm1 hsm2 T1 T2
  go_wp2_with fail
  refine K1.out.mono ?_
  rintro e w3 ⟨rfl, hb3⟩
  have K2' := Hid.mk (K2.out w3 hb3)
  have hb03 : Below w.heap.size w w3 := hb02.trans (hb3.mono hb02.size)
  clear K1 K2
  go_wp2_with fail
  refine K2'.out.mono ?_
  rintro e w4 ⟨rfl, hb4⟩
  have hb04 : Below w.heap.size w w4 := hb03.trans (hb4.mono hb03.size)
  have C := Hid.mk (Hcp.out w4 hb04)
  clear K2' Hcp
  generalize cmpN cs cs2 = r at *
  by_cases hbt : bt = bt2
  · subst hbt
    go_wp2_with fail
    · have hl : l1 = l2 := by assumption
      have hr : (r == 0) = true := beq_iff_eq.2 (Hiff.out.1 hl)
      clear hl Hiff
      refine C.out.mono ?_
      rintro e w5 ⟨rfl, hb5⟩
      clear C
      go_wp2
      go_ret
      exact ⟨by simp, hb04.trans (hb5.mono hb04.size)⟩
    · have hl : ¬ l1 = l2 := by assumption
      have hr : (r == 0) = false := beq_eq_false_iff_ne.2 (fun h => hl (Hiff.out.2 h))
      clear hl Hiff
      refine C.out.mono ?_
      rintro e w5 ⟨rfl, hb5⟩
      clear C
      go_wp2
      go_ret
      exact ⟨by simp, hb04.trans (hb5.mono hb04.size)⟩
  · have hbf : (bt == bt2) = false := beq_eq_false_iff_ne.2 hbt
    clear hbt
    go_wp2_with fail
    · have hl : l1 = l2 := by assumption
      have hr : (r == 0) = true := beq_iff_eq.2 (Hiff.out.1 hl)
      clear hl Hiff
      refine C.out.mono ?_
      rintro e w5 ⟨rfl, hb5⟩
      clear C
      go_wp2
      go_ret
      exact ⟨by simp, hb04.trans (hb5.mono hb04.size)⟩
    · have hl : ¬ l1 = l2 := by assumption
      have hr : (r == 0) = false := beq_eq_false_iff_ne.2 (fun h => hl (Hiff.out.2 h))
      clear hl Hiff
      refine C.out.mono ?_
      rintro e w5 ⟨rfl, hb5⟩
      clear C
      go_wp2
      go_ret
      exact ⟨by simp, hb04.trans (hb5.mono hb04.size)⟩
end Go.Proofs.Qxb6604512a
