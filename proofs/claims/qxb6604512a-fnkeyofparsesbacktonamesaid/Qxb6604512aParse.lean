import Derived.Test.Qxb6604512aMatch
import Derived.Test.Qxb6604512aEqual
namespace Go.Proofs.Qxb6604512a
open Go.RowKit

/-- '[]byte(s)'. -/
theorem conv_bytes (l : List UInt8) (w : World) : ∃ cap W, (convert 9 45 (.string ⟨l.toArray⟩)).run Try.prog w = .ok (.slice (some ⟨w.heap.size, 0, none⟩) l.length cap) W ∧ l.length ≤ cap ∧ BytesAt W w.heap.size l.length l ∧ Below w.heap.size w W := by
  have h := run_bytes_of_string (P := Try.prog) w 9 45 5 ⟨l.toArray⟩ Try.underlying9 Try.underlying45 Try.underlying5
  have hs : (⟨l.toArray⟩ : ByteArray).size = l.length := by simp [ByteArray.size]
  rw [hs] at h
  refine ⟨_, _, h, grownCap_ge _ _ _ _, ?_, ((Below.refl _ w).drew).alloc (Nat.le_refl _) _⟩
  intro j hj
  have hb := heap_alloc_new w.drew (Obj.cells (bytesRow ⟨l.toArray⟩ (grownCap w l.length 0 5)) 5 ((bytesRow ⟨l.toArray⟩ (grownCap w l.length 0 5)).size, (bytesRow ⟨l.toArray⟩ (grownCap w l.length 0 5)).size + 1))
  refine (cell_of_row _ w.heap.size j _ 5 _ hb).trans ?_
  unfold bytesRow
  rw [Array.getElem?_append_left (by simpa using hj)]
  simp [hj]

set_option maxRecDepth 100000 in
set_option maxHeartbeats 2000000 in
theorem parse_any (ao : Option Addr) (g off n cap : Nat) (cs : List Cm) (bt : Int) (w : World) (hn : cs.length = n) (hnil : ao = none → n = 0) (hao : AtHead ao g off n) (hN : NameIn w w.heap.size g off cs) :
    Calls Try.prog 5 #[.slice ao n cap, .int .u64 bt] w fun e w' => e = .returned (.bool true) ∧ Below w.heap.size w w' := by
  have Hby := Hid.mk (bytes1_any ao g off n cap cs bt w hn hao w.heap.size hN)
  have Hc1 := Hid.mk (cost_any ao g off n cap cs w hn hao w.heap.size hN)
  by_cases hb1 : 1048576 < (cost cs : Int)
  · clear hN hn
    generalize cost cs = q1 at *
    go_enter Try.func5, Try.ntmps5
    go_wp2_with (go_at_call 18; refine Hby.out.mono ?_; rintro e w' ⟨⟨r, rfl⟩, hw⟩; have hw := hw.symm; subst hw; cases r)
    · go_ret
      exact ⟨rfl, Below.refl _ _⟩
    clear Hby
    refine Hc1.out.mono ?_
    rintro e w' ⟨rfl, hw⟩
    have hw := hw.symm
    subst hw
    go_wp2
    go_ret
    exact ⟨rfl, Below.refl _ _⟩
  obtain ⟨z1, z2, z3, z4, z5⟩ := cost_small cs (by omega)
  have hEl : (encName cs).length ≤ 1099511627776 := by have := elem_len 7 (encComps cs); unfold encName; omega
  have Hs1 := Hid.mk (split_any ao g off n cap cs w hn hnil hao hN (by omega) (by omega))
  have Hma := Hid.mk (fun w1 (hb : Below w.heap.size w w1) g' cap' (hc : (encName cs).length ≤ cap') (hB : BytesAt w1 g' (encName cs).length (encName cs)) => match_any g' cap' ao g off n cap cs w1 hc hB hn hao w.heap.size (hN.later hb (Nat.le_refl _)) hEl (by omega) (fun c hc => by have := z5 c hc; omega))
  have T1 := Hid.mk hN.ty
  have Hn := Hid.mk hn
  have E1 : (encComps cs).length ≤ 549755813888 := by omega
  have N1 : n ≤ 1099511627776 := by omega
  clear hN hn hao hnil z1 z2 z3 z4 z5
  generalize cost cs = q1 at *
  generalize hl1 : encName cs = l1 at *
  have Hl1 := Hid.mk hl1
  clear hl1
  go_enter Try.func5, Try.ntmps5
  go_wp2_with (go_at_call 18; refine Hby.out.mono ?_; rintro e w' ⟨⟨r, rfl⟩, hw⟩; have hw := hw.symm; subst hw; cases r)
  · go_ret
    exact ⟨rfl, Below.refl _ _⟩
  clear Hby
  refine Hc1.out.mono ?_
  rintro e w' ⟨rfl, hw⟩
  have hw := hw.symm
  subst hw
  clear Hc1
  go_wp2_with fail
  refine Hs1.out.mono ?_
  rintro e w1 ⟨vt1, vv1, ds1, rfl, hsm1, ht1, hv1, hall1, hb1⟩
  have K1 := Hid.mk (zzkey_any vt1 vv1 n w.heap.size ds1 bt w1 (by rw [hsm1.len, Hn.out]) N1 (by rw [hsm1.enc]; exact E1) (hsm1.ty T1.out) ht1 hv1 hall1)
  rw [hsm1.encName, Hl1.out] at K1
  clear Hs1 hall1 ht1 hv1 hsm1 T1
  go_wp2_with fail
  refine K1.out.mono ?_
  rintro e w2 ⟨rfl, hb2⟩
  have hb02 : Below w.heap.size w w2 := hb1.trans (hb2.mono hb1.size)
  obtain ⟨cap3, w3, hcv, hc3, hB3, hb3⟩ := conv_bytes l1 w2
  have hb03 : Below w.heap.size w w3 := hb02.trans (hb3.mono hb02.size)
  have M := Hid.mk (Hma.out w3 hb03 w2.heap.size cap3 hc3 hB3)
  clear K1 Hma hB3
  go_wp2_with fail
  refine M.out.mono ?_
  rintro e w4 ⟨rfl, hdw⟩
  clear M hcv
  go_wp2
  go_ret
  exact ⟨by simp, hdw.below hb03⟩
end Go.Proofs.Qxb6604512a
