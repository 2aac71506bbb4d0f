import Derived.Test.Qxb6604512aRelem
namespace Go.Proofs.Qxb6604512a
open Go.RowKit

/-- The world, some draws later. -/
def Drawn (w wr : World) : Prop := ∃ q, wr = w.drewN q
theorem Drawn.refl (w : World) : Drawn w w := ⟨0, rfl⟩
theorem Drawn.more {w wr : World} (h : Drawn w wr) (q : Nat) : Drawn w (wr.drewN q) := by
  obtain ⟨p, rfl⟩ := h
  exact ⟨p + q, by rw [World.drewN_drewN]⟩
theorem Drawn.cell {w wr : World} (h : Drawn w wr) {a : Addr} {v : Value} (hc : w.cell? a = some v) : wr.cell? a = some v := by
  obtain ⟨p, rfl⟩ := h
  exact hc
theorem Drawn.below {w0 w wr : World} (h : Drawn w wr) {B : Nat} (hb : Below B w0 w) : Below B w0 wr := by
  obtain ⟨p, rfl⟩ := h
  exact below_drewN hb p
theorem Drawn.bytes {w wr : World} {g n : Nat} {L : List UInt8} (h : Drawn w wr) (hB : BytesAt w g n L) : BytesAt wr g n L := fun j hj => h.cell (hB j hj)

theorem comps_at (cs : List Cm) (k : Nat) (c : Cm) (h : cs[k]? = some c) : (encComps cs).drop (encComps (cs.take k)).length = encElem c.ty c.bs ++ encComps (cs.drop (k + 1)) := by
  obtain ⟨hk, rfl⟩ := List.getElem?_eq_some_iff.1 h
  have e : encComps cs = encComps (cs.take k) ++ encComps (cs.drop k) := by unfold encComps; rw [← List.flatMap_append, List.take_append_drop]
  rw [e, List.drop_left, List.drop_eq_getElem_cons hk]
  unfold encComps
  rw [List.flatMap_cons]

set_option maxRecDepth 100000 in
set_option maxHeartbeats 2000000 in
theorem match_any (g cap : Nat) (ao : Option Addr) (g2 off n cap2 : Nat) (cs : List Cm) (w : World) (hcap : (encName cs).length ≤ cap) (hB : BytesAt w g (encName cs).length (encName cs)) (hn : cs.length = n) (hao : AtHead ao g2 off n) (B : Nat) (hN : NameIn w B g2 off cs)
    (hl : (encName cs).length ≤ 1099511627776) (hnn : n ≤ 1099511627776) (hv : ∀ c ∈ cs, c.bs.length ≤ 1099511627776) :
    Calls Try.prog 20 #[.slice (some ⟨g, 0, none⟩) (encName cs).length cap, .int .i64 0, .slice ao n cap2] w fun e w' => e = .returned (.tuple #[.int .i64 (encName cs).length, .bool true]) ∧ Drawn w w' := by
  have hlen : (encName cs).length = (encVar 7).length + (encVar (encComps cs).length).length + (encComps cs).length := by unfold encName encElem; rw [List.length_append, List.length_append]; omega
  have h1 := relem_any g (encName cs).length cap 0 7 (encComps cs) (encName cs) [] w (by omega) hB (by simp [encName]) (by unfold encName; omega) hl
  have hdr : ∀ k c, cs[k]? = some c → (encName cs).drop ((encVar 7).length + (encVar (encComps cs).length).length + (encComps (cs.take k)).length) = encElem c.ty c.bs ++ encComps (cs.drop (k + 1)) := by
    intro k c hc
    rw [← comps_at cs k c hc]
    have e : encName cs = (encVar 7 ++ encVar (encComps cs).length) ++ encComps cs := by unfold encName encElem; rw [List.append_assoc]
    rw [e, ← List.length_append, ← List.drop_drop, List.drop_left]
  rw [Nat.zero_add] at h1
  generalize hq0 : (encVar 7).length + (encVar (encComps cs).length).length = q0 at *
  rw [← hlen] at h1
  have Hlen := Hid.mk hlen
  have HB := Hid.mk hB
  have Hdr := Hid.mk hdr
  have H1 := Hid.mk h1
  have Hn := Hid.mk hn
  have Hv := Hid.mk hv
  have hcl := fun k => encComps_le cs k
  have HL := Hid.mk (show encName cs = encName cs from rfl)
  obtain ⟨L, hL⟩ : ∃ L, L = encName cs := ⟨_, rfl⟩
  rw [← hL] at Hlen HB Hdr H1 hl hcap ⊢
  obtain ⟨N, hNN⟩ : ∃ N, N = L.length := ⟨_, rfl⟩
  rw [← hNN] at Hlen HB H1 hl hcap ⊢
  have Hcl := Hid.mk hcl
  clear hlen hB hdr h1 hn hv hq0 hcl hNN HL hL
  go_enter Try.func20, Try.ntmps20
  go_wp2_with fail
  refine H1.out.mono ?_
  rintro e w' ⟨rfl, hw⟩
  have hw := hw.symm
  subst hw
  clear H1
  go_wp2
  go_loopw [13, 14] (fun pp kk wr => ∃ k : Nat, k ≤ n ∧ kk = .int .i64 k ∧ pp = .int .i64 (q0 + (encComps (cs.take k)).length : Nat) ∧ Drawn w wr) (fun _ kk _ => n - (intOf kk).toNat)
  case atStart => exact ⟨0, Nat.zero_le _, rfl, by simp [encComps], Drawn.refl _⟩
  case round =>
    obtain ⟨k, hk, rfl, rfl, hdw⟩ := hrel
    by_cases hlt : k < n
    · have hao' := hao (by omega)
      subst hao'
      obtain ⟨c, hc⟩ : ∃ c, cs[k]? = some c := ⟨cs[k]'(by rw [Hn.out]; exact hlt), List.getElem?_eq_getElem (by rw [Hn.out]; exact hlt)⟩
      obtain ⟨c1, c2, c3, c4, _⟩ := hN k c hc
      have hsn := congrArg List.length (encComps_succ cs k c hc)
      rw [List.length_append] at hsn
      have hle2 := Hcl.out (k + 1)
      have hNl := Hlen.out
      have hep := encElem_pos c.ty c.bs
      have hcv := Hv.out c (List.mem_of_getElem? hc)
      have hre := relem_any g N cap (q0 + (encComps (cs.take k)).length) c.ty c.bs L _ wr c4 (hdw.bytes HB.out) (Hdr.out k c hc) (by omega) hl
      have hdd := Hdr.out k c hc
      have hel : (encElem c.ty c.bs).length = (encVar c.ty).length + (encVar c.bs.length).length + c.bs.length := by unfold encElem; rw [List.length_append, List.length_append]; omega
      have hbs : ∀ j, j < c.bs.length → L.getD (q0 + (encComps (cs.take k)).length + (encVar c.ty).length + (encVar c.bs.length).length + j) 0 = c.bs.getD j 0 := by
        intro j hj
        have h := drop_at hdd ((encVar c.ty).length + (encVar c.bs.length).length + j) (by omega)
        rw [← Nat.add_assoc, ← Nat.add_assoc] at h
        rw [h]
        unfold encElem
        simp only [List.getD]
        rw [List.getElem?_append_right (by omega), List.getElem?_append_right (by omega)]
        congr 2
        omega
      rw [hsn] at hle2
      have Hsn := Hid.mk hsn
      have Hel := Hid.mk hel
      obtain ⟨b2, o2, z1, z2, z3, z4⟩ := src_at c3
      have P1 : q0 + (encComps (cs.take k)).length + (encElem c.ty c.bs).length ≤ N := by omega
      generalize (encElem c.ty c.bs).length = el at *
      generalize (encComps (cs.take k)).length = ek at *
      generalize (encVar c.ty).length = va at *
      generalize (encVar c.bs.length).length = vb at *
      generalize hP : q0 + ek = P at *
      generalize hP2 : P + va + vb = P2 at *
      have HP2 := Hid.mk hP2
      have HP := Hid.mk hP
      have hP3 : P2 + c.bs.length ≤ N := by omega
      have hPN : P < N := by omega
      have cellA : ∀ j, j < c.bs.length → w.cell? ⟨g, P2 + j, none⟩ = some (.int .u8 (c.bs.getD j 0).toNat) := fun j hj => by rw [HB.out (P2 + j) (by omega), hbs j hj]
      have Hre := Hid.mk hre
      have CA := Hid.mk cellA
      have Z4 := Hid.mk z4
      have c1' := hdw.cell c1
      have c2' := hdw.cell c2
      have Hsum := Hid.mk (show P2 + c.bs.length = q0 + (ek + el) by have := Hel.out; omega)
      clear hre hbs hdd hel hsn hP hP2 cellA z4 c1 c2 c3 hN hc hle2 hNl hep
      obtain ⟨cty, cao, ccp, cbs⟩ := c
      simp only at *
      have Hbq := Hid.mk (fun nq => beq_any (if cap = P2 then some { block := g, off := 0 } else some { block := g, off := P2 }) cao g P2 b2 o2 cbs.length (cap - P2) ccp cbs (wr.drewN nq) hcv (fun h => if_neg (by omega)) z1 (fun j hj => hdw.cell (CA.out j hj)) (fun j hj => hdw.cell (Z4.out j hj)))
      go_wp2_with fail
      refine Hre.out.mono ?_
      rintro e w' ⟨rfl, hw⟩
      have hw := hw.symm
      subst hw
      clear Hre
      have e0 : (0 : Int) ≤ (k : Int) := Int.natCast_nonneg _
      have e1 : (k : Int) < (n : Int) := by omega
      go_wp2_with fail
      go_quiet (first | (go_at_call 36; exact Calls.quiet_of (Hbq.out _)))
      go_wp2
      go_roundw
      case rel => exact ⟨k + 1, by omega, by go_num, by rw [Hsn.out, ← Hsum.out]; go_num, hdw.more _⟩
      case measure => simp [intOf]; omega
    · obtain rfl : k = n := by omega
      rw [List.take_of_length_le (Nat.le_of_eq Hn.out), ← Hlen.out]
      go_wp2
      go_ret2
      exact ⟨rfl, hdw⟩
end Go.Proofs.Qxb6604512a
