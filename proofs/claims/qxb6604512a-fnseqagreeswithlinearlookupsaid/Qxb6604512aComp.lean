import Derived.Test.Qxb6604512aCost
namespace Go.Proofs.Qxb6604512a
open Go.RowKit

/-- Byte by byte. -/
def cmpB : List UInt8 → List UInt8 → Int
  | a :: l, b :: m => if a = b then cmpB l m else if a < b then -1 else 1
  | _, _ => 0

/-- 'zzCompComp'. -/
def cmpC (c d : Cm) : Int :=
  if c.ty ≠ d.ty then (if c.ty < d.ty then -1 else 1) else if c.bs.length ≠ d.bs.length then (if c.bs.length < d.bs.length then -1 else 1) else cmpB c.bs d.bs

theorem cmpB_step (l m : List UInt8) (k : Nat) (hl : k < l.length) (hm : k < m.length) :
    cmpB (l.drop k) (m.drop k) = if l.getD k 0 = m.getD k 0 then cmpB (l.drop (k + 1)) (m.drop (k + 1)) else if l.getD k 0 < m.getD k 0 then -1 else 1 := by
  rw [List.drop_eq_getElem_cons hl, List.drop_eq_getElem_cons hm, cmpB]
  simp [hl, hm]

theorem getD_int (l : List UInt8) (k : Nat) : ((l.getD k 0).toNat : Int) < 256 := by have := (l.getD k 0).toNat_lt; omega

set_option maxRecDepth 100000 in
set_option maxHeartbeats 2000000 in
/-- Two components of one type and one length. -/
theorem comp_same (t : Nat) (a1 a2 : Option Addr) (n c1 c2 b1 o1 b2 o2 : Nat) (l m : List UInt8) (w : World) (hnn : n ≤ 1099511627776) (hl : l.length = n) (hm : m.length = n) (p1 : AtHead a1 b1 o1 n) (q1 : AtHead a2 b2 o2 n)
    (p3 : 0 < n → b1 < w.heap.size) (q3 : 0 < n → b2 < w.heap.size) (p4 : ∀ j, j < n → w.cell? ⟨b1, o1 + j, none⟩ = some (.int .u8 (l.getD j 0).toNat)) (q4 : ∀ j, j < n → w.cell? ⟨b2, o2 + j, none⟩ = some (.int .u8 (m.getD j 0).toNat)) :
    Calls Try.prog 37 #[.agg #[.int .u64 t, .slice a1 n c1], .agg #[.int .u64 t, .slice a2 n c2]] w fun e w' => e = .returned (.int .i64 (cmpB l m)) ∧ Below w.heap.size w w' := by
  have Hl := Hid.mk hl
  have Hm := Hid.mk hm
  have P4 := Hid.mk p4
  have Q4 := Hid.mk q4
  clear hl hm p4 q4
  go_enter Try.func37, Try.ntmps37
  go_wp2
  generalize hW : (w.alloc (Obj.cells #[Value.int IntKind.u64 t, Value.slice a1 n c1] 55)).alloc (Obj.cells #[Value.int IntKind.u64 t, Value.slice a2 n c2] 55) = W
  have hWb : Below w.heap.size w W := by rw [← hW]; exact ((Below.refl _ _).alloc (Nat.le_refl _) _).alloc (by simp) _
  have hW1 : W.cell? ⟨w.heap.size, 1, none⟩ = some (.slice a1 n c1) := by rw [← hW]; simp [go_sem]
  have hW2 : W.cell? ⟨w.heap.size + 1, 1, none⟩ = some (.slice a2 n c2) := by rw [← hW]; simp [go_sem]
  clear hW
  go_loopw [5] (fun i wr => ∃ k q : Nat, k ≤ n ∧ i = .int .i64 k ∧ Hid (cmpB l m = cmpB (l.drop k) (m.drop k)) ∧ wr = W.drewN q) (fun i _ => n - (intOf i).toNat)
  case atStart => exact ⟨0, 0, Nat.zero_le _, rfl, rfl, rfl⟩
  case round =>
    obtain ⟨k, q, hk, rfl, Hk, rfl⟩ := hrel
    by_cases hlt : k < n
    · have h1 := p1 (by omega)
      have h2 := q1 (by omega)
      subst h1 h2
      have r1 : W.cell? ⟨b1, o1 + k, none⟩ = some (.int .u8 (l.getD k 0).toNat) := (hWb.cell (p := ⟨b1, o1 + k, none⟩) (p3 (by omega))).trans (P4.out k hlt)
      have r2 : W.cell? ⟨b2, o2 + k, none⟩ = some (.int .u8 (m.getD k 0).toNat) := (hWb.cell (p := ⟨b2, o2 + k, none⟩) (q3 (by omega))).trans (Q4.out k hlt)
      have hst := cmpB_step l m k (by rw [Hl.out]; exact hlt) (by rw [Hm.out]; exact hlt)
      have e0 : (0 : Int) ≤ (k : Int) := Int.natCast_nonneg _
      have e1 : (k : Int) < (n : Int) := by omega
      by_cases hE : l.getD k 0 = m.getD k 0
      · rw [if_pos hE] at hst
        have Hk' := Hid.mk (Hk.out.trans hst)
        rw [← hE] at r2
        generalize (l.getD k 0).toNat = x at *
        clear hst hE Hk P4 Q4
        go_wp2_with fail
        go_quiet (fail)
        go_wp2
        go_roundw
        case rel => exact ⟨k + 1, _, by omega, by go_num, Hk', rfl⟩
        case measure => simp [intOf]; omega
      · rw [if_neg hE] at hst
        have hne : (((l.getD k 0).toNat : Int) != ((m.getD k 0).toNat : Int)) = true := by
          rw [bne_iff_ne]; intro h; exact hE (UInt8.toNat_inj.1 (by omega))
        by_cases hL : l.getD k 0 < m.getD k 0
        · rw [if_pos hL] at hst
          have Hk' := Hid.mk (Hk.out.trans hst)
          have hlt2 : ((l.getD k 0).toNat : Int) < ((m.getD k 0).toNat : Int) := by have := UInt8.lt_iff_toNat_lt.1 hL; omega
          generalize (l.getD k 0).toNat = x at *
          generalize (m.getD k 0).toNat = y at *
          clear hst hE Hk P4 Q4 hL
          go_wp2_with fail
          go_quiet (fail)
          go_wp2_with fail
          go_quiet (fail)
          go_wp2
          go_ret
          exact ⟨ret_int (by rw [Hk'.out]), below_drewN (below_drewN (below_drewN hWb _) _) _⟩
        · rw [if_neg hL] at hst
          have Hk' := Hid.mk (Hk.out.trans hst)
          have hlt2 : ¬ ((l.getD k 0).toNat : Int) < ((m.getD k 0).toNat : Int) := by intro h; exact hL (UInt8.lt_iff_toNat_lt.2 (by omega))
          generalize (l.getD k 0).toNat = x at *
          generalize (m.getD k 0).toNat = y at *
          clear hst hE Hk P4 Q4 hL
          go_wp2_with fail
          go_quiet (fail)
          go_wp2_with fail
          go_quiet (fail)
          go_wp2
          go_ret
          exact ⟨ret_int (by rw [Hk'.out]), below_drewN (below_drewN (below_drewN hWb _) _) _⟩
    · obtain rfl : k = n := by omega
      have Hk' := Hid.mk (Hk.out.trans (show cmpB (l.drop k) (m.drop k) = 0 by rw [List.drop_of_length_le (Nat.le_of_eq Hl.out)]; rfl))
      go_wp2
      go_ret
      exact ⟨ret_int (by rw [Hk'.out]), below_drewN hWb _⟩

set_option maxRecDepth 100000 in
set_option maxHeartbeats 2000000 in
theorem compC_any (c d : Cm) (w : World) (hnn : c.bs.length ≤ 1099511627776) (hc : Src w w.heap.size (.slice c.ao c.bs.length c.cp) c.bs) (hd : Src w w.heap.size (.slice d.ao d.bs.length d.cp) d.bs) :
    Calls Try.prog 37 #[.agg #[.int .u64 c.ty, .slice c.ao c.bs.length c.cp], .agg #[.int .u64 d.ty, .slice d.ao d.bs.length d.cp]] w fun e w' => e = .returned (.int .i64 (cmpC c d)) ∧ Below w.heap.size w w' := by
  obtain ⟨t1, a1, c1, l⟩ := c
  obtain ⟨t2, a2, c2, m⟩ := d
  have hb2 : ∀ o p, Below w.heap.size w ((w.alloc o).alloc p) := fun o p => ((Below.refl _ _).alloc (Nat.le_refl _) _).alloc (by simp) _
  have Hb2 := Hid.mk hb2
  clear hb2
  by_cases ht : t1 = t2
  · subst ht
    by_cases hn : l.length = m.length
    · have hr : cmpC ⟨t1, a1, c1, l⟩ ⟨t1, a2, c2, m⟩ = cmpB l m := by unfold cmpC; rw [if_neg (by simp), if_neg (by simpa using hn)]
      rw [hr]
      obtain ⟨b1, o1, p1, p2, p3, p4⟩ := src_at hc
      obtain ⟨b2, o2, q1, q2, q3, q4⟩ := src_at hd
      simp only at *
      rw [← hn] at q1 q3 q4 ⊢
      exact comp_same t1 a1 a2 l.length c1 c2 b1 o1 b2 o2 l m w hnn rfl hn.symm p1 q1 p3 q3 p4 q4
    · have hr : cmpC ⟨t1, a1, c1, l⟩ ⟨t1, a2, c2, m⟩ = if l.length < m.length then -1 else 1 := by unfold cmpC; rw [if_neg (by simp), if_pos hn]
      rw [hr]
      clear hc hd hr
      simp only at *
      generalize l.length = x at *
      generalize m.length = y at *
      have hne : ((x : Int) != (y : Int)) = true := by rw [bne_iff_ne]; omega
      by_cases hL : x < y
      · rw [if_pos hL]
        have hL' : (x : Int) < (y : Int) := by omega
        clear hn
        go_enter Try.func37, Try.ntmps37
        go_wp2
        go_ret
        exact ⟨rfl, Hb2.out _ _⟩
      · rw [if_neg hL]
        have hL' : ¬ (x : Int) < (y : Int) := by omega
        clear hn
        go_enter Try.func37, Try.ntmps37
        go_wp2
        go_ret
        exact ⟨rfl, Hb2.out _ _⟩
  · have hr : cmpC ⟨t1, a1, c1, l⟩ ⟨t2, a2, c2, m⟩ = if t1 < t2 then -1 else 1 := by unfold cmpC; rw [if_pos ht]
    rw [hr]
    clear hc hd hr
    simp only at *
    have hne : ((t1 : Int) != (t2 : Int)) = true := by rw [bne_iff_ne]; omega
    by_cases hL : t1 < t2
    · rw [if_pos hL]
      have hL' : (t1 : Int) < (t2 : Int) := by omega
      clear ht
      go_enter Try.func37, Try.ntmps37
      go_wp2
      go_ret
      exact ⟨rfl, Hb2.out _ _⟩
    · rw [if_neg hL]
      have hL' : ¬ (t1 : Int) < (t2 : Int) := by omega
      clear ht
      go_enter Try.func37, Try.ntmps37
      go_wp2
      go_ret
      exact ⟨rfl, Hb2.out _ _⟩
end Go.Proofs.Qxb6604512a
