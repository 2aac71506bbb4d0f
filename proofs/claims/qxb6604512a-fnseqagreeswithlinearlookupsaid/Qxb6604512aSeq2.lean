import Derived.Test.Qxb6604512aSeq
namespace Go.Proofs.Qxb6604512a
open Go.RowKit

/-- The number that a state vector holds. -/
def HeldM (ms : List Mb) (cs : List Cm) (bt r : Nat) : Prop := (∃ (i : Nat) (m : Mb), ms[i]? = some m ∧ cmpN m.ds cs = 0 ∧ HeldP m.ps bt r) ∨ ((∀ (i : Nat) (m : Mb), ms[i]? = some m → cmpN m.ds cs ≠ 0) ∧ r = 0)
def SaysM (ms : List Mb) (cs : List Cm) (bt : Nat) (e : Ending) : Prop := ∃ r : Nat, e = .returned (.int .u64 r) ∧ HeldM ms cs bt r

theorem found_no {c : Nat → Int} {n i : Nat} (hlo : ∀ k, k < i → c k < 0) (hhi : ∀ k, i ≤ k → k < n → 0 ≤ c k) (hok : (false = true) ↔ i < n ∧ c i = 0) (hs : ∀ a b, a < b → b < n → c b ≤ 0 → c a < 0) : ∀ k, k < n → c k ≠ 0 := by
  intro k hk hz
  rcases Nat.lt_trichotomy k i with h | rfl | h
  · have := hlo k h; omega
  · exact absurd (hok.2 ⟨hk, hz⟩) (by simp)
  · have h1 := hs i k h hk (by omega)
    have h2 := hhi i (Nat.le_refl _) (by omega)
    omega

theorem cmpI_zero (a b : Nat) : cmpI a b = 0 ↔ a = b := by
  unfold cmpI
  by_cases h1 : (a : Int) < (b : Int)
  · rw [if_pos h1]; omega
  · rw [if_neg h1]
    by_cases h2 : (b : Int) < (a : Int)
    · rw [if_pos h2]; omega
    · rw [if_neg h2]; omega

set_option maxRecDepth 100000 in
set_option maxHeartbeats 2000000 in
theorem seq32_any (B Ba : Nat) (vm : Value) (ms : List Mb) (ao2 : Option Addr) (g2 off2 n2 cap2 : Nat) (cs2 : List Cm) (bt : Nat) (w : World) (hV : Vec w B Ba vm ms) (hG : Good ms cs2 bt) (hml : ms.length ≤ 1099511627776)
    (hn2 : cs2.length = n2) (hao2 : AtHead ao2 g2 off2 n2) (hN2 : NameIn w w.heap.size g2 off2 cs2) (hnn2 : n2 ≤ 1099511627776) :
    Calls Try.prog 32 #[.pointer (some ⟨Ba, 0, none⟩), .slice ao2 n2 cap2, .int .u64 bt] w fun e w' => SaysM ms cs2 bt e ∧ Below w.heap.size w w' := by
  have Hf := Hid.mk (find43_any B Ba vm ms ao2 g2 off2 n2 cap2 cs2 bt w hV hG hml hn2 hao2 hN2 hnn2)
  have HV := Hid.mk hV
  have HG := Hid.mk hG
  clear hV hG hn2 hao2 hN2 hnn2
  go_enter Try.func32, Try.ntmps32
  go_wp2_with fail
  refine Hf.out.mono ?_
  rintro e1 w1 ⟨⟨i, ok, rfl, hi, hlo, hhi, hok⟩, hb⟩
  clear Hf
  cases ok with
  | false =>
    have Hr : Hid (SaysM ms cs2 bt (.returned (.int .u64 0))) := Hid.mk ⟨0, rfl, .inr ⟨fun k m hm hz => found_no hlo hhi hok HG.out.2.1 k (List.getElem?_eq_some_iff.1 hm).1 (by unfold cN; rw [getD_some hm]; exact hz), rfl⟩⟩
    clear hlo hhi hok
    go_wp2
    go_ret
    exact ⟨Hr.out, hb⟩
  | true =>
    obtain ⟨hin, hz⟩ := hok.1 rfl
    obtain ⟨m, hm, hmem⟩ := some_lt hin
    unfold cN at hz
    rw [getD_some hm] at hz
    obtain ⟨h1, h2, h3⟩ := HV.out.later hb
    obtain ⟨am, gm, cm, rfl, q1, q2, q3⟩ := owned_at2 h2
    have ha := q1 (by omega)
    subst ha
    obtain ⟨f1, f2⟩ := flatM_at ms i m hm
    have c0 : w1.cell? ⟨Ba, 0, none⟩ = some (.slice (some ⟨gm, 0, none⟩) ms.length cm) := by simp [World.cell?, h1]
    have c1 : w1.cell? ⟨gm, i * 2 + 1, none⟩ = some m.sv := (q3 (i * 2 + 1) (by omega)).trans f2
    obtain ⟨r1, r2, r3⟩ := h3 m hmem
    have hq := q2 (by omega)
    have Hf2 := Hid.mk (find44_any B gm (i * 2) m.sv m.ps bt w1 c1 r3 (HG.out.1 m hmem).2.2 (HG.out.2.2 m hmem))
    have Hh := Hid.mk (fun r (h : HeldP m.ps bt r) => (Or.inl ⟨i, m, hm, hz, h⟩ : HeldM ms cs2 bt r))
    have Hsep := Hid.mk (HG.out.2.2 m hmem)
    have C1 := Hid.mk c1
    have R3 := Hid.mk r3
    clear hlo hhi hok h2 h3 q1 q2 q3 f1 f2 h1 r1 r2 r3 hm hmem hz c1
    go_wp2_with fail
    refine Hf2.out.mono ?_
    rintro e2 w2 ⟨⟨j, ok2, rfl, hj, hlo, hhi, hok⟩, hb2⟩
    have hb3 : Below w.heap.size w w2 := hb.trans (hb2.mono hb.size)
    clear Hf2
    cases ok2 with
    | false =>
      have Hr : Hid (SaysM ms cs2 bt (.returned (.int .u64 0))) := Hid.mk ⟨0, rfl, Hh.out 0 (.inr ⟨fun k p hp hz => found_no hlo hhi hok Hsep.out k (List.getElem?_eq_some_iff.1 hp).1 (by unfold cP; rw [getD_some hp]; exact (cmpI_zero _ _).2 hz), rfl⟩)⟩
      clear hlo hhi hok
      go_wp2
      go_ret
      exact ⟨Hr.out, hb3⟩
    | true =>
      obtain ⟨hjn, hz⟩ := hok.1 rfl
      obtain ⟨p, hp, _⟩ := some_lt hjn
      unfold cP at hz
      rw [getD_some hp] at hz
      have hz' := (cmpI_zero _ _).1 hz
      obtain ⟨pa, gp, pc, hsv, q1, q2, q3⟩ := owned_at2 (own_later R3.out hb2)
      have ha := q1 (by omega)
      subst ha
      have c1 : w2.cell? ⟨gm, i * 2 + 1, none⟩ = some (.slice (some ⟨gp, 0, none⟩) m.ps.length pc) := by rw [← hsv]; exact cell_later hb2 C1.out
      have c2 : w2.cell? ⟨gp, j * 2 + 1, none⟩ = some (.int .u64 p.2) := (q3 (j * 2 + 1) (by omega)).trans (flatP_at m.ps j p hp).2
      have Hr : Hid (SaysM ms cs2 bt (.returned (.int .u64 p.2))) := Hid.mk ⟨p.2, rfl, Hh.out p.2 (.inl ⟨j, p, hp, hz', rfl⟩)⟩
      clear hlo hhi hok q1 q2 q3 hsv hz hz' hp C1 R3 Hsep
      go_wp2
      go_ret
      exact ⟨Hr.out, hb3⟩

set_option maxHeartbeats 1000000 in
theorem zzseq_any (B Bn Ba : Nat) (vm vt vv : Value) (ms : List Mb) (ds : List Cm) (n bt : Nat) (w : World) (hV : Vec w B Ba vm ms) (hG : Good ms ds bt) (hml : ms.length ≤ 1099511627776) (hn : ds.length = n) (hnn : n ≤ 1099511627776) (hty : ∀ d ∈ ds, d.ty < 18446744073709551616)
    (ht : w.ownsRow Bn 24 1 vt n (ds.map tyv)) (hv : w.ownsRow Bn 45 1 vv n (ds.map slv)) (hall : ∀ d ∈ ds, w.ownsRow Bn 5 1 (slv d) d.bs.length (Lib.byteCells d.bs)) :
    Calls Try.prog 15 #[.pointer (some ⟨Ba, 0, none⟩), vt, vv, .int .u64 bt] w fun e w' => SaysM ms ds bt e ∧ Below w.heap.size w w' := by
  have Hn := Hid.mk (name_any vt vv n Bn ds w hn hnn hty ht hv hall)
  have HV := Hid.mk hV
  have HG := Hid.mk hG
  have Hl := Hid.mk hn
  clear hV hG ht hv hall hty hn
  go_enter Try.func15, Try.ntmps15
  go_wp2_with fail
  refine Hn.out.mono ?_
  rintro e1 w1 ⟨ao, g, cap, rfl, h1, h2, h3, hb⟩
  have Hs := Hid.mk (seq32_any B Ba vm ms ao g 0 n cap ds bt w1 (HV.out.later hb) HG.out hml Hl.out h1 h3 hnn)
  clear Hn h1 h2 h3
  go_wp2_with fail
  refine Hs.out.mono ?_
  rintro e2 w2 ⟨⟨r, rfl, hr⟩, hb2⟩
  have Hr := Hid.mk hr
  clear hr Hs
  go_wp2
  go_ret
  exact ⟨⟨r, rfl, Hr.out⟩, hb.trans (hb2.mono hb.size)⟩
end Go.Proofs.Qxb6604512a
