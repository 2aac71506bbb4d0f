import Derived.Test.Qxb6604512aOrder
namespace Go.Proofs.Qxb6604512a
open Go.RowKit

/-- What a lookup answers. -/
def SaysHeld (es : List En) (cs : List Cm) (bt : Nat) (e : Ending) : Prop := ∃ r : Nat, e = .returned (.int .u64 r) ∧ Held es cs bt r

def NotN (es : List En) (cs : List Cm) (k : Nat) : Prop := ∀ (j : Nat) (a : En), j < k → es[j]? = some a → cmpN a.cs cs ≠ 0
def NotP (ps : List (Nat × Nat)) (bt k : Nat) : Prop := ∀ (j : Nat) (a : Nat × Nat), j < k → ps[j]? = some a → a.1 ≠ bt

theorem NotN.succ {es : List En} {cs : List Cm} {k : Nat} {x : En} (h : NotN es cs k) (hx : es[k]? = some x) (hq : cmpN x.cs cs ≠ 0) : NotN es cs (k + 1) := by
  intro j a hj ha
  rcases Nat.lt_or_ge j k with h1 | h1
  · exact h j a h1 ha
  · obtain rfl : j = k := by omega
    rw [hx] at ha
    obtain rfl := Option.some.inj ha
    exact hq
theorem NotP.succ {ps : List (Nat × Nat)} {bt k : Nat} {x : Nat × Nat} (h : NotP ps bt k) (hx : ps[k]? = some x) (hq : x.1 ≠ bt) : NotP ps bt (k + 1) := by
  intro j a hj ha
  rcases Nat.lt_or_ge j k with h1 | h1
  · exact h j a h1 ha
  · obtain rfl : j = k := by omega
    rw [hx] at ha
    obtain rfl := Option.some.inj ha
    exact hq

set_option maxRecDepth 100000 in
set_option maxHeartbeats 4000000 in
theorem lin_any (ea : Option Addr) (eg eo en ec : Nat) (es : List En) (ao : Option Addr) (g off n cap : Nat) (cs : List Cm) (bt : Nat) (w : World) (hen : es.length = en) (hea : AtHead ea eg eo en) (hE : EntsIn w w.heap.size eg eo es) (hsm : en ≤ 1048576) (hS : Small es en)
    (hn : cs.length = n) (hao : AtHead ao g off n) (hN : NameIn w w.heap.size g off cs) (hnn : n ≤ 1099511627776) :
    Calls Try.prog 16 #[.slice ea en ec, .slice ao n cap, .int .u64 bt] w fun e w' => SaysHeld es cs bt e ∧ Below w.heap.size w w' := by
  have Hen := Hid.mk hen
  have HE := Hid.mk hE
  have HS := Hid.mk hS
  have HN := Hid.mk hN
  have Hn := Hid.mk hn
  clear hen hE hS hN hn
  go_enter Try.func16, Try.ntmps16
  go_wp2
  go_loopw [7, 8, 9] (fun i _ _ wr => ∃ k : Nat, k ≤ en ∧ i = .int .i64 k ∧ Hid (NotN es cs k) ∧ Below w.heap.size w wr) (fun i _ _ _ => en - (intOf i).toNat)
  case atStart => exact ⟨0, Nat.zero_le _, rfl, Hid.mk (fun j a hj => absurd hj (by omega)), Below.refl _ _⟩
  case round =>
    obtain ⟨k, hk, rfl, Hk, hb⟩ := hrel
    by_cases hlt : k < en
    · have hao' := hea (by omega)
      subst hao'
      obtain ⟨x, hx⟩ := pick Hen hlt
      obtain ⟨c1, _, c3, _, c5, _, _, _⟩ := (HE.out.later hb hb.size) k x hx
      obtain ⟨y1, _, _, _, y5⟩ := cost_small x.cs (HS.out k x (by omega) hx).1
      have Hcall := Hid.mk (compN_any x.na x.nb x.no x.cs.length x.nc x.cs ao g off n cap cs wr rfl c3 c5 (by omega) (fun c hc => Nat.le_trans (y5 c hc) (by omega)) Hn.out hao (HN.out.later hb hb.size) hnn)
      have Hs := Hid.mk (fun hq => Hk.out.succ hx hq)
      have Hx := Hid.mk hx
      have hz := (HS.out k x (by omega) hx).2
      have Hf := Hid.mk (fun r (h1 : cmpN x.cs cs = 0) h2 => (Or.inl ⟨k, x, hx, h1, h2⟩ : Held es cs bt r))
      clear c3 c5 y1 y5 hx
      generalize cmpN x.cs cs = q at *
      generalize x.cs.length = xl at *
      go_wp2_with fail
      refine Hcall.out.mono ?_
      rintro e1 w1 ⟨rfl, hb1'⟩
      have hb1 : Below w.heap.size w w1 := hb.trans (hb1'.mono hb.size)
      by_cases hq : q = 0
      · have hqe : (q == 0) = true := by simp [hq]
        obtain ⟨_, c2, _, _, _, c6, _, _⟩ := (HE.out.later hb1 hb1.size) k x Hx.out
        obtain ⟨np, hnp⟩ : ∃ np, x.ps.length = np := ⟨_, rfl⟩
        rw [hnp] at c2 c6 hz
        have Hnp := Hid.mk hnp
        have Hf2 := Hid.mk (fun r h => Hf.out r hq h)
        clear hnp hq Hcall c1 Hf
        go_wp2
        go_loopw [9] (fun i wr => ∃ k : Nat, k ≤ np ∧ i = .int .i64 k ∧ Hid (NotP x.ps bt k) ∧ wr = w1) (fun i _ => np - (intOf i).toNat)
        case atStart => exact ⟨0, Nat.zero_le _, rfl, Hid.mk (fun j a hj => absurd hj (by omega)), rfl⟩
        case round =>
          clear c2
          obtain ⟨k2, hk2, rfl, Hk2, rfl⟩ := hrel
          by_cases hlt2 : k2 < np
          · have hpa := c6 (by omega)
            rw [hpa]
            obtain ⟨_, _, _, _, _, _, c7, _⟩ := (HE.out.later hb1 hb1.size) k x Hx.out
            obtain ⟨p, hp⟩ := pick Hnp hlt2
            obtain ⟨p1, p2, _, _, _⟩ := c7 k2 p hp
            have Hs2 := Hid.mk (fun h => Hk2.out.succ hp h)
            have Hp := Hid.mk hp
            clear hp c7
            by_cases he : p.1 = bt
            · have hee : ((p.1 : Int) == (bt : Int)) = true := by simp [he]
              have Hr : Hid (Held es cs bt _) := Hid.mk (Hf2.out p.2 (.inl ⟨k2, p, Hp.out, he, rfl⟩))
              clear he
              go_wp2
              go_ret
              exact ⟨⟨p.2, rfl, Hr.out⟩, hb1⟩
            · have hee : ((p.1 : Int) == (bt : Int)) = false := by rw [beq_eq_false_iff_ne]; omega
              go_wp2
              go_roundw
              case rel => exact ⟨k2 + 1, by omega, by go_num, Hid.mk (Hs2.out he), by first | rfl | trivial⟩
              case measure => simp [intOf]; omega
          · have Hr : Hid (Held es cs bt _) := Hid.mk (Hf2.out 0 (.inr ⟨fun j p hp => Hk2.out j p (by have := (List.getElem?_eq_some_iff.1 hp).1; have := Hnp.out; omega) hp, rfl⟩))
            go_wp2
            go_ret
            exact ⟨⟨0, rfl, Hr.out⟩, hb1⟩
      · have hqe : (q == 0) = false := by simp [hq]
        have Hs' := Hid.mk (Hs.out hq)
        clear hq
        go_wp2
        go_roundw
        case rel => exact ⟨k + 1, by omega, by go_num, Hs', hb1⟩
        case measure => simp [intOf]; omega
    · obtain rfl : k = en := by omega
      have Hr : Hid (Held es cs bt 0) := Hid.mk (.inr ⟨fun j e he => Hk.out j e (by have := (List.getElem?_eq_some_iff.1 he).1; have := Hen.out; omega) he, rfl⟩)
      go_wp2
      go_ret
      exact ⟨⟨0, rfl, Hr.out⟩, hb⟩
end Go.Proofs.Qxb6604512a
