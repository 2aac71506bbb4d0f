import Derived.Test.Qxb6604512aOrder
import Derived.Deep.RegionHeld3
namespace Go.Proofs.Qxb6604512a
open Go.RowKit

/-- What 'zzWellFormed' answers. -/
def SaysWf (es : List En) (e : Ending) : Prop := ∃ r : Bool, e = .returned (.bool r) ∧ (r = true → WfN es ∧ ∀ (k : Nat) (e : En), es[k]? = some e → WfP e.ps)
theorem says_no (es : List En) : SaysWf es (.returned (.bool false)) := ⟨false, rfl, fun h => absurd h (by simp)⟩

theorem keep3 {w w' : World} {a b : Addr} {x y : Value} (h : Below w.heap.size w w') (h1 : w.cell? a = some x) (h2 : w.cell? b = some y) :
    Below w.heap.size w w' ∧ w'.cell? a = some x ∧ w'.cell? b = some y := ⟨h, cell_later h h1, cell_later h h2⟩

/-- The first k names increase. -/
def PreN (es : List En) (k : Nat) : Prop := ∀ (j : Nat) (a b : En), j + 1 < k → es[j]? = some a → es[j + 1]? = some b → cmpN a.cs b.cs < 0
def PreP (ps : List (Nat × Nat)) (k : Nat) : Prop := ∀ (j : Nat) (a b : Nat × Nat), j + 1 < k → ps[j]? = some a → ps[j + 1]? = some b → a.1 < b.1
def PreE (es : List En) (k : Nat) : Prop := ∀ (j : Nat) (a : En), j < k → es[j]? = some a → WfP a.ps

theorem PreN.succ {es : List En} {k : Nat} {x y : En} (h : PreN es (k + 1)) (hx : es[k]? = some x) (hy : es[k + 1]? = some y) (hq : cmpN x.cs y.cs < 0) : PreN es (k + 2) := by
  intro j a b hj ha hb
  rcases Nat.lt_or_ge (j + 1) (k + 1) with h1 | h1
  · exact h j a b h1 ha hb
  · obtain rfl : j = k := by omega
    rw [hx] at ha; rw [hy] at hb
    obtain rfl := Option.some.inj ha
    obtain rfl := Option.some.inj hb
    exact hq

theorem PreP.succ {es : List (Nat × Nat)} {k : Nat} {x y : Nat × Nat} (h : PreP es (k + 1)) (hx : es[k]? = some x) (hy : es[k + 1]? = some y) (hq : x.1 < y.1) : PreP es (k + 2) := by
  intro j a b hj ha hb
  rcases Nat.lt_or_ge (j + 1) (k + 1) with h1 | h1
  · exact h j a b h1 ha hb
  · obtain rfl : j = k := by omega
    rw [hx] at ha; rw [hy] at hb
    obtain rfl := Option.some.inj ha
    obtain rfl := Option.some.inj hb
    exact hq

theorem PreE.succ {es : List En} {k : Nat} {x : En} (h : PreE es k) (hx : es[k]? = some x) (hq : WfP x.ps) : PreE es (k + 1) := by
  intro j a hj ha
  rcases Nat.lt_or_ge j k with h1 | h1
  · exact h j a h1 ha
  · obtain rfl : j = k := by omega
    rw [hx] at ha
    obtain rfl := Option.some.inj ha
    exact hq

theorem PreN.full {es : List En} {k : Nat} (h : PreN es (k + 1)) (hk : es.length ≤ k + 1) : WfN es := fun j a b ha hb => h j a b (by have := (List.getElem?_eq_some_iff.1 hb).1; omega) ha hb
theorem PreP.full {ps : List (Nat × Nat)} {k : Nat} (h : PreP ps (k + 1)) (hk : ps.length ≤ k + 1) : WfP ps := fun j a b ha hb => h j a b (by have := (List.getElem?_eq_some_iff.1 hb).1; omega) ha hb

set_option maxRecDepth 100000 in
set_option maxHeartbeats 4000000 in
theorem well_any (ea : Option Addr) (eg eo en ec : Nat) (es : List En) (w : World) (hen : es.length = en) (hea : AtHead ea eg eo en) (hE : EntsIn w w.heap.size eg eo es) (hsm : en ≤ 1048576) (hS : Small es en) :
    Calls Try.prog 12 #[.slice ea en ec] w fun e w' => SaysWf es e ∧ Below w.heap.size w w' := by
  have Hen := Hid.mk hen
  have HE := Hid.mk hE
  have HS := Hid.mk hS
  clear hen hE hS
  go_enter Try.func12, Try.ntmps12
  go_wp2
  go_loopw [3] (fun i wr => ∃ k : Nat, k ≤ en ∧ i = .int .i64 ((k : Int) + 1) ∧ Hid (PreN es (k + 1)) ∧ Below w.heap.size w wr) (fun i _ => en + 1 - (intOf i).toNat)
  case atStart => exact ⟨0, Nat.zero_le _, rfl, Hid.mk (fun j a b hj => absurd hj (by omega)), Below.refl _ _⟩
  case round =>
    obtain ⟨k, hk, rfl, Hk, hb⟩ := hrel
    by_cases hlt : k + 1 < en
    · have hao' := hea (by omega)
      subst hao'
      obtain ⟨x, hx⟩ := pick Hen (show k < en by omega)
      obtain ⟨y, hy⟩ := pick Hen hlt
      obtain ⟨c1, _, c3, _, c5, _, _, _⟩ := HE.out k x hx
      obtain ⟨d1, _, d3, _, d5, _, _, _⟩ := HE.out (k + 1) y hy
      obtain ⟨y1, _, _, _, y5⟩ := cost_small x.cs (HS.out k x (by omega) hx).1
      obtain ⟨z1, _, _, _, _⟩ := cost_small y.cs (HS.out (k + 1) y (by omega) hy).1
      have Hcall := Hid.mk (fun W (hW : Below w.heap.size w W) => (compN_any x.na x.nb x.no x.cs.length x.nc x.cs y.na y.nb y.no y.cs.length y.nc y.cs W rfl c3 (c5.later hW hW.size) (by omega) (fun c hc => Nat.le_trans (y5 c hc) (by omega)) rfl d3 (d5.later hW hW.size) (by omega)).mono (fun e w' h => (⟨h.1, hW.trans (h.2.mono hW.size)⟩ : e = .returned (.int .i64 (cmpN x.cs y.cs)) ∧ Below w.heap.size w w')))
      have Hs := Hid.mk (fun hq => Hk.out.succ hx hy hq)
      have C1 := Hid.mk c1
      have D1 := Hid.mk d1
      have e0 : (0 : Int) ≤ (k : Int) := Int.natCast_nonneg _
      have e1 : (k : Int) < (en : Int) := by omega
      have e2 : (k : Int) + 1 < (en : Int) := by omega
      have e3 : (0 : Int) ≤ (k : Int) + 1 := by omega
      have w1 : IntKind.i64.wrap (k : Int) = (k : Int) := (by rw [IntKind.wrap_i64]; omega)
      clear c1 c3 c5 d1 d3 d5 y1 y5 z1 hx hy
      generalize cmpN x.cs y.cs = q at *
      generalize x.cs.length = xl at *
      generalize y.cs.length = yl at *
      go_wp2_with fail
      go_region_held3 (fun w' => Below w.heap.size w w' ∧ w'.cell? ⟨eg, eo + k * 2, none⟩ = some (.slice x.na xl x.nc) ∧ w'.cell? ⟨eg, eo + (k + 1) * 2, none⟩ = some (.slice y.na yl y.nc))
        (exact keep3 (by first | assumption | exact Below.drew (by assumption)) C1.out D1.out)
        (first | (go_at_call 22; refine (Hcall.out _ (by first | assumption | exact Below.drew (by assumption))).mono ?_; rintro e w6 ⟨rfl, hb7⟩))
      by_cases hq : q < 0
      · have hq' : ¬ (0 ≤ q) := by omega
        go_wp2
        go_roundw
        case rel => exact ⟨k + 1, by omega, by go_num, Hid.mk (Hs.out hq), hb7⟩
        case measure => simp [intOf]; omega
      · have hq' : 0 ≤ q := by omega
        go_wp2
        go_ret
        exact ⟨says_no _, hb7⟩
    · have hN := Hk.out.full (by rw [Hen.out]; omega)
      have HN := Hid.mk hN
      clear hN Hk
      go_wp2
      go_loopw [4, 5, 6] (fun i _ _ wr => ∃ k : Nat, k ≤ en ∧ i = .int .i64 k ∧ Hid (PreE es k) ∧ Below w.heap.size w wr) (fun i _ _ _ => en - (intOf i).toNat)
      case atStart => exact ⟨0, Nat.zero_le _, rfl, Hid.mk (fun j a hj => absurd hj (by omega)), hb⟩
      case round =>
        obtain ⟨k2, hk2, rfl, Hk2, hb2⟩ := hrel
        by_cases hlt2 : k2 < en
        · have hao' := hea (by omega)
          subst hao'
          obtain ⟨x, hx⟩ := pick Hen hlt2
          obtain ⟨_, c2, _, _, _, c6, c7, _⟩ := (HE.out.later hb2 hb2.size) k2 x hx
          obtain ⟨np, hnp⟩ : ∃ np, x.ps.length = np := ⟨_, rfl⟩
          have hz := (HS.out k2 x (by omega) hx).2
          rw [hnp] at c2 c6 hz
          have Hnp := Hid.mk hnp
          have Hs := Hid.mk (fun hq => Hk2.out.succ hx hq)
          have HQ := Hid.mk hx
          clear c7 hnp hx
          go_wp2
          go_loopw [6] (fun i wr => ∃ k : Nat, k ≤ np ∧ i = .int .i64 ((k : Int) + 1) ∧ Hid (PreP x.ps (k + 1)) ∧ Below w.heap.size w wr) (fun i _ => np + 1 - (intOf i).toNat)
          case atStart => exact ⟨0, Nat.zero_le _, rfl, Hid.mk (fun j a b hj => absurd hj (by omega)), hb2⟩
          case round =>
            clear c2
            obtain ⟨k3, hk3, rfl, Hk3, hb3⟩ := hrel
            by_cases hlt3 : k3 + 1 < np
            · have hpa := c6 (by omega)
              rw [hpa]
              obtain ⟨_, _, _, _, _, _, c7, _⟩ := (HE.out.later hb3 hb3.size) k2 x HQ.out
              obtain ⟨p, hp⟩ := pick Hnp (show k3 < np by omega)
              obtain ⟨q, hq⟩ := pick Hnp hlt3
              obtain ⟨p1, _, _, _, _⟩ := c7 k3 p hp
              obtain ⟨q1, _, _, _, _⟩ := c7 (k3 + 1) q hq
              have Hs3 := Hid.mk (fun h => Hk3.out.succ hp hq h)
              have e0 : (0 : Int) ≤ (k3 : Int) := Int.natCast_nonneg _
              have e1 : (k3 : Int) < (np : Int) := by omega
              have e2 : (k3 : Int) + 1 < (np : Int) := by omega
              clear hp hq c7
              by_cases hle : p.1 < q.1
              · have hle' : ¬ ((q.1 : Int) ≤ (p.1 : Int)) := by omega
                go_wp2_with fail
                go_quiet (fail)
                go_wp2
                go_roundw
                case rel => exact ⟨k3 + 1, by omega, by go_num, Hid.mk (Hs3.out hle), below_drewN hb3 _⟩
                case measure => simp [intOf]; omega
              · have hle' : (q.1 : Int) ≤ (p.1 : Int) := by omega
                go_wp2_with fail
                go_quiet (fail)
                go_wp2
                go_ret
                exact ⟨says_no _, below_drewN hb3 _⟩
            · have HP := Hid.mk (Hs.out (Hk3.out.full (by rw [Hnp.out]; omega)))
              go_wp2
              go_roundw
              case rel => exact ⟨k2 + 1, by omega, by go_num, HP, hb3⟩
              case measure => simp [intOf]; omega
        · obtain rfl : k2 = en := by omega
          go_wp2
          go_ret
          exact ⟨⟨true, rfl, fun _ => ⟨HN.out, fun j e he => Hk2.out j e (by have := (List.getElem?_eq_some_iff.1 he).1; rw [Hen.out] at this; exact this) he⟩⟩, hb2⟩
end Go.Proofs.Qxb6604512a
