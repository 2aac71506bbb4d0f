import Derived.Test.Qxb6604512aEqual
namespace Go.Proofs.Qxb6604512a
open Go.RowKit

/-- One entry: its name and its pairs, and where they lie. -/
structure En where
  na : Option Addr
  nb : Nat
  no : Nat
  nc : Nat
  cs : List Cm
  pa : Option Addr
  pb : Nat
  po : Nat
  pc : Nat
  ps : List (Nat × Nat)

/-- The pairs lie in block g from 'off' on, two cells each. -/
def PairsIn (w : World) (B g off : Nat) (ps : List (Nat × Nat)) : Prop := ∀ (k : Nat) (p : Nat × Nat), ps[k]? = some p →
  w.cell? ⟨g, off + k * 2, none⟩ = some (.int .u64 p.1) ∧ w.cell? ⟨g, off + k * 2 + 1, none⟩ = some (.int .u64 p.2) ∧ p.1 < 18446744073709551616 ∧ p.2 < 18446744073709551616 ∧ g < B

/-- The entries lie in block g from 'off' on, two cells each. -/
def EntsIn (w : World) (B g off : Nat) (es : List En) : Prop := ∀ (k : Nat) (e : En), es[k]? = some e →
  w.cell? ⟨g, off + k * 2, none⟩ = some (.slice e.na e.cs.length e.nc) ∧ w.cell? ⟨g, off + k * 2 + 1, none⟩ = some (.slice e.pa e.ps.length e.pc) ∧
  AtHead e.na e.nb e.no e.cs.length ∧ (e.na = none → e.cs.length = 0) ∧ NameIn w B e.nb e.no e.cs ∧ AtHead e.pa e.pb e.po e.ps.length ∧ PairsIn w B e.pb e.po e.ps ∧ g < B

theorem PairsIn.later {w w' : World} {B B' g off : Nat} {ps : List (Nat × Nat)} (h : PairsIn w B g off ps) (hb : Below B w w') (hB : B ≤ B') : PairsIn w' B' g off ps := by
  intro k c hc
  obtain ⟨h1, h2, h3, h4, h5⟩ := h k c hc
  exact ⟨by rw [hb.cell (p := ⟨g, off + k * 2, none⟩) h5]; exact h1, by rw [hb.cell (p := ⟨g, off + k * 2 + 1, none⟩) h5]; exact h2, h3, h4, Nat.lt_of_lt_of_le h5 hB⟩

theorem EntsIn.later {w w' : World} {B B' g off : Nat} {es : List En} (h : EntsIn w B g off es) (hb : Below B w w') (hB : B ≤ B') : EntsIn w' B' g off es := by
  intro k c hc
  obtain ⟨h1, h2, h3, h4, h5, h6, h7, h8⟩ := h k c hc
  exact ⟨by rw [hb.cell (p := ⟨g, off + k * 2, none⟩) h8]; exact h1, by rw [hb.cell (p := ⟨g, off + k * 2 + 1, none⟩) h8]; exact h2, h3, h4, h5.later hb hB, h6, h7.later hb hB, Nat.lt_of_lt_of_le h8 hB⟩

theorem pick {α : Type} {l : List α} {n k : Nat} (hn : Hid (l.length = n)) (h : k < n) : ∃ c, l[k]? = some c :=
  ⟨l[k]'(by rw [hn.out]; exact h), List.getElem?_eq_getElem (by rw [hn.out]; exact h)⟩

set_option maxRecDepth 100000 in
set_option maxHeartbeats 2000000 in
theorem bytes3_any (ea : Option Addr) (eg eo en ec : Nat) (es : List En) (ao : Option Addr) (g off n cap : Nat) (cs : List Cm) (bt : Int) (w : World) (B : Nat) (hen : es.length = en) (hea : AtHead ea eg eo en) (hE : EntsIn w B eg eo es)
    (hn : cs.length = n) (hao : AtHead ao g off n) (hN : NameIn w B g off cs) :
    Calls Try.prog 9 #[.slice ea en ec, .slice ao n cap, .int .u64 bt] w fun e w' => SaysBool e ∧ w' = w := by
  have Hn := Hid.mk hn
  have Hen := Hid.mk hen
  have HN := Hid.mk hN
  have HE := Hid.mk hE
  clear hn hen hN hE
  by_cases hbig : 1048576 < (en : Int)
  · go_enter Try.func9, Try.ntmps9
    go_wp2
    go_ret
    exact ⟨says _, rfl⟩
  · have hd : decide (1048576 < (en : Int)) = false := by simpa using hbig
    go_enter Try.func9, Try.ntmps9
    go_wp2
    go_loop [7, 8, 9] (fun t i _ => ∃ k m : Nat, k ≤ en ∧ m ≤ 1048576 ∧ i = .int .i64 k ∧ t = .int .i64 m) (fun _ i _ => en - (intOf i).toNat)
    case atStart => exact ⟨0, en, Nat.zero_le _, by omega, rfl, by go_num⟩
    case round =>
      obtain ⟨k, m, hk, hm, rfl, rfl⟩ := hrel
      by_cases hlt : k < en
      · have hao' := hea (by omega)
        subst hao'
        obtain ⟨e, he⟩ := pick Hen hlt
        obtain ⟨c1, c2, c3, _, c5, _, _, _⟩ := HE.out k e he
        have C5 := Hid.mk c5
        obtain ⟨x, Hx⟩ : ∃ x, Hid (e.cs.length = x) := ⟨_, Hid.mk rfl⟩
        rw [Hx.out] at c1 c3
        clear he c5
        generalize e.ps.length = y at *
        by_cases hs : 1048576 < (x : Int)
        · go_wp2
          go_ret
          exact ⟨says _, rfl⟩
        · by_cases hs2 : 1048576 < (m : Int) + (x : Int)
          · go_wp2
            go_ret
            exact ⟨says _, rfl⟩
          · have hd1 : decide (1048576 < (x : Int)) = false := by simpa using hs
            have hd2 : decide (1048576 < (m : Int) + (x : Int)) = false := by simpa using hs2
            go_wp2
            go_loop [7, 9] (fun t i => ∃ k2 m2 : Nat, k2 ≤ x ∧ m2 ≤ 1048576 ∧ i = .int .i64 k2 ∧ t = .int .i64 m2) (fun _ i => x - (intOf i).toNat)
            case atStart => exact ⟨0, m + x, Nat.zero_le _, by omega, rfl, by go_num⟩
            case round =>
              obtain ⟨k2, m2, hk2, hm2, rfl, rfl⟩ := hrel
              by_cases hlt2 : k2 < x
              · have hao' := c3 (by omega)
                rw [hao'] at c1
                obtain ⟨c, hc⟩ := pick Hx hlt2
                obtain ⟨_, d2, _, _, _⟩ := C5.out k2 c hc
                clear hc
                generalize c.bs.length = s at *
                by_cases hs3 : 1048576 < (s : Int)
                · go_wp2
                  go_ret
                  exact ⟨says _, rfl⟩
                · by_cases hs4 : 1048576 < (m2 : Int) + (s : Int)
                  · go_wp2
                    go_ret
                    exact ⟨says _, rfl⟩
                  · go_wp2
                    go_round
                    case rel => exact ⟨k2 + 1, m2 + s, by omega, by omega, by go_num, by go_num⟩
                    case measure => simp [intOf]; omega
              · by_cases hs5 : 1048576 < (y : Int)
                · go_wp2
                  go_ret
                  exact ⟨says _, rfl⟩
                · by_cases hs6 : 1048576 < (m2 : Int) + (y : Int)
                  · go_wp2
                    go_ret
                    exact ⟨says _, rfl⟩
                  · go_wp2
                    go_round
                    case rel => exact ⟨k + 1, m2 + y, by omega, by omega, by go_num, by go_num⟩
                    case measure => simp [intOf]; omega
      · by_cases hbig2 : 1048576 < (n : Int)
        · go_wp2
          go_ret
          exact ⟨says _, rfl⟩
        · by_cases hbig3 : 1048576 < (m : Int) + (n : Int)
          · go_wp2
            go_ret
            exact ⟨says _, rfl⟩
          · have hd2 : decide (1048576 < (n : Int)) = false := by simpa using hbig2
            have hd3 : decide (1048576 < (m : Int) + (n : Int)) = false := by simpa using hbig3
            go_wp2
            go_loop [7, 10] (fun t i => ∃ k m : Nat, k ≤ n ∧ m ≤ 1048576 ∧ i = .int .i64 k ∧ t = .int .i64 m) (fun _ i => n - (intOf i).toNat)
            case atStart => exact ⟨0, m + n, Nat.zero_le _, by omega, rfl, by go_num⟩
            case round =>
              obtain ⟨k', m', hk', hm', rfl, rfl⟩ := hrel
              by_cases hlt2 : k' < n
              · have hao' := hao (by omega)
                subst hao'
                obtain ⟨c, hc⟩ := pick Hn hlt2
                obtain ⟨_, c2, _, _, _⟩ := HN.out k' c hc
                clear hc
                generalize c.bs.length = s at *
                by_cases hs : 1048576 < (s : Int)
                · go_wp2
                  go_ret
                  exact ⟨says _, rfl⟩
                · by_cases hs2 : 1048576 < (m' : Int) + (s : Int)
                  · go_wp2
                    go_ret
                    exact ⟨says _, rfl⟩
                  · go_wp2
                    go_round
                    case rel => exact ⟨k' + 1, m' + s, by omega, by omega, by go_num, by go_num⟩
                    case measure => simp [intOf]; omega
              · go_wp2
                go_ret
                exact ⟨says _, rfl⟩

/-- The first k entries are of a bounded size. -/
def Small (es : List En) (k : Nat) : Prop := ∀ j e, j < k → es[j]? = some e → cost e.cs ≤ 1048576 ∧ e.ps.length ≤ 1048576

theorem Small.succ {es : List En} {k : Nat} {e : En} (h : Small es k) (he : es[k]? = some e) (h1 : cost e.cs ≤ 1048576) (h2 : e.ps.length ≤ 1048576) : Small es (k + 1) := by
  intro j x hj hx
  rcases Nat.lt_or_ge j k with h' | h'
  · exact h j x h' hx
  · obtain rfl : j = k := by omega
    rw [he] at hx
    obtain rfl := Option.some.inj hx
    exact ⟨h1, h2⟩

/-- What 'zzEntriesCost' answers: a number; where it is within the budget all parts are small. -/
def SaysCost (es : List En) (e : Ending) : Prop := ∃ r : Nat, e = .returned (.int .i64 r) ∧ r ≤ 1048577 ∧ (r ≤ 1048576 → es.length ≤ 1048576 ∧ Small es es.length)

theorem says_big (es : List En) : SaysCost es (.returned (.int .i64 1048577)) := ⟨1048577, rfl, Nat.le_refl _, fun h => absurd h (by omega)⟩

theorem cost_le (cs : List Cm) : cost cs ≤ 1048577 := by unfold cost; split <;> omega

set_option maxRecDepth 100000 in
set_option maxHeartbeats 2000000 in
theorem ecost_any (ea : Option Addr) (eg eo en ec : Nat) (es : List En) (w : World) (B : Nat) (hen : es.length = en) (hea : AtHead ea eg eo en) (hE : EntsIn w B eg eo es) :
    Calls Try.prog 10 #[.slice ea en ec] w fun e w' => SaysCost es e ∧ w' = w := by
  have Hen := Hid.mk hen
  have HE := Hid.mk hE
  clear hen hE
  by_cases hbig : 1048576 < (en : Int)
  · go_enter Try.func10, Try.ntmps10
    go_wp2
    go_ret
    exact ⟨says_big _, rfl⟩
  · have hd : decide (1048576 < (en : Int)) = false := by simpa using hbig
    go_enter Try.func10, Try.ntmps10
    go_wp2
    go_loop [3, 4, 5] (fun t i _ => ∃ k m : Nat, k ≤ en ∧ m ≤ 67108864 ∧ i = .int .i64 k ∧ t = .int .i64 m ∧ Hid (Small es k)) (fun _ i _ => en - (intOf i).toNat)
    case atStart => exact ⟨0, 48 * en, Nat.zero_le _, by omega, rfl, by go_num, Hid.mk (fun j e hj => absurd hj (by omega))⟩
    case round =>
      obtain ⟨k, m, hk, hm, rfl, rfl, Hk⟩ := hrel
      by_cases hlt : k < en
      · have hao' := hea (by omega)
        subst hao'
        obtain ⟨e, he⟩ := pick Hen hlt
        obtain ⟨c1, c2, c3, _, c5, _, _, _⟩ := HE.out k e he
        have Hc := Hid.mk (cost_any e.na e.nb e.no e.cs.length e.nc e.cs w rfl c3 B c5)
        have hq := cost_le e.cs
        have Hs := Hid.mk (fun h1 h2 => Hk.out.succ he h1 h2)
        clear he c3 c5
        generalize cost e.cs = q at *
        generalize e.cs.length = x at *
        generalize e.ps.length = y at *
        by_cases ht : 1048576 < (m : Int)
        · have hdt : decide (1048576 < (m : Int)) = true := by simpa using ht
          go_wp2
          go_ret
          exact ⟨says_big _, rfl⟩
        · have hdt : decide (1048576 < (m : Int)) = false := by simpa using ht
          by_cases hy : 1048576 < (y : Int)
          · go_wp2
            go_ret
            exact ⟨says_big _, rfl⟩
          · by_cases hq2 : 1048576 < (q : Int)
            · go_wp2_with (go_at_call 11; refine Hc.out.mono ?_; rintro e w' ⟨rfl, rfl⟩)
              go_ret
              exact ⟨says_big _, rfl⟩
            · go_wp2_with (go_at_call 11; refine Hc.out.mono ?_; rintro e w' ⟨rfl, rfl⟩)
              go_round
              case rel => exact ⟨k + 1, m + (q + 16 * y), by omega, by omega, by go_num, by go_num, Hid.mk (Hs.out (by omega) (by omega))⟩
              case measure => simp [intOf]; omega
      · obtain rfl : k = en := by omega
        by_cases ht : 1048576 < (m : Int)
        · go_wp2
          go_ret
          exact ⟨says_big _, rfl⟩
        · go_wp2
          go_ret
          exact ⟨⟨m, rfl, by omega, fun _ => ⟨by rw [Hen.out]; omega, by rw [Hen.out]; exact Hk.out⟩⟩, rfl⟩
end Go.Proofs.Qxb6604512a
