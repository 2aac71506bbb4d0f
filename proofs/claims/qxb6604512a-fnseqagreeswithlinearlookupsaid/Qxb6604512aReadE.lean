import Derived.Test.Qxb6604512aRead
import Derived.Test.Qxb6604512aEnts
namespace Go.Proofs.Qxb6604512a
open Go.ChangeShapes Go.WideShapes Go.ChangeAt Go.RowKit Go.Deep

/-- A name that came in, its value not yet opened. -/
theorem read_name1 {H : Type} {enc : TypeId × Value → H} {W : World} {fuel : Nat} {v : Value} {x : DataW H × List MemPlace} (h : DataW.trod enc Try.prog W 0 (fun _ => true) true fuel 23 [v] = some x) :
    ∃ (ao : Option Addr) (g off cap : Nat) (cs : List Cm), v = .slice ao cs.length cap ∧ (ao = none → cs.length = 0) ∧ AtHead ao g off cs.length ∧ NameIn W W.heap.size g off cs := by
  have hv : ∃ ao n cap, v = .slice ao n cap := by
    rcases open_slice_pairs Try.underlying23 Try.underlying55 (by kernel_rfl) rfl rfl (by kernel_rfl) (by kernel_rfl) h with ⟨hcs, _⟩ | ⟨a, len, cap', m, nf, V0, V1, D0, D1, P0, P1, hcs, _⟩
    · simp at hcs; exact ⟨_, _, _, hcs⟩
    · simp at hcs; exact ⟨_, _, _, hcs⟩
  obtain ⟨ao, n, cap, rfl⟩ := hv
  obtain ⟨g, off, cs, rfl, h2, h3, h4⟩ := read_name h
  exact ⟨ao, g, off, cap, cs, rfl, h2, h3, h4⟩

/-- Pairs that came in. -/
theorem read_pairs {H : Type} {enc : TypeId × Value → H} {W : World} {fuel : Nat} {v : Value} {x : DataW H × List MemPlace} (h : DataW.trod enc Try.prog W 0 (fun _ => true) true fuel 37 [v] = some x) :
    ∃ (ao : Option Addr) (g off cap : Nat) (ps : List (Nat × Nat)), v = .slice ao ps.length cap ∧ AtHead ao g off ps.length ∧ PairsIn W W.heap.size g off ps := by
  rcases open_slice_pairs Try.underlying37 Try.underlying41 (by kernel_rfl) rfl rfl (by kernel_rfl) (by kernel_rfl) h with ⟨hcs, _⟩ | ⟨a, n, cap', m, nf, V0, V1, D0, D1, P0, P1, hcs, _, hl, _, hm, _, hall⟩
  · simp at hcs
    subst hcs
    exact ⟨none, 0, 0, 0, [], rfl, fun h => absurd h (by simp), fun k c hc => by simp at hc⟩
  · simp at hcs
    subst hcs
    simp only [if_true] at hm
    have each : ∀ i, i < n → ∃ q : Nat × Nat, V0 i = .int .u64 q.1 ∧ V1 i = .int .u64 q.2 ∧ q.1 < 18446744073709551616 ∧ q.2 < 18446744073709551616 := by
      intro i hi
      obtain ⟨_, _, h0, h1⟩ := hall i (by omega)
      obtain ⟨z, hz, _, hw⟩ := DataW.trod_int Try.underlying24 h0
      obtain ⟨t, rfl, ht⟩ := u64_nat z hw
      obtain ⟨z', hz', _, hw'⟩ := DataW.trod_int Try.underlying24 h1
      obtain ⟨t', rfl, ht'⟩ := u64_nat z' hw'
      simp at hz hz'
      exact ⟨(t, t'), hz, hz', ht, ht'⟩
    obtain ⟨q, hq⟩ : ∃ q : Nat → Nat × Nat, ∀ i, i < n → V0 i = .int .u64 (q i).1 ∧ V1 i = .int .u64 (q i).2 ∧ (q i).1 < 18446744073709551616 ∧ (q i).2 < 18446744073709551616 :=
      ⟨fun i => if h : i < n then (each i h).choose else (0, 0), fun i hi => by simp only [hi, dif_pos]; exact (each i hi).choose_spec⟩
    obtain ⟨g, off, spot⟩ := a
    have hspot : 0 < n → spot = none := fun h0 => by simpa [Addr.add] using World.cell?_spot (hall 0 (by omega)).1
    have hlen : ((List.range n).map q).length = n := by simp
    refine ⟨some ⟨g, off, spot⟩, g, off, cap', (List.range n).map q, by rw [hlen], fun h0 => by rw [hspot (by rw [hlen] at h0; exact h0)], ?_⟩
    intro k c hc
    have hk : k < n := by have := (List.getElem?_eq_some_iff.1 hc).1; simpa using this
    have hqk : q k = c := by simpa [hk] using hc
    obtain ⟨e0, e1, e2, e3⟩ := hq k hk
    obtain ⟨r0, r1, _, _⟩ := hall k (by omega)
    rw [hspot (by omega), Addr.add_lit] at r0 r1
    rw [hqk] at e0 e1 e2 e3
    refine ⟨by rw [r0, e0], by rw [Nat.add_assoc, r1, e1], e2, e3, ?_⟩
    exact World.block_lt_of_cell? W _ r0

/-- Entries that came in. -/
theorem read_ents {H : Type} {enc : TypeId × Value → H} {W : World} {fuel : Nat} {ao : Option Addr} {n cap : Nat} {x : DataW H × List MemPlace} (h : DataW.trod enc Try.prog W 0 (fun _ => true) true fuel 22 [.slice ao n cap] = some x) :
    ∃ (g off : Nat) (es : List En), es.length = n ∧ AtHead ao g off n ∧ EntsIn W W.heap.size g off es := by
  rcases open_slice_pairs Try.underlying22 Try.underlying39 (by kernel_rfl) rfl rfl (by kernel_rfl) (by kernel_rfl) h with ⟨hcs, _⟩ | ⟨a, len, cap', m, nf, V0, V1, D0, D1, P0, P1, hcs, _, hl, _, hm, _, hall⟩
  · simp at hcs
    obtain ⟨rfl, rfl, rfl⟩ := hcs
    exact ⟨0, 0, [], rfl, fun h => absurd h (by omega), fun k c hc => by simp at hc⟩
  · simp at hcs
    obtain ⟨rfl, rfl, rfl⟩ := hcs
    simp only [if_true] at hm
    have each : ∀ i, i < n → ∃ q : En, V0 i = .slice q.na q.cs.length q.nc ∧ V1 i = .slice q.pa q.ps.length q.pc ∧ AtHead q.na q.nb q.no q.cs.length ∧ (q.na = none → q.cs.length = 0) ∧ NameIn W W.heap.size q.nb q.no q.cs ∧ AtHead q.pa q.pb q.po q.ps.length ∧ PairsIn W W.heap.size q.pb q.po q.ps := by
      intro i hi
      obtain ⟨_, _, h0, h1⟩ := hall i (by omega)
      obtain ⟨na, nb, no, nc, cs, a1, a2, a3, a4⟩ := read_name1 h0
      obtain ⟨pa, pb, po, pc, ps, b1, b2, b3⟩ := read_pairs h1
      exact ⟨⟨na, nb, no, nc, cs, pa, pb, po, pc, ps⟩, a1, b1, a3, a2, a4, b2, b3⟩
    obtain ⟨q, hq⟩ : ∃ q : Nat → En, ∀ i, i < n → V0 i = .slice (q i).na (q i).cs.length (q i).nc ∧ V1 i = .slice (q i).pa (q i).ps.length (q i).pc ∧ AtHead (q i).na (q i).nb (q i).no (q i).cs.length ∧ ((q i).na = none → (q i).cs.length = 0) ∧ NameIn W W.heap.size (q i).nb (q i).no (q i).cs ∧ AtHead (q i).pa (q i).pb (q i).po (q i).ps.length ∧ PairsIn W W.heap.size (q i).pb (q i).po (q i).ps :=
      ⟨fun i => if h : i < n then (each i h).choose else ⟨none, 0, 0, 0, [], none, 0, 0, 0, []⟩, fun i hi => by simp only [hi, dif_pos]; exact (each i hi).choose_spec⟩
    obtain ⟨g, off, spot⟩ := a
    have hspot : 0 < n → spot = none := fun h0 => by simpa [Addr.add] using World.cell?_spot (hall 0 (by omega)).1
    refine ⟨g, off, (List.range n).map q, by simp, fun h0 => by rw [hspot h0], ?_⟩
    intro k c hc
    have hk : k < n := by have := (List.getElem?_eq_some_iff.1 hc).1; simpa using this
    have hqk : q k = c := by simpa [hk] using hc
    have e := hq k hk
    obtain ⟨r0, r1, _, _⟩ := hall k (by omega)
    rw [hspot (by omega), Addr.add_lit] at r0 r1
    rw [hqk] at e
    obtain ⟨e0, e1, e2, e3, e4, e5, e6⟩ := e
    exact ⟨by rw [r0, e0], by rw [Nat.add_assoc, r1, e1], e2, e3, e4, e5, e6, World.block_lt_of_cell? W _ r0⟩
end Go.Proofs.Qxb6604512a
