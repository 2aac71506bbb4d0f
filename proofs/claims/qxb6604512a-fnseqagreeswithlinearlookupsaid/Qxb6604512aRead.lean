import Derived.Test.Qxb6604512aPlain
import Derived.ProofKit
import Derived.OpenShut
import Derived.ShutString
import Derived.ChangeOld
import Derived.Deep.SlicePairs
namespace Go.Proofs.Qxb6604512a
open Go.ChangeShapes Go.WideShapes Go.ChangeAt Go.RowKit Go.Deep

/-- Bytes that came in. -/
theorem read_bytes {H : Type} {enc : TypeId × Value → H} {W : World} {fuel : Nat} {v : Value} {x : DataW H × List MemPlace} (h : DataW.trod enc Try.prog W 0 (fun _ => true) true fuel 45 [v] = some x) :
    ∃ ao cp bs, v = .slice ao bs.length cp ∧ Src W W.heap.size (.slice ao bs.length cp) bs := by
  rcases open_ints Try.underlying45 Try.underlying5 (by kernel_rfl) h with ⟨hcs, _⟩ | ⟨a, l, c, zs, hcs, _, hl, _, hz, _, hcell, hwz⟩
  · simp at hcs
    exact ⟨none, 0, [], hcs, .inl ⟨rfl, rfl⟩⟩
  · simp at hcs
    simp only [if_true] at hz
    have hb : ∀ z ∈ zs, 0 ≤ z ∧ z ≤ 255 := fun z hm => bounds_u8 (hwz z hm)
    have hlen : ((zs.take l).map (fun z : Int => z.toNat.toUInt8)).length = l := by rw [List.length_map, List.length_take]; omega
    refine ⟨some a, c, (zs.take l).map (fun z : Int => z.toNat.toUInt8), by rw [hlen]; exact hcs, .inr ⟨a, c, rfl, ?_, ?_⟩⟩
    · intro j u hu
      have hj : j < l := by
        have := (List.getElem?_eq_some_iff.1 hu).1
        rw [Lib.byteCells_length, hlen] at this
        exact this
      rw [hcell j (by omega)]
      rw [← hu]
      have hz' := hb zs[j] (List.getElem_mem (by omega))
      have hju : ((zs[j].toNat.toUInt8).toNat : Int) = zs[j] := by simp [Nat.toUInt8]; omega
      simp [Lib.byteCells, hj, show j < zs.length by omega, List.getD]
      omega
    · intro hne
      have h0 : 0 < l := by
        rcases Nat.eq_zero_or_pos l with h0 | h0
        · exact absurd (List.eq_nil_of_length_eq_zero (by rw [hlen, h0])) hne
        · exact h0
      have := World.block_lt_of_cell? W _ (hcell 0 (by omega))
      rwa [add_block] at this

theorem u64_nat (a : Int) (h : (Lit.int .u64 a).wf = true) : ∃ x : Nat, a = (x : Int) ∧ x < 18446744073709551616 := by
  have hb : 0 ≤ a ∧ a ≤ 18446744073709551615 := bounds_u64 h
  exact ⟨a.toNat, by omega, by omega⟩

/-- A name that came in. -/
theorem read_name {H : Type} {enc : TypeId × Value → H} {W : World} {fuel : Nat} {ao : Option Addr} {n cap : Nat} {x : DataW H × List MemPlace} (h : DataW.trod enc Try.prog W 0 (fun _ => true) true fuel 23 [.slice ao n cap] = some x) :
    ∃ (g off : Nat) (cs : List Cm), cs.length = n ∧ (ao = none → n = 0) ∧ AtHead ao g off n ∧ NameIn W W.heap.size g off cs := by
  rcases open_slice_pairs Try.underlying23 Try.underlying55 (by kernel_rfl) rfl rfl (by kernel_rfl) (by kernel_rfl) h with ⟨hcs, _⟩ | ⟨a, len, cap', m, nf, V0, V1, D0, D1, P0, P1, hcs, _, hl, _, hm, _, hall⟩
  · simp at hcs
    obtain ⟨rfl, rfl, rfl⟩ := hcs
    exact ⟨0, 0, [], rfl, fun _ => rfl, fun h => absurd h (by omega), fun k c hc => by simp at hc⟩
  · simp at hcs
    obtain ⟨rfl, rfl, rfl⟩ := hcs
    simp only [if_true] at hm
    have each : ∀ i, i < n → ∃ q : Cm, V0 i = .int .u64 q.ty ∧ V1 i = .slice q.ao q.bs.length q.cp ∧ Src W W.heap.size (.slice q.ao q.bs.length q.cp) q.bs ∧ q.ty < 18446744073709551616 := by
      intro i hi
      obtain ⟨_, _, h0, h1⟩ := hall i (by omega)
      obtain ⟨z, hz, _, hw⟩ := DataW.trod_int Try.underlying24 h0
      obtain ⟨t, rfl, ht⟩ := u64_nat z hw
      obtain ⟨ao', cp, bs, hv, hs⟩ := read_bytes h1
      simp at hz
      exact ⟨⟨t, ao', cp, bs⟩, hz, hv, hs, ht⟩
    obtain ⟨q, hq⟩ : ∃ q : Nat → Cm, ∀ i, i < n → V0 i = .int .u64 (q i).ty ∧ V1 i = .slice (q i).ao (q i).bs.length (q i).cp ∧ Src W W.heap.size (.slice (q i).ao (q i).bs.length (q i).cp) (q i).bs ∧ (q i).ty < 18446744073709551616 :=
      ⟨fun i => if h : i < n then (each i h).choose else ⟨0, none, 0, []⟩, fun i hi => by simp only [hi, dif_pos]; exact (each i hi).choose_spec⟩
    obtain ⟨g, off, spot⟩ := a
    have hspot : 0 < n → spot = none := fun h0 => by simpa [Addr.add] using World.cell?_spot (hall 0 (by omega)).1
    refine ⟨g, off, (List.range n).map q, by simp, by simp, fun h0 => by rw [hspot h0], ?_⟩
    intro k c hc
    have hk : k < n := by have := (List.getElem?_eq_some_iff.1 hc).1; simpa using this
    have hqk : q k = c := by simpa [hk] using hc
    obtain ⟨e0, e1, e2, e3⟩ := hq k hk
    obtain ⟨r0, r1, _, _⟩ := hall k (by omega)
    rw [hspot (by omega), Addr.add_lit] at r0 r1
    rw [hqk] at e0 e1 e2 e3
    refine ⟨by rw [r0, e0], by rw [Nat.add_assoc, r1, e1], e2, e3, ?_⟩
    exact World.block_lt_of_cell? W _ r0
end Go.Proofs.Qxb6604512a
