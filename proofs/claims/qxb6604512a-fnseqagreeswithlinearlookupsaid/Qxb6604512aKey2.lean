import Derived.Test.Qxb6604512aKey
namespace Go.Proofs.Qxb6604512a
open Go.RowKit

/-- What is owned can be read. -/
theorem src_of_owns {w : World} {base B : Nat} {v : Value} {bs : List UInt8} (h : w.ownsRow base 5 1 v bs.length (Lib.byteCells bs)) (hB : w.heap.size ≤ B) : Src w B v bs := by
  rcases h.2 with ⟨hv, hn⟩ | ⟨g, cap, cur, hv, hb, hg, _⟩
  · exact .inl ⟨hv, List.eq_nil_of_length_eq_zero hn⟩
  · refine .inr ⟨⟨g, 0, none⟩, cap, hv, fun j u hu => ?_, fun _ => Nat.lt_of_lt_of_le (lt_of_block hg) hB⟩
    have hj := (List.getElem?_eq_some_iff.1 hu).1
    rw [Lib.byteCells_length] at hj
    rw [hv] at h
    rw [Addr.add_lit, Nat.zero_add, h.cellAt j (by omega)]
    exact hu

/-- The wire form of a name. -/
def encName (cs : List Cm) : List UInt8 := encElem 7 (encComps cs)

theorem encVar_pos (n : Nat) : 0 < (encVar n).length := by
  unfold encVar
  repeat' split
  all_goals simp

theorem encElem_pos (t : Nat) (bs : List UInt8) : 0 < (encElem t bs).length := by
  unfold encElem
  rw [List.length_append]
  have := encVar_pos t
  omega

theorem bcell {W w1 : World} (hb : Below W.heap.size W w1) : (∀ b o, b < W.heap.size → w1.cell? ⟨b, o, none⟩ = W.cell? ⟨b, o, none⟩) ∧ (∀ b o, b < W.heap.size → w1.frozen? ⟨b, o, none⟩ = W.frozen? ⟨b, o, none⟩) :=
  ⟨fun b o h => hb.cell (p := ⟨b, o, none⟩) h, fun b o h => hb.frozen (p := ⟨b, o, none⟩) h⟩

set_option maxHeartbeats 1000000 in
theorem wire_any (ao : Option Addr) (g off n cap : Nat) (cs : List Cm) (w : World) (hn : cs.length = n) (hao : AtHead ao g off n) (hN : NameIn w w.heap.size g off cs) (hlen : (encComps cs).length ≤ 549755813888) (hnn : n ≤ 1099511627776) :
    Calls Try.prog 47 #[.slice ao n cap, .slice none 0 0] w fun e w' => ∃ v' B', e = .returned v' ∧ w'.ownsRow B' 5 1 v' (encName cs).length (Lib.byteCells (encName cs)) ∧ Below w.heap.size w w' := by
  have h1 := Hid.mk (comps_any ao g off n cap cs w hn hao hN hlen hnn)
  clear hN
  go_enter Try.func47, Try.ntmps47
  go_wp2_with fail
  refine h1.out.mono ?_
  rintro e w1 ⟨v1, rfl, hown, hb⟩
  have h2 := Hid.mk (elem_any w1.heap.size 0 7 (by omega) (.slice none 0 0) [] v1 (encComps cs) w1 (World.ownsRow_nil _ _ _ _) (Nat.le_refl _) (by omega) (src_of_owns hown (Nat.le_refl _)) hlen)
  clear h1 hown
  go_wp2_with fail
  refine h2.out.mono ?_
  rintro e w2 ⟨v2, rfl, hown2, hb2⟩
  rw [Nat.zero_add, List.nil_append] at hown2
  clear h2
  go_wp2
  go_ret
  exact ⟨v2, w1.heap.size, rfl, hown2, hb.trans (hb2.mono hb.size)⟩

set_option maxHeartbeats 1000000 in
theorem key_any (ao : Option Addr) (g off n cap : Nat) (cs : List Cm) (w : World) (hn : cs.length = n) (hao : AtHead ao g off n) (hN : NameIn w w.heap.size g off cs) (hlen : (encComps cs).length ≤ 549755813888) (hnn : n ≤ 1099511627776) :
    Calls Try.prog 45 #[.slice ao n cap] w fun e w' => e = .returned (.string ⟨(encName cs).toArray⟩) ∧ Below w.heap.size w w' := by
  have h1 := Hid.mk (wire_any ao g off n cap cs w hn hao hN hlen hnn)
  have hpos : 0 < (encName cs).length := encElem_pos _ _
  clear hN hlen
  generalize encName cs = l at *
  go_enter Try.func45, Try.ntmps45
  go_wp2_with fail
  refine h1.out.mono ?_
  rintro e w1 ⟨v1, B', rfl, hown, hb⟩
  rcases hown.2 with ⟨_, h0⟩ | ⟨g', cap', cur, hv, _⟩
  · omega
  subst hv
  have hconv := run_convert_bytes_back (P := Try.prog) w1 45 9 5 ⟨g', 0, none⟩ cap' l Try.underlying45 Try.underlying5 Try.underlying9 (fun j hj => by
    rw [Addr.add_lit, Nat.zero_add, hown.cellAt j (by omega)]
    simp [Lib.byteCells, hj])
  clear h1 hown hpos
  go_wp2
  go_ret
  exact ⟨rfl, hb⟩

set_option maxHeartbeats 1000000 in
theorem keyOf_any (ao : Option Addr) (g off n cap : Nat) (cs : List Cm) (bt : Int) (w : World) (hn : cs.length = n) (hao : AtHead ao g off n) (hN : NameIn w w.heap.size g off cs) (hlen : (encComps cs).length ≤ 549755813888) (hnn : n ≤ 1099511627776) :
    Calls Try.prog 34 #[.slice ao n cap, .int .u64 bt] w fun e w' => e = .returned (.agg #[.string ⟨(encName cs).toArray⟩, .int .u64 bt]) ∧ Below w.heap.size w w' := by
  have hw1 : ∀ o, Below w.heap.size w (w.alloc o) := fun o => (Below.refl _ _).alloc (Nat.le_refl _) o
  have h1 := Hid.mk (fun o => key_any ao g off n cap cs (w.alloc o) hn hao (hN.later (hw1 o) (hw1 o).size) hlen hnn)
  clear hN hw1 hlen
  generalize encName cs = l at *
  go_enter Try.func34, Try.ntmps34
  go_wp2_with fail
  refine (h1.out _).mono ?_
  rintro e w1 ⟨rfl, hb⟩
  obtain ⟨hc, hf⟩ := bcell hb
  have hz := hb.size
  simp only [World.size_alloc] at hc hf hz
  have q0 := hc w.heap.size 0 (by omega)
  have q1 := hc w.heap.size 1 (by omega)
  have f0 := hf w.heap.size 0 (by omega)
  have f1 := hf w.heap.size 1 (by omega)
  clear hc hf h1
  go_wp2
  exact bodyPost_ret (v := .agg #[.string ⟨l.toArray⟩, .int .u64 bt]) (by simp [results, Try.results34, go_sem, q0, q1]) rfl ⟨rfl, ((((Below.refl _ _).alloc (Nat.le_refl _) _).trans (hb.mono (by simp))).setCell (Nat.le_refl _) _).setCell (Nat.le_refl _) _⟩
end Go.Proofs.Qxb6604512a
