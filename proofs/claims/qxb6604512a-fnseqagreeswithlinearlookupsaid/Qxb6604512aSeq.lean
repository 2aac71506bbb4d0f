import Derived.Test.Qxb6604512aBuild
import Derived.Test.Qxb6604512aBin
import Derived.Test.Qxb6604512aNcmp2
import Derived.Test.Qxb6604512aLin
namespace Go.Proofs.Qxb6604512a
open Go.RowKit

/-- A row of two-cell elements, as a walk reads it. -/
theorem owned_at2 {w : World} {base n : Nat} {e : TypeId} {v : Value} {xs : List Value} (h : w.ownsRow base e 2 v n xs) :
    ∃ ao g cap, v = .slice ao n cap ∧ AtHead ao g 0 n ∧ (0 < n → g < w.heap.size) ∧ ∀ j, j < n * 2 → w.cell? ⟨g, j, none⟩ = xs[j]? := by
  rcases h.2 with ⟨rfl, rfl⟩ | ⟨g, cap, cur, rfl, _, hg, _⟩
  · exact ⟨none, 0, 0, rfl, fun h => absurd h (by omega), fun h => absurd h (by omega), fun k hk => absurd hk (by omega)⟩
  · exact ⟨_, g, cap, rfl, fun _ => rfl, fun _ => lt_of_block hg, fun k hk => h.cellAt k hk⟩

theorem flatM_at (ms : List Mb) (k : Nat) (m : Mb) (h : ms[k]? = some m) : (flatM ms)[k * 2]? = some m.vn ∧ (flatM ms)[k * 2 + 1]? = some m.sv := by
  induction ms generalizing k with
  | nil => simp at h
  | cons e ds ih =>
    match k with
    | 0 => simp at h; subst h; exact ⟨rfl, rfl⟩
    | k + 1 =>
      have := ih k (by simpa using h)
      rw [show (k + 1) * 2 = k * 2 + 2 by omega]
      exact this

theorem flatP_at (ms : List (Nat × Nat)) (k : Nat) (m : Nat × Nat) (h : ms[k]? = some m) : (flatP ms)[k * 2]? = some (.int .u64 m.1) ∧ (flatP ms)[k * 2 + 1]? = some (.int .u64 m.2) := by
  induction ms generalizing k with
  | nil => simp at h
  | cons e ds ih =>
    match k with
    | 0 => simp at h; subst h; exact ⟨rfl, rfl⟩
    | k + 1 =>
      have := ih k (by simpa using h)
      rw [show (k + 1) * 2 = k * 2 + 2 by omega]
      exact this

theorem name_at {w : World} {B : Nat} {vn : Value} {ds : List Cm} (hty : ∀ d ∈ ds, d.ty < 18446744073709551616) (h : w.ownsRow B 86 2 vn ds.length (flat ds)) (hall : ∀ d ∈ ds, w.ownsRow B 5 1 (slv d) d.bs.length (Lib.byteCells d.bs)) :
    ∃ ao g cap, vn = .slice ao ds.length cap ∧ AtHead ao g 0 ds.length ∧ NameIn w w.heap.size g 0 ds := by
  rcases h.2 with ⟨rfl, h0⟩ | ⟨g, cap, cur, rfl, _⟩
  · obtain rfl : ds = [] := List.eq_nil_of_length_eq_zero h0
    exact ⟨none, 0, 0, rfl, fun h => absurd h (by simp), fun k c hc => by simp at hc⟩
  · exact ⟨_, g, cap, rfl, fun _ => rfl, name_in rfl hty h hall⟩

def mb0 : Mb := ⟨.slice none 0 0, [], .slice none 0 0, []⟩
/-- How the k-th member's name compares. -/
def cN (ms : List Mb) (cs : List Cm) (k : Nat) : Int := cmpN (ms.getD k mb0).ds cs
/-- How the k-th bootstrap time compares. -/
def cP (ps : List (Nat × Nat)) (bt : Nat) (k : Nat) : Int := cmpI (ps.getD k (0, 0)).1 bt

/-- The bounds and the order that a vector keeps. -/
def Good (ms : List Mb) (cs : List Cm) (bt : Nat) : Prop :=
  (∀ m ∈ ms, (∀ d ∈ m.ds, d.ty < 18446744073709551616) ∧ m.ds.length ≤ 1099511627776 ∧ m.ps.length ≤ 1099511627776) ∧
  (∀ a b, a < b → b < ms.length → cN ms cs b ≤ 0 → cN ms cs a < 0) ∧ (∀ m ∈ ms, ∀ a b, a < b → b < m.ps.length → cP m.ps bt b ≤ 0 → cP m.ps bt a < 0)

theorem getD_some {α : Type} {l : List α} {k : Nat} {x d : α} (h : l[k]? = some x) : l.getD k d = x := by rw [List.getD_eq_getElem?_getD, h]; rfl

theorem some_lt {α : Type} {l : List α} {k : Nat} (h : k < l.length) : ∃ x, l[k]? = some x ∧ x ∈ l := ⟨l[k], List.getElem?_eq_getElem h, List.getElem_mem h⟩

theorem mono_of {c : Nat → Int} {n : Nat} (h : ∀ a b, a < b → b < n → c b ≤ 0 → c a < 0) : ∀ a b, a ≤ b → b < n → c b < 0 → c a < 0 := by
  intro a b hab hb hc
  rcases Nat.lt_or_ge a b with h1 | h1
  · exact h a b h1 hb (by omega)
  · obtain rfl : a = b := by omega
    exact hc

set_option maxRecDepth 100000 in
set_option maxHeartbeats 2000000 in
theorem find43_any (B Ba : Nat) (vm : Value) (ms : List Mb) (ao2 : Option Addr) (g2 off2 n2 cap2 : Nat) (cs2 : List Cm) (bt : Nat) (w : World) (hV : Vec w B Ba vm ms) (hG : Good ms cs2 bt) (hml : ms.length ≤ 1099511627776)
    (hn2 : cs2.length = n2) (hao2 : AtHead ao2 g2 off2 n2) (hN2 : NameIn w w.heap.size g2 off2 cs2) (hnn2 : n2 ≤ 1099511627776) :
    Calls Try.prog 43 #[.pointer (some ⟨Ba, 0, none⟩), .slice ao2 n2 cap2] w fun e w' => Found ms.length (cN ms cs2) e ∧ Below w.heap.size w w' := by
  obtain ⟨h1, h2, h3⟩ := hV
  obtain ⟨am, gm, cm, rfl, q1, q2, q3⟩ := owned_at2 h2
  have c0 : w.cell? ⟨Ba, 0, none⟩ = some (.slice am ms.length cm) := by simp [World.cell?, h1]
  have Hc := Hid.mk (bin52_any am gm ms.length cm (.slice ao2 n2 cap2) (cN ms cs2) (fun k => (ms.getD k mb0).vn) (fun k => (ms.getD k mb0).sv) w hml q1
    (fun k hk => by
      obtain ⟨m, hm, _⟩ := some_lt hk
      obtain ⟨f1, f2⟩ := flatM_at ms k m hm
      rw [getD_some hm]
      exact ⟨(q3 (k * 2) (by omega)).trans f1, (q3 (k * 2 + 1) (by omega)).trans f2, q2 (by omega)⟩)
    (fun k W hk hW => by
      obtain ⟨m, hm, hmem⟩ := some_lt hk
      unfold cN
      simp only [getD_some hm]
      obtain ⟨r1, r2, r3⟩ := h3 m hmem
      obtain ⟨g1, g2, g3⟩ := hG.1 m hmem
      obtain ⟨na, ng, nc, e1, e2, e3⟩ := name_at g1 r1 r2
      obtain ⟨sa, sc, e4⟩ := owned_slice r3
      rw [e1]
      exact (cl53_any na ng 0 m.ds.length nc m.ds m.sv ao2 _ off2 n2 cap2 cs2 W rfl e2 (e3.later hW hW.size) g2 hn2 hao2 (hN2.later hW hW.size) hnn2 ⟨sa, _, sc, e4⟩).mono (fun e w' h => ⟨h.1, hW.trans (h.2.mono hW.size)⟩))
    (mono_of hG.2.1))
  clear h1 h2 h3 q1 q2 q3 hG hN2 hao2
  generalize ms.length = n at *
  generalize cN ms cs2 = c at *
  go_enter Try.func43, Try.ntmps43
  go_wp2_with fail
  refine Hc.out.mono ?_
  rintro e1 w1 ⟨⟨i, ok, rfl, hf⟩, hb⟩
  have Hf := Hid.mk hf
  clear hf
  go_wp2
  go_ret2
  exact ⟨⟨i, ok, rfl, Hf.out⟩, hb⟩

set_option maxRecDepth 100000 in
set_option maxHeartbeats 2000000 in
theorem find44_any (B gm x : Nat) (sv : Value) (ps : List (Nat × Nat)) (bt : Nat) (w : World) (hc : w.cell? ⟨gm, x + 1, none⟩ = some sv) (ho : w.ownsRow B 80 2 sv ps.length (flatP ps)) (hpl : ps.length ≤ 1099511627776)
    (hG : ∀ a b, a < b → b < ps.length → cP ps bt b ≤ 0 → cP ps bt a < 0) :
    Calls Try.prog 44 #[.pointer (some ⟨gm, x, none⟩), .int .u64 bt] w fun e w' => Found ps.length (cP ps bt) e ∧ Below w.heap.size w w' := by
  obtain ⟨am, gp, cm, rfl, q1, q2, q3⟩ := owned_at2 ho
  have Hc := Hid.mk (bin55_any am gp ps.length cm (.int .u64 bt) (cP ps bt) (fun k => .int .u64 (ps.getD k (0, 0)).1) (fun k => .int .u64 (ps.getD k (0, 0)).2) w hpl q1
    (fun k hk => by
      obtain ⟨m, hm, _⟩ := some_lt hk
      obtain ⟨f1, f2⟩ := flatP_at ps k m hm
      rw [getD_some hm]
      exact ⟨(q3 (k * 2) (by omega)).trans f1, (q3 (k * 2 + 1) (by omega)).trans f2, q2 (by omega)⟩)
    (fun k W hk hW => (cl56_any _ _ _ W).mono (fun e w' h => ⟨h.1, hW.trans (h.2.mono hW.size)⟩))
    (mono_of hG))
  clear ho q1 q2 q3 hG
  generalize ps.length = n at *
  generalize cP ps bt = c at *
  go_enter Try.func44, Try.ntmps44
  go_wp2_with fail
  refine Hc.out.mono ?_
  rintro e1 w1 ⟨⟨i, ok, rfl, hf⟩, hb⟩
  have Hf := Hid.mk hf
  clear hf
  go_wp2
  go_ret2
  exact ⟨⟨i, ok, rfl, Hf.out⟩, hb⟩
end Go.Proofs.Qxb6604512a
