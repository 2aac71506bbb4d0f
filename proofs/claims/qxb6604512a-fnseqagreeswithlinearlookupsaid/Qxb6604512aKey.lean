import Derived.Test.Qxb6604512aElem
namespace Go.Proofs.Qxb6604512a
open Go.RowKit

/-- One name component: its type, its value's address and capacity, its bytes. -/
structure Cm where
  ty : Nat
  ao : Option Addr
  cp : Nat
  bs : List UInt8

def AtHead (ao : Option Addr) (b off n : Nat) : Prop := 0 < n → ao = some ⟨b, off, none⟩

/-- The components lie in block g from 'off' on, two cells each; their bytes below B. -/
def NameIn (w : World) (B g off : Nat) (cs : List Cm) : Prop := ∀ (k : Nat) (c : Cm), cs[k]? = some c →
  w.cell? ⟨g, off + k * 2, none⟩ = some (.int .u64 c.ty) ∧ w.cell? ⟨g, off + k * 2 + 1, none⟩ = some (.slice c.ao c.bs.length c.cp) ∧ Src w B (.slice c.ao c.bs.length c.cp) c.bs ∧ c.ty < 18446744073709551616 ∧ g < B

theorem NameIn.later {w w' : World} {B B' g off : Nat} {cs : List Cm} (h : NameIn w B g off cs) (hb : Below B w w') (hB : B ≤ B') : NameIn w' B' g off cs := by
  intro k c hc
  obtain ⟨h1, h2, h3, h4, h5⟩ := h k c hc
  exact ⟨by rw [hb.cell (p := ⟨g, off + k * 2, none⟩) h5]; exact h1, by rw [hb.cell (p := ⟨g, off + k * 2 + 1, none⟩) h5]; exact h2, h3.later hb hB, h4, Nat.lt_of_lt_of_le h5 hB⟩

/-- The components' elements, one behind the other. -/
def encComps (cs : List Cm) : List UInt8 := cs.flatMap fun c => encElem c.ty c.bs

theorem encComps_succ (cs : List Cm) (k : Nat) (c : Cm) (h : cs[k]? = some c) : encComps (cs.take (k + 1)) = encComps (cs.take k) ++ encElem c.ty c.bs := by
  obtain ⟨h1, rfl⟩ := List.getElem?_eq_some_iff.1 h
  unfold encComps
  rw [List.take_succ_eq_append_getElem h1, List.flatMap_append]
  simp

theorem encComps_le (cs : List Cm) (k : Nat) : (encComps (cs.take k)).length ≤ (encComps cs).length := by
  unfold encComps
  conv => rhs; rw [← List.take_append_drop k cs]
  rw [List.flatMap_append, List.length_append]
  omega

theorem elem_le (cs : List Cm) (k : Nat) (c : Cm) (h : cs[k]? = some c) : c.bs.length ≤ (encComps cs).length := by
  have h1 := encComps_le cs (k + 1)
  rw [encComps_succ cs k c h, List.length_append] at h1
  unfold encElem at h1
  rw [List.length_append, List.length_append] at h1
  omega

set_option maxRecDepth 100000 in
set_option maxHeartbeats 1000000 in
theorem comps_any (ao : Option Addr) (g off n cap : Nat) (cs : List Cm) (w : World) (hn : cs.length = n) (hao : AtHead ao g off n) (hN : NameIn w w.heap.size g off cs) (hlen : (encComps cs).length ≤ 549755813888) (hnn : n ≤ 1099511627776) :
    Calls Try.prog 58 #[.slice ao n cap, .slice none 0 0] w fun e w' => ∃ v', e = .returned v' ∧ w'.ownsRow w.heap.size 5 1 v' (encComps cs).length (Lib.byteCells (encComps cs)) ∧ Below w.heap.size w w' := by
  go_enter Try.func58, Try.ntmps58
  go_wp2
  go_loopw [1, 9] (fun v i wr => ∃ k : Nat, k ≤ n ∧ i = .int .i64 k ∧ wr.ownsRow w.heap.size 5 1 v (encComps (cs.take k)).length (Lib.byteCells (encComps (cs.take k))) ∧ Below w.heap.size w wr) (fun _ i _ => n - (intOf i).toNat)
  case atStart => exact ⟨0, Nat.zero_le _, rfl, World.ownsRow_nil _ _ _ _, Below.refl _ _⟩
  case round =>
    obtain ⟨k, hk, rfl, hown, hb⟩ := hrel
    by_cases hlt : k < n
    · have hh := hao (by omega)
      subst hh
      obtain ⟨c, hc⟩ : ∃ c, cs[k]? = some c := ⟨cs[k], List.getElem?_eq_getElem (by omega)⟩
      obtain ⟨c1, c2, c3, c4, c5⟩ := hN.later hb (Nat.le_refl _) k c hc
      have hsz := hb.size
      have c6 : g < wr.heap.size := Nat.lt_of_lt_of_le c5 hsz
      have s1 := Hid.mk (encComps_succ cs k c hc)
      have s2 := elem_le cs k c hc
      have s3 := encComps_le cs k
      have s4 := encComps_le cs (k + 1)
      have hown1 := hown.alloc (.cells #[.int .u64 c.ty, .slice c.ao c.bs.length c.cp] 86)
      have hb1 : Below w.heap.size wr (wr.alloc (.cells #[.int .u64 c.ty, .slice c.ao c.bs.length c.cp] 86)) := (Below.refl _ _).alloc hsz _
      have He := Hid.mk (elem_any w.heap.size (encComps (cs.take k)).length c.ty c4 _ _ (.slice c.ao c.bs.length c.cp) c.bs _ hown1 (Nat.le_trans hsz hb1.size) (by omega) (c3.later hb1 (Nat.le_refl _)) (by omega))
      have hb01 := hb.trans hb1
      clear hN hao hc c3 c4 hown hb1 hown1
      go_wp2_with fail
      refine He.out.mono ?_
      rintro e w2 ⟨v2, rfl, hown2, hb2⟩
      rw [← List.length_append, ← Lib.byteCells_append, ← s1.out] at hown2
      clear He
      go_wp2
      go_roundw
      case rel => exact ⟨k + 1, by omega, by go_num, hown2, hb01.trans hb2⟩
      case measure => simp [intOf]; omega
    · obtain rfl : k = n := by omega
      rw [List.take_of_length_le (Nat.le_of_eq hn)] at hown
      go_wp2
      go_ret
      exact ⟨_, rfl, hown, hb⟩
end Go.Proofs.Qxb6604512a
