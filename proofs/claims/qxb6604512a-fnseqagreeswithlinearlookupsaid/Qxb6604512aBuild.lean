import Derived.Test.Qxb6604512aGrow2
import Derived.Deep.RegionWith
namespace Go.Proofs.Qxb6604512a
open Go.RowKit

/-- One member of a state vector. -/
structure Mb where
  vn : Value
  ds : List Cm
  sv : Value
  ps : List (Nat × Nat)

def flatM (ms : List Mb) : List Value := ms.flatMap fun m => [m.vn, m.sv]
def flatP (ps : List (Nat × Nat)) : List Value := ps.flatMap fun p => [.int .u64 p.1, .int .u64 p.2]

theorem flatM_len (ms : List Mb) : (flatM ms).length = ms.length * 2 := by
  induction ms with
  | nil => rfl
  | cons d ds ih => unfold flatM at *; rw [List.flatMap_cons, List.length_append, ih]; simp; omega

theorem flatM_snoc (ms : List Mb) (m : Mb) : flatM (ms ++ [m]) = flatM ms ++ [m.vn, m.sv] := by unfold flatM; rw [List.flatMap_append]; rfl

theorem flatP_snoc (ps : List (Nat × Nat)) (k : Nat) (p : Nat × Nat) (h : ps[k]? = some p) : flatP (ps.take (k + 1)) = flatP (ps.take k) ++ [.int .u64 p.1, .int .u64 p.2] := by
  obtain ⟨hk, rfl⟩ := List.getElem?_eq_some_iff.1 h
  rw [List.take_succ_eq_append_getElem hk]
  unfold flatP
  rw [List.flatMap_append]
  rfl

/-- A member lies in memory of the call's own. -/
def Mem1 (w : World) (B : Nat) (m : Mb) : Prop :=
  w.ownsRow B 86 2 m.vn m.ds.length (flat m.ds) ∧ (∀ d ∈ m.ds, w.ownsRow B 5 1 (slv d) d.bs.length (Lib.byteCells d.bs)) ∧ w.ownsRow B 80 2 m.sv m.ps.length (flatP m.ps)

theorem none_ne (v : Value) : v.ownBlock = none ∨ v.ownBlock ≠ none := by
  cases h : v.ownBlock with
  | none => exact .inl rfl
  | some _ => exact .inr (by simp)

theorem Mem1.typed {w w' : World} {B : Nat} {m : Mb} {row : Option Nat} (h : Mem1 w B m) (h5 : Typed 5 none w w') (h86 : Typed 86 none w w') (h80 : Typed 80 row w w') (hr : m.sv.ownBlock = none ∨ m.sv.ownBlock ≠ row) : Mem1 w' B m :=
  ⟨own_typed h.1 h86 (none_ne _), fun d hd => own_typed (h.2.1 d hd) h5 (none_ne _), own_typed h.2.2 h80 hr⟩

theorem Mem1.later {w w' : World} {B : Nat} {m : Mb} (h : Mem1 w B m) (hb : Below w.heap.size w w') : Mem1 w' B m :=
  h.typed (Typed.below hb) (Typed.below hb) (Typed.below (row := none) hb) (none_ne _)

/-- The state vector at block Ba. -/
def Vec (w : World) (B Ba : Nat) (vm : Value) (ms : List Mb) : Prop :=
  w.heap[Ba]? = some (.cells #[vm] 75 (0, 0)) ∧ w.ownsRow B 78 2 vm ms.length (flatM ms) ∧ ∀ m ∈ ms, Mem1 w B m

theorem Vec.later {w w' : World} {B Ba : Nat} {vm : Value} {ms : List Mb} (h : Vec w B Ba vm ms) (hb : Below w.heap.size w w') : Vec w' B Ba vm ms :=
  ⟨(hb.block Ba (lt_of_block h.1)).trans h.1, own_later h.2.1 hb, fun m hm => (h.2.2 m hm).later hb⟩

/-- The members are those of the first entries. -/
def Like (ms : List Mb) (es : List En) (k : Nat) : Prop := ms.length = k ∧ ∀ (j : Nat) (m : Mb) (e : En), ms[j]? = some m → es[j]? = some e → Same m.ds e.cs ∧ m.ps = e.ps

theorem Like.snoc {ms : List Mb} {es : List En} {k : Nat} {m : Mb} {e : En} (h : Like ms es k) (he : es[k]? = some e) (h1 : Same m.ds e.cs) (h2 : m.ps = e.ps) : Like (ms ++ [m]) es (k + 1) := by
  refine ⟨by rw [List.length_append, h.1]; rfl, fun j m' e' hj hj' => ?_⟩
  rcases Nat.lt_or_ge j k with hlt | hge
  · rw [List.getElem?_append_left (by rw [h.1]; exact hlt)] at hj
    exact h.2 j m' e' hj hj'
  · obtain rfl : j = k := by
      have := (List.getElem?_eq_some_iff.1 hj).1
      rw [List.length_append, h.1] at this
      simp at this
      omega
    rw [List.getElem?_append_right (by rw [h.1]; exact Nat.le_refl _), h.1, Nat.sub_self] at hj
    simp at hj
    subst hj
    rw [he] at hj'
    obtain rfl := Option.some.inj hj'
    exact ⟨h1, h2⟩

/-- The state vector while the last member's pairs are laid. -/
def Half (w : World) (B Bi Ba : Nat) (vm vn : Value) (ds : List Cm) (ms : List Mb) (sv : Value) (m : Nat) (ys : List Value) : Prop :=
  w.heap[Ba]? = some (.cells #[vm] 75 (0, 0)) ∧ w.ownsRow B 78 2 vm (ms.length + 1) (flatM ms ++ [vn, sv]) ∧ w.ownsRow Bi 80 2 sv m ys ∧ (∀ m ∈ ms, Mem1 w B m) ∧ w.ownsRow B 86 2 vn ds.length (flat ds) ∧ (∀ d ∈ ds, w.ownsRow B 5 1 (slv d) d.bs.length (Lib.byteCells d.bs)) ∧ Bi ≤ w.heap.size

theorem half_step (B Bi Ba k m bt sq : Nat) (vm vn sv : Value) (ds : List Cm) (ms : List Mb) (ys : List Value) (w0 w : World) (hBi : B ≤ Bi) (hk : ms.length = k) (hk2 : k ≤ 1048576) (hmm : m ≤ 1048576) (hlow : ∀ m ∈ ms, ∀ g, m.sv.ownBlock = some g → g < Bi)
    (h : Half w B Bi Ba vm vn ds ms sv m ys) (hb : Below B w0 w) :
    Calls Try.prog 31 #[.pointer (some ⟨Ba, 0, none⟩), .int .u64 bt, .int .u64 sq] w fun e w' => e = .returned (.tuple #[]) ∧ ∃ sv', Half w' B Bi Ba vm vn ds ms sv' (m + 1) (ys ++ [.int .u64 bt, .int .u64 sq]) ∧ Below B w0 w' := by
  obtain ⟨h1, h2, h3, h4, h5, h6, h7⟩ := h
  subst hk
  refine (addSeq_any B Bi Ba ms.length m bt sq vm sv vn (flatM ms) ys w hBi h7 hk2 hmm h1 (flatM_len ms) h2 h3).mono ?_
  rintro e w' ⟨rfl, sv', q1, q2, q3, q4, q5, q6, q7⟩
  refine ⟨rfl, sv', ⟨q1, q2, q3, fun x hx => (h4 x hx).typed q4 q5 q6 ?_, own_typed h5 q5 (none_ne _), fun d hd => own_typed (h6 d hd) q4 (none_ne _), Nat.le_trans h7 q7.size⟩, hb.trans q7⟩
  cases hx' : x.sv.ownBlock with
  | none => exact .inl rfl
  | some g =>
    right
    intro he
    have := hlow x hx g hx'
    have := (h3.lt g he.symm).1
    omega

theorem half_full {w : World} {B Bi Ba m : Nat} {vm vn sv : Value} {ds : List Cm} {ms : List Mb} {ps : List (Nat × Nat)} (hBi : B ≤ Bi) (hm : ps.length = m) (h : Half w B Bi Ba vm vn ds ms sv m (flatP ps)) : Vec w B Ba vm (ms ++ [⟨vn, ds, sv, ps⟩]) := by
  obtain ⟨h1, h2, h3, h4, h5, h6, _⟩ := h
  subst hm
  refine ⟨h1, by rw [List.length_append, flatM_snoc]; exact h2, fun x hx => ?_⟩
  rcases List.mem_append.1 hx with hx | hx
  · exact h4 x hx
  · obtain rfl := List.mem_singleton.1 hx
    exact ⟨h5, h6, own_base h3 hBi⟩

/-- A member is added. -/
theorem member_half (B Ba k n Bn : Nat) (vm vt vv : Value) (ds : List Cm) (ms : List Mb) (w0 w : World) (hB : B ≤ Ba) (hk : ms.length = k) (hk2 : k ≤ 1048576) (hnn : n ≤ 1099511627776) (hn : ds.length = n) (hBn : B ≤ Bn) (hV : Vec w B Ba vm ms) (hb : Below B w0 w)
    (ht : w.ownsRow Bn 24 1 vt n (ds.map tyv)) (hv : w.ownsRow Bn 45 1 vv n (ds.map slv)) (hall : ∀ d ∈ ds, w.ownsRow Bn 5 1 (slv d) d.bs.length (Lib.byteCells d.bs)) :
    Calls Try.prog 30 #[.pointer (some ⟨Ba, 0, none⟩), vt, vv] w fun e w' => e = .returned (.tuple #[]) ∧ ∃ vm' vn, Half w' B w'.heap.size Ba vm' vn ds ms (.slice none 0 0) 0 (flatP []) ∧ (∀ m ∈ ms, ∀ g, m.sv.ownBlock = some g → g < w'.heap.size) ∧ Below B w0 w' := by
  obtain ⟨h1, h2, h4⟩ := hV
  subst hk
  refine (addMember_any B Ba ms.length n Bn vm vt vv (flatM ms) ds w hB hk2 hnn hn h1 h2 ht hv hall).mono ?_
  rintro e w' ⟨rfl, vm', vn, q1, q2, q3, q4, q5, q6, q7⟩
  have hBw : B ≤ w.heap.size := Nat.le_trans hB (Nat.le_of_lt (lt_of_block h1))
  refine ⟨rfl, vm', vn, ⟨q1, q2, World.ownsRow_nil _ _ _ _, fun x hx => (h4 x hx).typed q4 q5 q6 (none_ne _), by rw [hn]; exact own_base q3 hBw, fun d hd => own_base (own_typed (hall d hd) q4 (none_ne _)) hBn, Nat.le_refl _⟩, fun x hx g hg => Nat.lt_of_lt_of_le ((h4 x hx).2.2.lt g hg).2 q7.size, hb.trans q7⟩

theorem Half.drew {w : World} {B Bi Ba m : Nat} {vm vn sv : Value} {ds : List Cm} {ms : List Mb} {ys : List Value} (h : Half w B Bi Ba vm vn ds ms sv m ys) : Half w.drew B Bi Ba vm vn ds ms sv m ys :=
  ⟨h.1, h.2.1.drew, h.2.2.1.drew, fun x hx => ⟨(h.2.2.2.1 x hx).1.drew, fun d hd => ((h.2.2.2.1 x hx).2.1 d hd).drew, (h.2.2.2.1 x hx).2.2.drew⟩, h.2.2.2.2.1.drew, fun d hd => (h.2.2.2.2.2.1 d hd).drew, h.2.2.2.2.2.2⟩

set_option maxRecDepth 100000 in
set_option maxHeartbeats 4000000 in
theorem build_any (ea : Option Addr) (eg eo en ec : Nat) (es : List En) (w : World) (hen : es.length = en) (hea : AtHead ea eg eo en) (hE : EntsIn w w.heap.size eg eo es) (hsm : en ≤ 1048576) (hS : Small es en) :
    Calls Try.prog 13 #[.slice ea en ec] w fun e w' => ∃ Ba vm ms, e = .returned (.pointer (some ⟨Ba, 0, none⟩)) ∧ Vec w' w.heap.size Ba vm ms ∧ Like ms es en ∧ Below w.heap.size w w' := by
  have Hen := Hid.mk hen
  have HE := Hid.mk hE
  have HS := Hid.mk hS
  clear hen hE hS
  go_enter Try.func13, Try.ntmps13
  go_wp2_with (go_at_call 29; refine (new_any _).mono ?_; rintro e w' ⟨rfl, rfl⟩)
  generalize hw0 : w.alloc (Obj.cells #[Value.slice none 0 0] 75) = w0
  have hV0 : Vec w0 w.heap.size w.heap.size (.slice none 0 0) [] := by
    rw [← hw0]
    exact ⟨heap_alloc_new w _, World.ownsRow_nil _ _ _ _, by simp⟩
  have hb0 : Below w.heap.size w w0 := by rw [← hw0]; exact (Below.refl _ _).alloc (Nat.le_refl _) _
  have HV0 := Hid.mk hV0
  clear hw0 hV0
  go_loopw [4, 5, 6, 7, 8] (fun i _ _ _ _ wr => ∃ (k : Nat) (vm : Value) (ms : List Mb), k ≤ en ∧ i = .int .i64 k ∧ Hid (Vec wr w.heap.size w.heap.size vm ms) ∧ Hid (Like ms es k) ∧ Below w.heap.size w wr) (fun i _ _ _ _ _ => en - (intOf i).toNat)
  case atStart => exact ⟨0, _, [], Nat.zero_le _, rfl, HV0, Hid.mk ⟨rfl, fun j m e h => by simp at h⟩, hb0⟩
  case round =>
    clear HV0 hb0
    obtain ⟨k, vm, ms, hk, rfl, HV, HL, hb⟩ := hrel
    by_cases hlt : k < en
    · have hao' := hea (by omega)
      subst hao'
      obtain ⟨e, he⟩ := pick Hen hlt
      obtain ⟨c1, c2, c3, c4, c5, c6, c7, c8⟩ := (HE.out.later hb hb.size) k e he
      obtain ⟨z1, z2⟩ := HS.out k e hlt he
      obtain ⟨y1, y2, y3, y4, y5⟩ := cost_small e.cs z1
      have Hsp := Hid.mk (split_any e.na e.nb e.no e.cs.length e.nc e.cs wr rfl c4 c3 c5 (by omega) (by omega))
      have HLs := Hid.mk (fun m h1 h2 => HL.out.snoc (m := m) he h1 h2)
      have He := Hid.mk he
      have hml := HL.out.1
      have C6 := Hid.mk c6
      clear c2 c3 c4 c5 c6 c7 y1 y2 y3 y4 y5 z1 he
      go_wp2_with fail
      refine Hsp.out.mono ?_
      rintro e1 w1 ⟨vt, vv, ds, rfl, hsame, r1, r2, r3, hb1⟩
      have Hsame := Hid.mk hsame
      have Hmem := Hid.mk (member_half w.heap.size w.heap.size k e.cs.length wr.heap.size vm vt vv ds ms w w1 (Nat.le_refl _) hml (by omega) (by have := (cost_small e.cs (HS.out k e hlt He.out).1).1; omega) hsame.len hb.size (HV.out.later hb1) (hb.trans (hb1.mono hb.size)) r1 r2 r3)
      clear Hsp r1 r2 r3 hsame hml c1
      go_wp2_with fail
      refine Hmem.out.mono ?_
      rintro e2 w2 ⟨rfl, vm', vn, hH, hlow, hb2⟩
      obtain ⟨d1, d2, d3, d4, d5, d6, d7, d8⟩ := (HE.out.later hb2 hb2.size) k e He.out
      have Hlow := Hid.mk hlow
      have HH := Hid.mk hH
      have hml := HL.out.1
      obtain ⟨np, hnp⟩ : ∃ np, e.ps.length = np := ⟨_, rfl⟩
      rw [hnp] at d2 z2
      have Hnp := Hid.mk hnp
      have hBw : w.heap.size ≤ w2.heap.size := hb2.size
      clear Hmem hlow hH d1 d3 d4 d5 d6 d7 hnp HV
      go_wp2
      go_loopw [8] (fun i wr2 => ∃ (j : Nat) (sv : Value), j ≤ np ∧ i = .int .i64 j ∧ Hid (Half wr2 w.heap.size w2.heap.size w.heap.size vm' vn ds ms sv j (flatP (e.ps.take j))) ∧ Below w.heap.size w wr2) (fun i _ => np - (intOf i).toNat)
      case atStart => exact ⟨0, _, Nat.zero_le _, rfl, HH, hb2⟩
      case round =>
        clear HH
        obtain ⟨j, sv, hj, rfl, HH, hb3⟩ := hrel
        by_cases hjl : j < np
        · obtain ⟨p, hp⟩ := pick Hnp hjl
          obtain ⟨_, _, _, _, _, _, d7, _⟩ := (HE.out.later hb3 hb3.size) k e He.out
          obtain ⟨p1, p2, _, _, p5⟩ := d7 j p hp
          have hpa := C6.out (by rw [Hnp.out]; omega)
          have Hc := Hid.mk (half_step w.heap.size w2.heap.size w.heap.size k j p.1 p.2 vm' vn sv ds ms (flatP (e.ps.take j)) w wr.drew hBw hml (by omega) (by omega) Hlow.out HH.out.drew hb3.drew)
          rw [← flatP_snoc _ _ _ hp] at Hc
          rw [hpa]
          clear d7 hp d2 HH
          have e0 : (0 : Int) ≤ (j : Int) := Int.natCast_nonneg _
          have e1 : (j : Int) < (np : Int) := by omega
          go_wp2_with fail
          go_region_with (go_at_call 31; refine Hc.out.mono ?_; rintro e4 w4 ⟨rfl, sv', hH4, hb4⟩)
          all_goals
            have HH4 := Hid.mk hH4
            clear hH4 Hc p1 p2
            go_wp2
            go_roundw
            case rel => exact ⟨j + 1, sv', by omega, by go_num, HH4, hb4⟩
            case measure => simp [intOf]; omega
        · obtain rfl : j = np := by omega
          have hf := HH.out
          rw [List.take_of_length_le (Nat.le_of_eq Hnp.out)] at hf
          have HV2 := Hid.mk (half_full hBw Hnp.out hf)
          have HL2 := Hid.mk (HLs.out ⟨vn, ds, sv, e.ps⟩ Hsame.out rfl)
          clear hf HH
          go_wp2
          go_roundw
          case rel => exact ⟨k + 1, _, _, by omega, by go_num, HV2, HL2, hb3⟩
          case measure => simp [intOf]; omega
    · obtain rfl : k = en := by omega
      go_wp2
      go_ret
      exact ⟨w.heap.size, vm, ms, rfl, HV.out, HL.out, hb⟩
end Go.Proofs.Qxb6604512a
