import Derived.Test.Qxb6604512aSplit
namespace Go.Proofs.Qxb6604512a
open Go.RowKit

theorem own_base {w : World} {B B' size n : Nat} {e : TypeId} {v : Value} {xs : List Value} (h : w.ownsRow B' e size v n xs) (hB : B ≤ B') : w.ownsRow B e size v n xs := by
  refine ⟨h.1, ?_⟩
  rcases h.2 with h' | ⟨g, cap, cur, hv, hb, r⟩
  · exact .inl h'
  · exact .inr ⟨g, cap, cur, hv, Nat.le_trans hB hb, r⟩

theorem own_later {w w' : World} {B size n : Nat} {e : TypeId} {v : Value} {xs : List Value} (h : w.ownsRow B e size v n xs) (hb : Below w.heap.size w w') : w'.ownsRow B e size v n xs := by
  refine ⟨h.1, ?_⟩
  rcases h.2 with h' | ⟨g, cap, cur, hv, hB, hg, r⟩
  · exact .inl h'
  · exact .inr ⟨g, cap, cur, hv, hB, (hb.block g (lt_of_block hg)).trans hg, r⟩

theorem owned_slice {w : World} {base : Nat} {e : TypeId} {size : Nat} {v : Value} {n : Nat} {xs : List Value} (h : w.ownsRow base e size v n xs) : ∃ ao cap, v = .slice ao n cap := by
  rcases h.2 with ⟨h1, h0⟩ | ⟨g, cap, _, hv, _⟩
  · exact ⟨none, 0, by rw [h1, h0]⟩
  · exact ⟨_, cap, hv⟩

theorem pad_set (l : List Value) (z v : Value) (n k : Nat) (hl : l.length = k) (hk : k < n) : (l ++ List.replicate (n - k) z).set k v = (l ++ [v]) ++ List.replicate (n - (k + 1)) z := by
  obtain ⟨m, hm⟩ : ∃ m, n - k = m + 1 := ⟨n - k - 1, by omega⟩
  have hm' : n - (k + 1) = m := by omega
  rw [hm, hm', List.set_append_right _ _ (by omega), hl, Nat.sub_self, List.replicate_succ, List.set_cons_zero, List.append_assoc]
  rfl

/-- A component's slice value. -/
def slv (c : Cm) : Value := .slice c.ao c.bs.length c.cp
def tyv (c : Cm) : Value := .int .u64 c.ty

/-- The same components, in other memory. -/
def Same (ds cs : List Cm) : Prop := ds.map (fun c => (c.ty, c.bs)) = cs.map (fun c => (c.ty, c.bs))

theorem Same.snoc {ds cs : List Cm} {k : Nat} {c d : Cm} (h : Same ds (cs.take k)) (hc : cs[k]? = some c) (h1 : d.ty = c.ty) (h2 : d.bs = c.bs) : Same (ds ++ [d]) (cs.take (k + 1)) := by
  obtain ⟨hk, rfl⟩ := List.getElem?_eq_some_iff.1 hc
  unfold Same at *
  rw [List.take_succ_eq_append_getElem hk, List.map_append, List.map_append, h]
  simp [h1, h2]

theorem Same.len {ds cs : List Cm} (h : Same ds cs) : ds.length = cs.length := by
  have := congrArg List.length h
  simpa using this

theorem Same.enc {ds cs : List Cm} (h : Same ds cs) : encComps ds = encComps cs := by
  have e : ∀ l : List Cm, encComps l = (l.map (fun c => (c.ty, c.bs))).flatMap (fun p => encElem p.1 p.2) := by
    intro l; unfold encComps; rw [List.flatMap_map]
  rw [e, e, h]

theorem Try.info24 : (Try.prog.info? 24).map (fun i => (i.zero, i.size, i.bytes)) = some (some (.int .u64 0), 1, 8) := by kernel_rfl
theorem Try.info45 : (Try.prog.info? 45).map (fun i => (i.zero, i.size, i.bytes)) = some (some (.slice none 0 0), 1, 24) := by kernel_rfl

theorem own_apart {w : World} {B Ba size n : Nat} {e t : TypeId} {c : Array Value} {v : Value} {xs : List Value} (hne : e ≠ t) (h : w.heap[Ba]? = some (.cells c t (0, 0))) (ho : w.ownsRow B e size v n xs) : v.ownBlock ≠ some Ba := by
  intro hv
  rcases ho.2 with ⟨rfl, _⟩ | ⟨g, cap, cur, rfl, _, hg, _⟩
  · simp [Value.ownBlock] at hv
  · simp [Value.ownBlock] at hv
    subst hv
    rw [h] at hg
    simp at hg
    exact hne hg.2.symm

theorem own_block {w : World} {B g n cap size : Nat} {e : TypeId} {xs : List Value} (h : w.ownsRow B e size (.slice (some ⟨g, 0, none⟩) n cap) n xs) : ∃ cur, w.heap[g]? = some (.cells cur e (0, 0)) := by
  rcases h.2 with ⟨h', _⟩ | ⟨g', cap', cur, h', _, hg, _⟩
  · simp at h'
  · simp only [Value.slice.injEq, Option.some.injEq, Addr.mk.injEq, and_true, true_and] at h'
    obtain ⟨rfl, rfl⟩ := h'
    exact ⟨cur, hg⟩

/-- What a store into one of the call's own rows leaves to the rows of other element types. -/
theorem own_store_other {w : World} {B g n cap size size' n' : Nat} {e t : TypeId} {xs ys : List Value} {v u : Value} {j : Nat} (hne : e ≠ t) (h : w.ownsRow B t size (.slice (some ⟨g, 0, none⟩) n cap) n xs) (ho : w.ownsRow B e size' v n' ys) :
    (w.setCell ⟨g, j, none⟩ u).ownsRow B e size' v n' ys := by
  obtain ⟨cur, hg⟩ := own_block h
  exact ownsRow_setCell_other ho (own_apart hne hg ho) u

theorem split_store {w wr : World} {Bv n k : Nat} {cs ds : List Cm} {c : Cm} {zs : List Value} (hl : (cs.map tyv).length = n) (hk : k < n) (hc : cs[k]? = some c)
    (h1 : wr.ownsRow w.heap.size 24 1 (.slice (some ⟨w.heap.size, 0, none⟩) n n) n (half (cs.map tyv) (.int .u64 0) n k)) (h2 : wr.ownsRow w.heap.size 45 1 (.slice (some ⟨Bv, 0, none⟩) n n) n zs)
    (h3 : ∀ d ∈ ds, wr.ownsRow w.heap.size 5 1 (slv d) d.bs.length (Lib.byteCells d.bs)) (hb : Below w.heap.size w wr) (_hs : w.heap.size ≤ wr.heap.size) :
    (wr.setCell ⟨w.heap.size, k, none⟩ (.int .u64 c.ty)).ownsRow w.heap.size 24 1 (.slice (some ⟨w.heap.size, 0, none⟩) n n) n (half (cs.map tyv) (.int .u64 0) n (k + 1)) ∧
    (wr.setCell ⟨w.heap.size, k, none⟩ (.int .u64 c.ty)).ownsRow w.heap.size 45 1 (.slice (some ⟨Bv, 0, none⟩) n n) n zs ∧
    (∀ d ∈ ds, (wr.setCell ⟨w.heap.size, k, none⟩ (.int .u64 c.ty)).ownsRow w.heap.size 5 1 (slv d) d.bs.length (Lib.byteCells d.bs)) ∧ Below w.heap.size w (wr.setCell ⟨w.heap.size, k, none⟩ (.int .u64 c.ty)) := by
  refine ⟨?_, own_store_other (by decide) h1 h2, fun d hd => own_store_other (by decide) h1 (h3 d hd), hb.setCell (Nat.le_refl _) _⟩
  have := (h1.stored k (.int .u64 c.ty)).1
  rwa [half_set _ _ n k _ hl hk (by rw [List.getElem?_map, hc]; rfl)] at this

set_option maxRecDepth 100000 in
set_option maxHeartbeats 1000000 in
theorem split_any (ao : Option Addr) (g off n cap : Nat) (cs : List Cm) (w : World) (hn : cs.length = n) (hnil : ao = none → n = 0) (hao : AtHead ao g off n) (hN : NameIn w w.heap.size g off cs) (hlen : (encComps cs).length ≤ 549755813888) (hnn : n ≤ 1099511627776) :
    Calls Try.prog 14 #[.slice ao n cap] w fun e w' => ∃ vt vv ds, e = .returned (.tuple #[vt, vv]) ∧ Same ds cs ∧ w'.ownsRow w.heap.size 24 1 vt n (ds.map tyv) ∧ w'.ownsRow w.heap.size 45 1 vv n (ds.map slv) ∧
      (∀ d ∈ ds, w'.ownsRow w.heap.size 5 1 (slv d) d.bs.length (Lib.byteCells d.bs)) ∧ Below w.heap.size w w' := by
  have q23 : ∀ (w : World) (a : Option Addr) (n c n' c' : Nat), (binOp .eql 23 (.slice a n c) (.slice none n' c')).run Try.prog w = .ok (.bool a.isNone) w := fun w a n c n' c' => Lib.run_eql_slice_nil w _ _ a n c n' c' Try.underlying23
  rcases ao with _ | a
  · obtain rfl := hnil rfl
    obtain rfl : cs = [] := List.eq_nil_of_length_eq_zero hn
    clear hN hnil hao hn
    go_enter Try.func14, Try.ntmps14
    go_wp2
    go_ret2
    exact ⟨_, _, [], rfl, rfl, World.ownsRow_nil _ _ _ _, World.ownsRow_nil _ _ _ _, by simp, Below.refl _ _⟩
  · obtain ⟨i0, hi, hz0, hz1, hz2⟩ := info_parts Try.info24
    obtain ⟨j0, ji, jz0, jz1, jz2⟩ := info_parts Try.info45
    have Hn := Hid.mk hn
    clear hn hnil
    go_enter Try.func14, Try.ntmps14
    go_wp2_with (at_make; refine wpList_make_full _ rfl _ _ 31 rfl w.heap.size 24 i0 (.int .u64 0) 1 Try.underlying31 hi hz0 hz1 _ _ _ _ n rfl rfl rfl rfl (by rw [hz2]; omega) (by unfold maxLen; omega) (Nat.le_refl _) ?_)
    intro w1 hown hgr
    have hb1 : Below w.heap.size w w1 := (Below.refl _ _).grown hgr (Nat.le_refl _) (by simp)
    clear hgr
    go_wp2_with (at_make; refine wpList_make_full _ rfl _ _ 32 rfl w.heap.size 45 j0 (.slice none 0 0) 1 Try.underlying32 ji jz0 jz1 _ _ _ _ n rfl rfl rfl rfl (by rw [jz2]; omega) (by unfold maxLen; omega) hb1.size ?_)
    intro w2 hown2 hgr
    have hown1 := hown.kept hgr (Or.inr (by simp [Value.ownBlock]))
    have hb2 : Below w.heap.size w w2 := hb1.grown hgr hb1.size (by simp)
    have hBv : w.heap.size < w1.heap.size := (hown.lt w.heap.size rfl).2
    rw [show (madeCells #[Value.int .u64 0] n).toList = half (cs.map tyv) (.int .u64 0) n 0 from by rw [half_zero]; exact toList_madeCells_one _ _] at hown1
    rw [show (madeCells #[Value.slice none 0 0] n).toList = List.map slv [] ++ List.replicate (n - 0) (.slice none 0 0) from toList_madeCells_one _ _] at hown2
    clear hgr hown hb1 hi hz0 hz1 hz2 ji jz0 jz1 jz2
    generalize w1.heap.size = Bv at *
    go_wp2
    go_loopw [6] (fun i wr => ∃ (k : Nat) (ds : List Cm), k ≤ n ∧ i = .int .i64 k ∧ ds.length = k ∧ Same ds (cs.take k) ∧ wr.ownsRow w.heap.size 24 1 (.slice (some ⟨w.heap.size, 0, none⟩) n n) n (half (cs.map tyv) (.int .u64 0) n k) ∧
        wr.ownsRow w.heap.size 45 1 (.slice (some ⟨Bv, 0, none⟩) n n) n (ds.map slv ++ List.replicate (n - k) (.slice none 0 0)) ∧ (∀ d ∈ ds, wr.ownsRow w.heap.size 5 1 (slv d) d.bs.length (Lib.byteCells d.bs)) ∧ Below w.heap.size w wr) (fun i _ => n - (intOf i).toNat)
    case atStart => exact ⟨0, [], Nat.zero_le _, rfl, rfl, rfl, hown1, hown2, by simp, hb2⟩
    case round =>
      clear hown1 hown2 hb2
      obtain ⟨k, ds, hk, rfl, hdl, hsm, hown1, hown2, hall, hb2⟩ := hrel
      by_cases hlt : k < n
      · have hao' := Option.some.inj (hao (by omega))
        subst hao'
        obtain ⟨c, hc⟩ : ∃ c, cs[k]? = some c := ⟨cs[k]'(by rw [Hn.out]; exact hlt), List.getElem?_eq_getElem (by rw [Hn.out]; exact hlt)⟩
        obtain ⟨c1, c2, c3, c4, c5⟩ := hN.later hb2 (Nat.le_refl _) k c hc
        have hsz := hb2.size
        have hfz := hown1.frozenAt k
        have hol : ∃ u, wr.cell? ⟨w.heap.size, k, none⟩ = some u := ⟨(half (cs.map tyv) (.int .u64 0) n k)[k]'(by rw [hown1.1]; omega), by rw [hown1.cellAt k (by omega)]; simp⟩
        obtain ⟨u, hu⟩ := hol
        have A := split_store (c := c) (by rw [List.length_map]; exact Hn.out) hlt hc hown1 hown2 hall hb2 (by omega)
        have s2 := elem_le cs k c hc
        obtain ⟨A1, A2, A3, A4⟩ := A
        have hcl := Hid.mk (clone_any c.ao c.cp c.bs (wr.setCell ⟨w.heap.size, k, none⟩ (.int .u64 c.ty)) ((hN.later A4 (Nat.le_refl _) k c hc).2.2.1.later (Below.refl _ _) A4.size) (by omega))
        have c2' : (wr.setCell ⟨w.heap.size, k, none⟩ (.int .u64 c.ty)).cell? ⟨g, off + k * 2 + 1, none⟩ = some (.slice c.ao c.bs.length c.cp) := (hN.later A4 (Nat.le_refl _) k c hc).2.1
        have HA3 := Hid.mk A3
        have Hsm := Hid.mk hsm
        have Hc := Hid.mk hc
        clear hown1 hown2 hall A3 hsm hc hN hao
        go_wp2_with fail
        refine hcl.out.mono ?_
        rintro e w3 ⟨v, rfl, hown3, hb3⟩
        obtain ⟨aa, cc, hv⟩ := owned_slice hown3
        subst hv
        have hown3' := own_base hown3 A4.size
        have hown1' := own_later A1 hb3
        have hown2' := own_later A2 hb3
        have hb4 := A4.trans (hb3.mono A4.size)
        have hf2 := hown2'.frozenAt k
        have hol2 : ∃ u, w3.cell? ⟨Bv, k, none⟩ = some u := ⟨(ds.map slv ++ List.replicate (n - k) (.slice none 0 0))[k]'(by rw [hown2'.1]; omega), by rw [hown2'.cellAt k (by omega)]; simp⟩
        obtain ⟨u2, hu2⟩ := hol2
        have hst := (hown2'.stored k (.slice aa c.bs.length cc)).1
        rw [pad_set _ _ _ n k (by rw [List.length_map]; exact hdl) hlt] at hst
        have hst' : (w3.setCell ⟨Bv, k, none⟩ (.slice aa c.bs.length cc)).ownsRow w.heap.size 45 1 (.slice (some ⟨Bv, 0, none⟩) n n) n (List.map slv (ds ++ [⟨c.ty, aa, cc, c.bs⟩]) ++ List.replicate (n - (k + 1)) (.slice none 0 0)) := by rw [List.map_append]; exact hst
        have h1' := own_store_other (j := k) (u := .slice aa c.bs.length cc) (by decide) hown2' hown1'
        have hall' : ∀ d ∈ ds ++ [(⟨c.ty, aa, cc, c.bs⟩ : Cm)], (w3.setCell ⟨Bv, k, none⟩ (.slice aa c.bs.length cc)).ownsRow w.heap.size 5 1 (slv d) d.bs.length (Lib.byteCells d.bs) := by
          intro d hd
          rcases List.mem_append.1 hd with hd | hd
          · exact own_store_other (by decide) hown2' (own_later (HA3.out d hd) hb3)
          · obtain rfl := List.mem_singleton.1 hd
            exact own_store_other (by decide) hown2' hown3'
        have hb5 := hb4.setCell (p := ⟨Bv, k, none⟩) (Nat.le_of_lt hBv) (.slice aa c.bs.length cc)
        have Hst := Hid.mk hst'
        have Hall := Hid.mk hall'
        have H1 := Hid.mk h1'
        have hsm' := Hsm.out.snoc (d := ⟨c.ty, aa, cc, c.bs⟩) Hc.out rfl rfl
        have Hsm' := Hid.mk hsm'
        clear hst hst' hall' h1' hsm' hown3 hown3' hown1' hown2' A1 A2 hcl HA3 hu c1 c2 c2' Hc
        go_wp2
        go_roundw
        case rel => exact ⟨k + 1, ds ++ [⟨c.ty, aa, cc, c.bs⟩], by omega, by go_num, by simp [hdl], Hsm'.out, H1.out, Hst.out, Hall.out, hb5⟩
        case measure => simp [intOf]; omega
      · obtain rfl : k = n := by omega
        rw [half_all _ _ k (by rw [List.length_map]; exact Hn.out)] at hown1
        rw [Nat.sub_self, List.replicate_zero, List.append_nil] at hown2
        rw [List.take_of_length_le (Nat.le_of_eq Hn.out)] at hsm
        have hty : cs.map tyv = ds.map tyv := by
          have e : ∀ l : List Cm, l.map tyv = (l.map (fun c => (c.ty, c.bs))).map (fun p => Value.int .u64 (p.1 : Nat)) := by
            intro l; rw [List.map_map]; rfl
          rw [e, e, hsm]
        rw [hty] at hown1
        have Hall := Hid.mk hall
        clear hty hall
        go_wp2
        go_ret2
        exact ⟨_, _, ds, rfl, hsm, hown1, hown2, Hall.out, hb2⟩
end Go.Proofs.Qxb6604512a
