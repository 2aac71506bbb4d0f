import Derived.Test.Qxb6604512aSeq2
import Derived.Test.Qxb6604512aWell
namespace Go.Proofs.Qxb6604512a
open Go.RowKit

theorem Same.cmpN_right : ∀ (x : List Cm) {z z' : List Cm}, Same z z' → Qxb6604512a.cmpN x z = Qxb6604512a.cmpN x z'
  | _, [], [], _ => rfl
  | _, [], _ :: _, h => by simp [Same] at h
  | _, _ :: _, [], h => by simp [Same] at h
  | [], _ :: _, _ :: _, _ => rfl
  | c :: x, a :: z, a' :: z', h => by
    unfold Same at h
    rw [List.map_cons, List.map_cons, List.cons.injEq] at h
    have ih := Same.cmpN_right x (z := z) (z' := z') h.2
    have h1 : a.ty = a'.ty := congrArg Prod.fst h.1
    have h2 : a.bs = a'.bs := congrArg Prod.snd h.1
    unfold Qxb6604512a.cmpN
    rw [cmpC_congr rfl rfl h1 h2, ih]

theorem Like.left {ms : List Mb} {es : List En} {n k : Nat} {m : Mb} (h : Like ms es n) (hn : es.length = n) (hm : ms[k]? = some m) : ∃ e, es[k]? = some e ∧ Same m.ds e.cs ∧ m.ps = e.ps := by
  have hk := (List.getElem?_eq_some_iff.1 hm).1
  rw [h.1] at hk
  obtain ⟨e, he, _⟩ := some_lt (l := es) (k := k) (by omega)
  exact ⟨e, he, h.2 k m e hm he⟩
theorem Like.right {ms : List Mb} {es : List En} {n k : Nat} {e : En} (h : Like ms es n) (hn : es.length = n) (he : es[k]? = some e) : ∃ m, ms[k]? = some m ∧ Same m.ds e.cs ∧ m.ps = e.ps := by
  have hk := (List.getElem?_eq_some_iff.1 he).1
  obtain ⟨m, hm, _⟩ := some_lt (l := ms) (k := k) (by rw [h.1]; omega)
  exact ⟨m, hm, h.2 k m e hm he⟩

theorem held_of {ms : List Mb} {es : List En} {n bt r : Nat} {ds cs : List Cm} (h : Like ms es n) (hn : es.length = n) (hs : Same ds cs) (hr : HeldM ms ds bt r) : Held es cs bt r := by
  rcases hr with ⟨i, m, hm, hz, hp⟩ | ⟨hno, rfl⟩
  · obtain ⟨e, he, h1, h2⟩ := h.left hn hm
    refine .inl ⟨i, e, he, ?_, by rw [← h2]; exact hp⟩
    rw [← h1.cmpN cs, ← Same.cmpN_right m.ds hs]
    exact hz
  · refine .inr ⟨fun i e he hz => ?_, rfl⟩
    obtain ⟨m, hm, h1, h2⟩ := h.right hn he
    refine hno i m hm ?_
    rw [h1.cmpN ds, Same.cmpN_right e.cs hs]
    exact hz

theorem cmpI_le {a b : Nat} (h : cmpI a b ≤ 0) : a ≤ b := by
  unfold cmpI at h
  by_cases h1 : (a : Int) < (b : Int)
  · omega
  · rw [if_neg h1] at h
    by_cases h2 : (b : Int) < (a : Int)
    · rw [if_pos h2] at h; omega
    · omega
theorem cmpI_lt {a b : Nat} (h : a < b) : cmpI a b < 0 := by
  unfold cmpI
  rw [if_pos (by omega)]
  decide

theorem good_of {ms : List Mb} {es : List En} {n bt : Nat} {ds : List Cm} (h : Like ms es n) (hn : es.length = n) (hS : Small es n) (hty : ∀ (k : Nat) (e : En), es[k]? = some e → ∀ c ∈ e.cs, c.ty < 18446744073709551616) (hN : WfN es) (hP : ∀ (k : Nat) (e : En), es[k]? = some e → WfP e.ps) : Good ms ds bt := by
  have hget : ∀ m ∈ ms, ∃ k e, es[k]? = some e ∧ k < n ∧ Same m.ds e.cs ∧ m.ps = e.ps := by
    intro m hm
    obtain ⟨k, hk⟩ := List.mem_iff_getElem?.1 hm
    obtain ⟨e, he, h1, h2⟩ := h.left hn hk
    exact ⟨k, e, he, by rw [← hn]; exact (List.getElem?_eq_some_iff.1 he).1, h1, h2⟩
  refine ⟨fun m hm => ?_, fun a b hab hb hc => ?_, fun m hm a b hab hb hc => ?_⟩
  · obtain ⟨k, e, he, hk, h1, h2⟩ := hget m hm
    obtain ⟨s1, s2⟩ := hS k e hk he
    refine ⟨h1.ty (hty k e he), ?_, ?_⟩
    · rw [h1.len]; have := (cost_small e.cs s1).1; omega
    · rw [h2]; omega
  · obtain ⟨ma, ha, _⟩ := some_lt (l := ms) (k := a) (by omega)
    obtain ⟨mb, hb', _⟩ := some_lt hb
    unfold cN at *
    rw [getD_some hb'] at hc
    rw [getD_some ha]
    obtain ⟨ea, hea, a1, _⟩ := h.left hn ha
    obtain ⟨eb, heb, b1, _⟩ := h.left hn hb'
    rw [b1.cmpN] at hc
    rw [a1.cmpN]
    exact cmpN_trans _ _ _ (hN.lt hab hea heb) hc
  · obtain ⟨k, e, he, hk, h1, h2⟩ := hget m hm
    rw [h2] at hb hc ⊢
    obtain ⟨pa, ha, _⟩ := some_lt (l := e.ps) (k := a) (by omega)
    obtain ⟨pb, hb', _⟩ := some_lt hb
    unfold cP at *
    rw [getD_some hb'] at hc
    rw [getD_some ha]
    have h3 := (hP k e he).lt hab ha hb'
    have h4 := cmpI_le hc
    exact cmpI_lt (by omega)

theorem EntsIn.ty {w : World} {B g off : Nat} {es : List En} (h : EntsIn w B g off es) : ∀ (k : Nat) (e : En), es[k]? = some e → ∀ c ∈ e.cs, c.ty < 18446744073709551616 := fun k e he => ((h k e he).2.2.2.2.1).ty

set_option maxRecDepth 100000 in
set_option maxHeartbeats 2000000 in
theorem seqlaw_any (ea : Option Addr) (eg eo en ec : Nat) (es : List En) (ao : Option Addr) (g off n cap : Nat) (cs : List Cm) (bt : Nat) (w : World) (hen : es.length = en) (hea : AtHead ea eg eo en) (hE : EntsIn w w.heap.size eg eo es)
    (hn : cs.length = n) (hnil : ao = none → n = 0) (hao : AtHead ao g off n) (hN : NameIn w w.heap.size g off cs) :
    Calls Try.prog 3 #[.slice ea en ec, .slice ao n cap, .int .u64 bt] w fun e w' => e = .returned (.bool true) ∧ Below w.heap.size w w' := by
  have Hen := Hid.mk hen
  have HE := Hid.mk hE
  have HN := Hid.mk hN
  have Hn := Hid.mk hn
  have H9 := Hid.mk (bytes3_any ea eg eo en ec es ao g off n cap cs bt w w.heap.size hen hea hE hn hao hN)
  have H10 := Hid.mk (ecost_any ea eg eo en ec es w w.heap.size hen hea hE)
  have H11 := Hid.mk (cost_any ao g off n cap cs w hn hao w.heap.size hN)
  have Hcs := Hid.mk (cost_small cs)
  have hcl := cost_le cs
  clear hen hE hN hn
  generalize cost cs = q at *
  go_enter Try.func3, Try.ntmps3
  go_wp2_with fail
  refine H9.out.mono ?_
  rintro e1 w1 ⟨⟨r, rfl⟩, hw⟩
  have hw := hw.symm
  subst hw
  clear H9
  cases r with
  | false =>
    go_wp2
    go_ret
    exact ⟨rfl, Below.refl _ _⟩
  | true =>
    go_wp2_with fail
    refine H10.out.mono ?_
    rintro e1 w2 ⟨⟨r, rfl, hr1, hr2⟩, hw⟩
    have hw := hw.symm
    subst hw
    have Hr2 := Hid.mk hr2
    clear H10 hr2
    by_cases hbig : 1048576 < (r : Int)
    · have hd : decide (1048576 < (r : Int)) = true := by simpa using hbig
      go_wp2
      go_ret
      exact ⟨rfl, Below.refl _ _⟩
    · have hd : decide (1048576 < (r : Int)) = false := by simpa using hbig
      by_cases hbig2 : (1048576 : Int) - (r : Int) < (q : Int)
      · go_wp2_with (go_at_call 11; refine H11.out.mono ?_; rintro e w' ⟨rfl, hw⟩; have hw := hw.symm; subst hw)
        go_ret
        exact ⟨rfl, Below.refl _ _⟩
      · obtain ⟨hsm, hS⟩ := Hr2.out (by omega)
        rw [Hen.out] at hsm hS
        obtain ⟨y1, y2, y3, y4, y5⟩ := Hcs.out (by omega)
        rw [Hn.out] at y1
        have HS := Hid.mk hS
        have H12 := Hid.mk (well_any ea eg eo en ec es w Hen.out hea HE.out hsm hS)
        have Y3 := Hid.mk y3
        clear Hr2 hS y3 y4 y5 Hcs y2
        go_wp2_with (go_at_call 11; refine H11.out.mono ?_; rintro e w' ⟨rfl, hw⟩; have hw := hw.symm; subst hw)
        refine H12.out.mono ?_
        rintro e1 w1 ⟨⟨r1, rfl, hwf⟩, hb1⟩
        clear H12 H11
        cases r1 with
        | false =>
          go_wp2
          go_ret
          exact ⟨rfl, hb1⟩
        | true =>
          obtain ⟨hWN, hWP⟩ := hwf rfl
          have H13 := Hid.mk (build_any ea eg eo en ec es w1 Hen.out hea (HE.out.later hb1 hb1.size) hsm HS.out)
          have HWN := Hid.mk hWN
          have HWP := Hid.mk hWP
          clear hwf hWN hWP
          go_wp2_with fail
          refine H13.out.mono ?_
          rintro e2 w2 ⟨Ba, vm, ms, rfl, hV, hL, hb2'⟩
          have hb2 : Below w.heap.size w w2 := hb1.trans (hb2'.mono hb1.size)
          have HV := Hid.mk hV
          have HL := Hid.mk hL
          have H14 := Hid.mk (split_any ao g off n cap cs w2 Hn.out hnil hao (HN.out.later hb2 hb2.size) (by have := Y3.out; omega) (by omega))
          clear hV hL H13
          go_wp2_with fail
          refine H14.out.mono ?_
          rintro e3 w3 ⟨vt, vv, ds, rfl, hsame, t1, t2, t3, hb3'⟩
          have hb3 : Below w.heap.size w w3 := hb2.trans (hb3'.mono hb2.size)
          have H15 := Hid.mk (zzseq_any w1.heap.size w2.heap.size Ba vm vt vv ms ds n bt w3 (HV.out.later hb3') (good_of HL.out Hen.out HS.out HE.out.ty HWN.out HWP.out) (by rw [HL.out.1]; omega) (hsame.len.trans Hn.out) (by omega) (hsame.ty HN.out.ty) t1 t2 t3)
          have Hsame := Hid.mk hsame
          clear H14 t1 t2 t3 hsame
          go_wp2_with fail
          refine H15.out.mono ?_
          rintro e4 w4 ⟨⟨r1, rfl, hr1⟩, hb4'⟩
          have hb4 : Below w.heap.size w w4 := hb3.trans (hb4'.mono hb3.size)
          have HR1 := Hid.mk (held_of HL.out Hen.out Hsame.out hr1)
          have H16 := Hid.mk (lin_any ea eg eo en ec es ao g off n cap cs bt w4 Hen.out hea (HE.out.later hb4 hb4.size) hsm HS.out Hn.out hao (HN.out.later hb4 hb4.size) (by omega))
          clear H15 hr1
          go_wp2_with fail
          refine H16.out.mono ?_
          rintro e5 w5 ⟨⟨r2, rfl, hr2⟩, hb5'⟩
          have hb5 : Below w.heap.size w w5 := hb4.trans (hb5'.mono hb4.size)
          obtain rfl := Held.one HWN.out HWP.out HR1.out hr2
          clear hr2 HR1 H16
          have heq : ((r1 : Int) == (r1 : Int)) = true := by simp
          go_wp2
          go_ret
          exact ⟨rfl, hb5⟩
end Go.Proofs.Qxb6604512a
