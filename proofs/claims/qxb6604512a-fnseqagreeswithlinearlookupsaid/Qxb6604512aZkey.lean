import Derived.Test.Qxb6604512aName
namespace Go.Proofs.Qxb6604512a
open Go.RowKit

set_option maxRecDepth 100000 in
set_option maxHeartbeats 1000000 in
theorem zzkey_any (vt vv : Value) (n B : Nat) (ds : List Cm) (bt : Int) (w : World) (hn : ds.length = n) (hnn : n ≤ 1099511627776) (hlen : (encComps ds).length ≤ 549755813888) (hty : ∀ d ∈ ds, d.ty < 18446744073709551616)
    (ht : w.ownsRow B 24 1 vt n (ds.map tyv)) (hv : w.ownsRow B 45 1 vv n (ds.map slv)) (hall : ∀ d ∈ ds, w.ownsRow B 5 1 (slv d) d.bs.length (Lib.byteCells d.bs)) :
    Calls Try.prog 19 #[vt, vv, .int .u64 bt] w fun e w' => e = .returned (.tuple #[.string ⟨(encName ds).toArray⟩, .int .u64 bt]) ∧ Below w.heap.size w w' := by
  have h1 := Hid.mk (name_any vt vv n B ds w hn hnn hty ht hv hall)
  have Hk := Hid.mk (fun ao g cap w1 (hao : AtHead ao g 0 n) (hN : NameIn w1 w1.heap.size g 0 ds) => keyOf_any ao g 0 n cap ds bt w1 hn hao hN hlen hnn)
  clear ht hv hall hty hlen hn
  generalize encName ds = l at *
  go_enter Try.func19, Try.ntmps19
  go_wp2_with fail
  refine h1.out.mono ?_
  rintro e w1 ⟨ao, g, cap, rfl, hao, _, hN, hb1⟩
  have h2 := Hid.mk (Hk.out ao g cap w1 hao hN)
  clear h1 Hk hN hao
  go_wp2_with fail
  refine h2.out.mono ?_
  rintro e w2 ⟨rfl, hb2⟩
  have hb3 : Below w.heap.size w w2 := hb1.trans (hb2.mono hb1.size)
  clear h2
  go_wp2_with fail
  go_quiet (fail)
  go_wp2
  go_ret2
  exact ⟨rfl, below_drewN (hb3.alloc hb3.size _) _⟩
end Go.Proofs.Qxb6604512a
