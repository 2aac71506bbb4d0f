import Derived.Test.Qxb6604512aRvar
namespace Go.Proofs.Qxb6604512a
open Go.RowKit

theorem drop_next {L x r : List UInt8} {i : Nat} (h : L.drop i = x ++ r) : L.drop (i + x.length) = r := by
  have h1 : (L.drop i).drop x.length = (x ++ r).drop x.length := by rw [h]
  rw [List.drop_drop, List.drop_left] at h1
  exact h1

set_option maxRecDepth 100000 in
set_option maxHeartbeats 1000000 in
theorem relem_any (g n cap i t : Nat) (v L r : List UInt8) (w : World) (ht : t < 18446744073709551616) (hB : BytesAt w g n L) (hd : L.drop i = encElem t v ++ r) (hi : i + (encElem t v).length ≤ n) (hn : n ≤ 1099511627776) :
    Calls Try.prog 35 #[.slice (some ⟨g, 0, none⟩) n cap, .int .i64 i] w fun e w' =>
      e = .returned (.tuple #[.int .u64 t, .int .i64 (i + (encVar t).length + (encVar v.length).length : Nat), .int .i64 (i + (encVar t).length + (encVar v.length).length + v.length : Nat), .bool true]) ∧ w' = w := by
  unfold encElem at hd hi
  rw [List.append_assoc] at hd
  rw [List.length_append, List.length_append] at hi
  have h1 := Hid.mk (rvar_any g n cap i t L _ w ht hB hd (by omega) hn)
  have hd2 := drop_next hd
  rw [List.append_assoc] at hd2
  have h2 := Hid.mk (rvar_any g n cap (i + (encVar t).length) v.length L _ w (by omega) hB hd2 (by omega) hn)
  clear hB hd hd2 ht
  generalize (encVar t).length = a at *
  generalize (encVar v.length).length = b at *
  generalize v.length = m at *
  generalize hp1 : i + a = p1 at *
  generalize hp2 : p1 + b = p2 at *
  have hm1 : p2 + m ≤ n := by omega
  have r1 : IntKind.u64.wrap ((n : Int) - (p2 : Int)) = (n : Int) - (p2 : Int) := by rw [IntKind.wrap_u64]; omega
  have r2 : IntKind.i64.wrap (m : Int) = (m : Int) := by rw [IntKind.wrap_i64]; omega
  have hd1 : decide ((n : Int) - (p2 : Int) < (m : Int)) = false := by simp; omega
  clear hp1 hp2 hi
  go_enter Try.func35, Try.ntmps35
  go_wp2_with fail
  refine h1.out.mono ?_
  rintro e w' ⟨rfl, hw⟩
  have hw := hw.symm
  subst hw
  clear h1
  go_wp2_with fail
  refine h2.out.mono ?_
  rintro e w' ⟨rfl, hw⟩
  have hw := hw.symm
  subst hw
  clear h2
  go_wp2
  exact bodyPost_ret (v := .tuple #[.int .u64 t, .int .i64 p2, .int .i64 (p2 + m : Nat), .bool true]) (by simp [results, Try.results35, go_sem]) rfl ⟨rfl, rfl⟩

set_option maxRecDepth 100000 in
set_option maxHeartbeats 1000000 in
/-- 'zzBytesEq' at equal bytes. -/
theorem beq_any (a1 a2 : Option Addr) (b1 o1 b2 o2 n c1 c2 : Nat) (l : List UInt8) (w : World) (hn : n ≤ 1099511627776) (p1 : AtHead a1 b1 o1 n) (q1 : AtHead a2 b2 o2 n)
    (p4 : ∀ j, j < n → w.cell? ⟨b1, o1 + j, none⟩ = some (.int .u8 (l.getD j 0).toNat)) (q4 : ∀ j, j < n → w.cell? ⟨b2, o2 + j, none⟩ = some (.int .u8 (l.getD j 0).toNat)) :
    Calls Try.prog 36 #[.slice a1 n c1, .slice a2 n c2] w fun e w' => e = .returned (.bool true) ∧ ∃ m, w' = w.drewN m := by
  have P4 := Hid.mk p4
  have Q4 := Hid.mk q4
  clear p4 q4
  go_enter Try.func36, Try.ntmps36
  go_wp2
  go_loopw [5] (fun i wr => ∃ k q : Nat, k ≤ n ∧ i = .int .i64 k ∧ wr = w.drewN q) (fun i _ => n - (intOf i).toNat)
  case atStart => exact ⟨0, 0, Nat.zero_le _, rfl, rfl⟩
  case round =>
    obtain ⟨k, q, hk, rfl, rfl⟩ := hrel
    by_cases hlt : k < n
    · have h1 := p1 (by omega)
      have h2 := q1 (by omega)
      subst h1 h2
      have r1 := P4.out k hlt
      have r2 := Q4.out k hlt
      have e0 : (0 : Int) ≤ (k : Int) := Int.natCast_nonneg _
      have e1 : (k : Int) < (n : Int) := by omega
      generalize (l.getD k 0).toNat = x at *
      go_wp2_with fail
      go_quiet (fail)
      go_wp2
      go_roundw
      case rel => exact ⟨k + 1, _, by omega, by go_num, rfl⟩
      case measure => simp [intOf]; omega
    · go_wp2
      go_ret
      exact ⟨rfl, q, rfl⟩
end Go.Proofs.Qxb6604512a
