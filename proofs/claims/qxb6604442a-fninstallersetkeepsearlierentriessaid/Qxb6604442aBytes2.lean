import Derived.Test.Qxb6604442aScript
namespace Go.Proofs.Qxb6604442a
open Go.RowKit

set_option maxHeartbeats 1000000 in
/-- The second 'zzBytes': whatever it answers, the world stands. -/
theorem bytes2_any (ao : Option Addr) (b off n cap : Nat) (ss : List ByteArray) (ao2 : Option Addr) (b2 off2 n2 cap2 : Nat) (ss2 : List ByteArray) (f : ByteArray) (w : World)
    (hao : AtHead ao b off n) (hc : StrCells w b off n ss) (hao2 : AtHead ao2 b2 off2 n2) (hc2 : StrCells w b2 off2 n2 ss2) :
    Calls Try.prog 16 #[.slice ao n cap, .slice ao2 n2 cap2, .string f] w fun e w' => SaysBool e ∧ w' = w := by
  by_cases hbig : 1048576 < (n : Int)
  · go_enter Try.func16, Try.ntmps16
    go_wp2
    go_ret
    exact ⟨says _, rfl⟩
  · have hd : decide (1048576 < (n : Int)) = false := by simpa using hbig
    go_enter Try.func16, Try.ntmps16
    go_wp2
    go_loop [7, 8] (fun t i => ∃ k m : Nat, k ≤ n ∧ m ≤ 1048576 ∧ i = .int .i64 k ∧ t = .int .i64 m) (fun _ i => n - (intOf i).toNat)
    case atStart => exact ⟨0, n, Nat.zero_le _, by omega, rfl, rfl⟩
    case round =>
      obtain ⟨k, m, hk, hm, rfl, rfl⟩ := hrel
      by_cases hlt : k < n
      · have hao' := hao (by omega)
        subst hao'
        have hck := hc k hlt
        generalize ss.getD k ByteArray.empty = s at hck
        by_cases hs : 1048576 < (s.size : Int)
        · go_wp2
          go_ret
          exact ⟨says _, rfl⟩
        · by_cases hs2 : 1048576 < (m : Int) + (s.size : Int)
          · go_wp2
            go_ret
            exact ⟨says _, rfl⟩
          · go_wp2
            go_round
            case rel => exact ⟨k + 1, m + s.size, by omega, by omega, by go_num, by go_num⟩
            case measure => simp [intOf]; omega
      · by_cases hbig2 : 1048576 < (n2 : Int)
        · go_wp2
          go_ret
          exact ⟨says _, rfl⟩
        · by_cases hbig3 : 1048576 < (m : Int) + (n2 : Int)
          · go_wp2
            go_ret
            exact ⟨says _, rfl⟩
          · have hd2 : decide (1048576 < (n2 : Int)) = false := by simpa using hbig2
            have hd3 : decide (1048576 < (m : Int) + (n2 : Int)) = false := by simpa using hbig3
            go_wp2
            go_loop [7, 9] (fun t i => ∃ k m : Nat, k ≤ n2 ∧ m ≤ 1048576 ∧ i = .int .i64 k ∧ t = .int .i64 m) (fun _ i => n2 - (intOf i).toNat)
            case atStart => exact ⟨0, m + n2, Nat.zero_le _, by omega, rfl, by go_num⟩
            case round =>
              obtain ⟨k', m', hk', hm', rfl, rfl⟩ := hrel
              by_cases hlt2 : k' < n2
              · have hao' := hao2 (by omega)
                subst hao'
                have hck := hc2 k' hlt2
                generalize ss2.getD k' ByteArray.empty = s at hck
                by_cases hs : 1048576 < (s.size : Int)
                · go_wp2
                  go_ret
                  exact ⟨says _, rfl⟩
                · by_cases hs2 : 1048576 < (m' : Int) + (s.size : Int)
                  · go_wp2
                    go_ret
                    exact ⟨says _, rfl⟩
                  · go_wp2
                    go_round
                    case rel => exact ⟨k' + 1, m' + s.size, by omega, by omega, by go_num, by go_num⟩
                    case measure => simp [intOf]; omega
              · by_cases hf : 1048576 < (f.size : Int)
                · go_wp2
                  go_ret
                  exact ⟨says _, rfl⟩
                · by_cases hf2 : 1048576 < (m' : Int) + (f.size : Int)
                  · go_wp2
                    go_ret
                    exact ⟨says _, rfl⟩
                  · go_wp2
                    go_ret
                    exact ⟨says _, rfl⟩
end Go.Proofs.Qxb6604442a
