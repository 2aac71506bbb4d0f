import Derived.Test.Qxb6604512aPlain
namespace Go.Proofs.Qxb6604512a
open Go.RowKit

/-- Bytes in memory, from a block's head on. -/
def BytesAt (w : World) (g n : Nat) (L : List UInt8) : Prop := ∀ j, j < n → w.cell? ⟨g, j, none⟩ = some (.int .u8 (L.getD j 0).toNat)

theorem drop_at {L x r : List UInt8} {i : Nat} (h : L.drop i = x ++ r) (j : Nat) (hj : j < x.length) : L.getD (i + j) 0 = x.getD j 0 := by
  have h1 : (L.drop i)[j]? = (x ++ r)[j]? := by rw [h]
  rw [List.getElem?_drop, List.getElem?_append_left hj] at h1
  simp [List.getD, h1]

theorem be_at (W x k : Nat) (hk : k < W) : ((Lib.beBytes W x).getD k 0).toNat = x / 256 ^ (W - 1 - k) % 256 := by
  have hle : ∀ W x k, k < W → ((Lib.leBytes W x).getD k 0).toNat = x / 256 ^ k % 256 := by
    intro W
    induction W with
    | zero => intro x k hk; omega
    | succ W ih =>
      intro x k hk
      match k with
      | 0 => simp [Lib.leBytes, Nat.toUInt8]
      | k + 1 =>
        have := ih (x / 256) k (by omega)
        simp only [Lib.leBytes]
        rw [show ((x % 256).toUInt8 :: Lib.leBytes W (x / 256)).getD (k + 1) 0 = (Lib.leBytes W (x / 256)).getD k 0 from by simp [List.getD], this, Nat.div_div_eq_div_mul, Nat.pow_succ, Nat.mul_comm]
  unfold Lib.beBytes
  have hl : (Lib.leBytes W x).length = W := Lib.leBytes_length W x
  have : ((Lib.leBytes W x).reverse).getD k 0 = (Lib.leBytes W x).getD (W - 1 - k) 0 := by
    simp only [List.getD]
    rw [List.getElem?_reverse (by omega), hl]
  rw [this]
  exact hle W x _ (by omega)

/-- The number that the first k bytes of W spell. -/
def acc (W x k : Nat) : Nat := x / 256 ^ (W - k)

theorem acc_zero (W x : Nat) (h : x < 256 ^ W) : acc W x 0 = 0 := by unfold acc; rw [Nat.sub_zero]; exact Nat.div_eq_of_lt h
theorem acc_all (W x : Nat) : acc W x W = x := by unfold acc; rw [Nat.sub_self]; simp
theorem acc_succ (W x k : Nat) (hk : k < W) : acc W x (k + 1) = acc W x k * 256 + x / 256 ^ (W - 1 - k) % 256 := by
  unfold acc
  rw [show W - k = (W - 1 - k) + 1 by omega, show W - (k + 1) = W - 1 - k by omega, Nat.pow_succ, ← Nat.div_div_eq_div_mul]
  omega
theorem acc_lt (W x k : Nat) (hx : x < 256 ^ W) (hk : k < W) (hW : W ≤ 8) : acc W x k < 72057594037927936 := by
  unfold acc
  have h1 : x / 256 ^ (W - k) < 256 ^ k := by
    apply Nat.div_lt_of_lt_mul
    rw [← Nat.pow_add, show W - k + k = W by omega]
    exact hx
  have h2 : 256 ^ k ≤ 256 ^ 7 := Nat.pow_le_pow_right (by omega) (by omega)
  omega

theorem or_step (a b : Nat) (ha : a < 72057594037927936) (hb : b < 256) : bits BinOp.or IntKind.u64 ((a : Int) * 256) (b : Int) = ((a * 256 + b : Nat) : Int) := by
  rw [show (a : Int) * 256 = ((a * 256 : Nat) : Int) by simp, u64_or_nat _ _ (by omega) (by omega), nat_join 8 (a * 256) b (by omega) (by omega)]

set_option maxRecDepth 100000 in
set_option maxHeartbeats 1000000 in
theorem rvar_small (g n cap i x : Nat) (L r : List UInt8) (w : World) (hx : x < 253) (hB : BytesAt w g n L) (hd : L.drop i = encVar x ++ r) (hi : i + 1 ≤ n) (hn : n ≤ 1099511627776) :
    Calls Try.prog 46 #[.slice (some ⟨g, 0, none⟩) n cap, .int .i64 i] w fun e w' => e = .returned (.tuple #[.int .u64 x, .int .i64 (i + 1 : Nat), .bool true]) ∧ w' = w := by
  have he : encVar x = [x.toUInt8] := by unfold encVar; rw [if_pos hx]
  have h0 := drop_at hd 0 (by rw [he]; simp)
  rw [he] at h0
  have hc := hB i (by omega)
  rw [show L.getD i 0 = x.toUInt8 from by simpa using h0, small_byte x hx] at hc
  clear hB hd h0 he
  go_enter Try.func46, Try.ntmps46
  go_wp2
  go_ret3
  exact ⟨by go_num, rfl⟩

/-- The bytes behind the mark. -/
theorem wide_at {L r : List UInt8} {i W x : Nat} {b : UInt8} (hd : L.drop i = (b :: Lib.beBytes W x) ++ r) : L.getD i 0 = b ∧ ∀ k, k < W → (L.getD (i + 1 + k) 0).toNat = x / 256 ^ (W - 1 - k) % 256 := by
  refine ⟨?_, fun k hk => ?_⟩
  · have := drop_at hd 0 (by simp)
    simpa using this
  · have := drop_at hd (k + 1) (by simp [be_len]; exact hk)
    rw [show i + (k + 1) = i + 1 + k by omega] at this
    rw [this, show (b :: Lib.beBytes W x).getD (k + 1) 0 = (Lib.beBytes W x).getD k 0 from by simp [List.getD]]
    exact be_at W x k hk

set_option maxRecDepth 100000 in
set_option maxHeartbeats 1000000 in
theorem rvar_2 (g n cap i x : Nat) (L r : List UInt8) (w : World) (hx1 : 253 ≤ x) (hx2 : x < 256 ^ 2) (hB : BytesAt w g n L) (hd : L.drop i = encVar x ++ r) (he : encVar x = 253 :: Lib.beBytes 2 x) (hi : i + 3 ≤ n) (hn : n ≤ 1099511627776) :
    Calls Try.prog 46 #[.slice (some ⟨g, 0, none⟩) n cap, .int .i64 i] w fun e w' => e = .returned (.tuple #[.int .u64 x, .int .i64 (i + 3 : Nat), .bool true]) ∧ w' = w := by
  rw [he] at hd
  obtain ⟨h0, hby⟩ := wide_at hd
  have hc := hB i (by omega)
  rw [h0] at hc
  have hc0 : w.cell? ⟨g, i, none⟩ = some (.int .u8 253) := hc
  have HB := Hid.mk hB
  have Hby := Hid.mk hby
  have Hx2 := Hid.mk hx2
  have hle : (253 : Int) ≤ (x : Int) := by omega
  clear hB hd h0 he hc hby hx2 hx1
  go_enter Try.func46, Try.ntmps46
  go_wp2
  go_loop [10, 11] (fun a j => ∃ k : Nat, k ≤ 2 ∧ j = .int .i64 k ∧ a = .int .u64 (acc 2 x k)) (fun _ j => 2 - (intOf j).toNat)
  case atStart => exact ⟨0, by omega, rfl, by rw [acc_zero 2 x Hx2.out]; rfl⟩
  case round =>
    obtain ⟨k, hk, rfl, rfl⟩ := hrel
    by_cases hlt : k < 2
    · have hck := HB.out (i + 1 + k) (by omega)
      rw [Hby.out k hlt] at hck
      have hal := acc_lt 2 x k Hx2.out hlt (by omega)
      have hsu := acc_succ 2 x k hlt
      have hbl : x / 256 ^ (2 - 1 - k) % 256 < 256 := Nat.mod_lt _ (by omega)
      generalize x / 256 ^ (2 - 1 - k) % 256 = y at *
      have Hor := Hid.mk (or_step (acc 2 x k) y hal hbl)
      have HS := Hid.mk hsu
      generalize acc 2 x k = a at *
      clear hsu
      go_wp2
      go_round
      case rel => exact ⟨k + 1, by omega, by go_num, by rw [HS.out, ← Hor.out]⟩
      case measure => simp [intOf]; omega
    · obtain rfl : k = 2 := by omega
      rw [acc_all]
      have hdl : decide ((x : Int) < 253) = false := decide_eq_false (by omega)
      have hnl : ¬ (x : Int) < 253 := by omega
      clear hle
      go_wp2
      go_ret3
      exact ⟨by go_num, rfl⟩

set_option maxRecDepth 100000 in
set_option maxHeartbeats 1000000 in
theorem rvar_4 (g n cap i x : Nat) (L r : List UInt8) (w : World) (hx1 : 256 ^ 2 ≤ x) (hx2 : x < 256 ^ 4) (hB : BytesAt w g n L) (hd : L.drop i = encVar x ++ r) (he : encVar x = 254 :: Lib.beBytes 4 x) (hi : i + 5 ≤ n) (hn : n ≤ 1099511627776) :
    Calls Try.prog 46 #[.slice (some ⟨g, 0, none⟩) n cap, .int .i64 i] w fun e w' => e = .returned (.tuple #[.int .u64 x, .int .i64 (i + 5 : Nat), .bool true]) ∧ w' = w := by
  rw [he] at hd
  obtain ⟨h0, hby⟩ := wide_at hd
  have hc := hB i (by omega)
  rw [h0] at hc
  have hc0 : w.cell? ⟨g, i, none⟩ = some (.int .u8 254) := hc
  have HB := Hid.mk hB
  have Hby := Hid.mk hby
  have Hx2 := Hid.mk hx2
  have hle : (65536 : Int) ≤ (x : Int) := by omega
  clear hB hd h0 he hc hby hx2 hx1
  go_enter Try.func46, Try.ntmps46
  go_wp2
  go_loop [10, 11] (fun a j => ∃ k : Nat, k ≤ 4 ∧ j = .int .i64 k ∧ a = .int .u64 (acc 4 x k)) (fun _ j => 4 - (intOf j).toNat)
  case atStart => exact ⟨0, by omega, rfl, by rw [acc_zero 4 x Hx2.out]; rfl⟩
  case round =>
    obtain ⟨k, hk, rfl, rfl⟩ := hrel
    by_cases hlt : k < 4
    · have hck := HB.out (i + 1 + k) (by omega)
      rw [Hby.out k hlt] at hck
      have hal := acc_lt 4 x k Hx2.out hlt (by omega)
      have hsu := acc_succ 4 x k hlt
      have hbl : x / 256 ^ (4 - 1 - k) % 256 < 256 := Nat.mod_lt _ (by omega)
      generalize x / 256 ^ (4 - 1 - k) % 256 = y at *
      have Hor := Hid.mk (or_step (acc 4 x k) y hal hbl)
      have HS := Hid.mk hsu
      generalize acc 4 x k = a at *
      clear hsu
      go_wp2
      go_round
      case rel => exact ⟨k + 1, by omega, by go_num, by rw [HS.out, ← Hor.out]⟩
      case measure => simp [intOf]; omega
    · obtain rfl : k = 4 := by omega
      rw [acc_all]
      have hdl : decide ((x : Int) < 65536) = false := decide_eq_false (by omega)
      have hnl : ¬ (x : Int) < 65536 := by omega
      clear hle
      go_wp2
      go_ret3
      exact ⟨by go_num, rfl⟩

set_option maxRecDepth 100000 in
set_option maxHeartbeats 1000000 in
theorem rvar_8 (g n cap i x : Nat) (L r : List UInt8) (w : World) (hx1 : 256 ^ 4 ≤ x) (hx2 : x < 256 ^ 8) (hB : BytesAt w g n L) (hd : L.drop i = encVar x ++ r) (he : encVar x = 255 :: Lib.beBytes 8 x) (hi : i + 9 ≤ n) (hn : n ≤ 1099511627776) :
    Calls Try.prog 46 #[.slice (some ⟨g, 0, none⟩) n cap, .int .i64 i] w fun e w' => e = .returned (.tuple #[.int .u64 x, .int .i64 (i + 9 : Nat), .bool true]) ∧ w' = w := by
  rw [he] at hd
  obtain ⟨h0, hby⟩ := wide_at hd
  have hc := hB i (by omega)
  rw [h0] at hc
  have hc0 : w.cell? ⟨g, i, none⟩ = some (.int .u8 255) := hc
  have HB := Hid.mk hB
  have Hby := Hid.mk hby
  have Hx2 := Hid.mk hx2
  have hle : (4294967296 : Int) ≤ (x : Int) := by omega
  clear hB hd h0 he hc hby hx2 hx1
  go_enter Try.func46, Try.ntmps46
  go_wp2
  go_loop [10, 11] (fun a j => ∃ k : Nat, k ≤ 8 ∧ j = .int .i64 k ∧ a = .int .u64 (acc 8 x k)) (fun _ j => 8 - (intOf j).toNat)
  case atStart => exact ⟨0, by omega, rfl, by rw [acc_zero 8 x Hx2.out]; rfl⟩
  case round =>
    obtain ⟨k, hk, rfl, rfl⟩ := hrel
    by_cases hlt : k < 8
    · have hck := HB.out (i + 1 + k) (by omega)
      rw [Hby.out k hlt] at hck
      have hal := acc_lt 8 x k Hx2.out hlt (by omega)
      have hsu := acc_succ 8 x k hlt
      have hbl : x / 256 ^ (8 - 1 - k) % 256 < 256 := Nat.mod_lt _ (by omega)
      generalize x / 256 ^ (8 - 1 - k) % 256 = y at *
      have Hor := Hid.mk (or_step (acc 8 x k) y hal hbl)
      have HS := Hid.mk hsu
      generalize acc 8 x k = a at *
      clear hsu
      go_wp2
      go_round
      case rel => exact ⟨k + 1, by omega, by go_num, by rw [HS.out, ← Hor.out]⟩
      case measure => simp [intOf]; omega
    · obtain rfl : k = 8 := by omega
      rw [acc_all]
      have hdl : decide ((x : Int) < 4294967296) = false := decide_eq_false (by omega)
      have hnl : ¬ (x : Int) < 4294967296 := by omega
      clear hle
      go_wp2
      go_ret3
      exact ⟨by go_num, rfl⟩

/-- 'zzReadVar' at a number that stands there. -/
theorem rvar_any (g n cap i x : Nat) (L r : List UInt8) (w : World) (hx : x < 18446744073709551616) (hB : BytesAt w g n L) (hd : L.drop i = encVar x ++ r) (hi : i + (encVar x).length ≤ n) (hn : n ≤ 1099511627776) :
    Calls Try.prog 46 #[.slice (some ⟨g, 0, none⟩) n cap, .int .i64 i] w fun e w' => e = .returned (.tuple #[.int .u64 x, .int .i64 (i + (encVar x).length : Nat), .bool true]) ∧ w' = w := by
  rcases encVar_cases x hx with ⟨h1, he⟩ | ⟨h1, h2, he⟩ | ⟨h1, h2, he⟩ | ⟨h1, h2, he⟩
  · have hl : (encVar x).length = 1 := by rw [he]; rfl
    rw [hl] at hi ⊢
    exact rvar_small g n cap i x L r w h1 hB hd hi hn
  · have hl : (encVar x).length = 3 := by rw [he, List.length_cons, be_len]
    rw [hl] at hi ⊢
    exact rvar_2 g n cap i x L r w h1 h2 hB hd he hi hn
  · have hl : (encVar x).length = 5 := by rw [he, List.length_cons, be_len]
    rw [hl] at hi ⊢
    exact rvar_4 g n cap i x L r w h1 h2 hB hd he hi hn
  · have hl : (encVar x).length = 9 := by rw [he, List.length_cons, be_len]
    rw [hl] at hi ⊢
    exact rvar_8 g n cap i x L r w h1 h2 hB hd he hi hn
end Go.Proofs.Qxb6604512a
