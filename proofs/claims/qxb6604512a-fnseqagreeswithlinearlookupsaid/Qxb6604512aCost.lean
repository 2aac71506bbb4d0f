import Derived.Test.Qxb6604512aZkey
namespace Go.Proofs.Qxb6604512a
open Go.RowKit

/-- The bytes of the values. -/
def vals : List Cm → Nat
  | [] => 0
  | c :: cs => c.bs.length + vals cs

theorem vals_snoc (cs : List Cm) (k : Nat) (c : Cm) (h : cs[k]? = some c) : vals (cs.take (k + 1)) = vals (cs.take k) + c.bs.length := by
  induction cs generalizing k with
  | nil => simp at h
  | cons d cs ih =>
    match k with
    | 0 => simp at h; subst h; simp [vals]
    | k + 1 =>
      have := ih k (by simpa using h)
      simp only [List.take_succ_cons, vals] at *
      omega

theorem vals_le (cs : List Cm) (k : Nat) : vals (cs.take k) ≤ vals cs := by
  induction cs generalizing k with
  | nil => simp [vals]
  | cons d cs ih =>
    match k with
    | 0 => simp [vals]
    | k + 1 =>
      have := ih k
      simp only [List.take_succ_cons, vals] at *
      omega

/-- What 'zzNameCost' answers. -/
def cost (cs : List Cm) : Nat := if 32 * cs.length + vals cs ≤ 1048576 then 32 * cs.length + vals cs else 1048577

theorem cost_big (cs : List Cm) (h : 1048576 < 32 * cs.length + vals cs) : cost cs = 1048577 := by unfold cost; rw [if_neg (by omega)]
theorem cost_ok (cs : List Cm) (h : 32 * cs.length + vals cs ≤ 1048576) : cost cs = 32 * cs.length + vals cs := by unfold cost; rw [if_pos h]

theorem ret_int {k : IntKind} {a b : Int} (h : a = b) : Ending.returned (.int k a) = .returned (.int k b) := by rw [h]

set_option maxHeartbeats 1000000 in
theorem cost_any (ao : Option Addr) (g off n cap : Nat) (cs : List Cm) (w : World) (hn : cs.length = n) (hao : AtHead ao g off n) (B : Nat) (hN : NameIn w B g off cs) :
    Calls Try.prog 11 #[.slice ao n cap] w fun e w' => e = .returned (.int .i64 (cost cs)) ∧ w' = w := by
  have Hbig := Hid.mk (cost_big cs)
  have Hok := Hid.mk (cost_ok cs)
  have Hn := Hid.mk hn
  clear hn
  generalize cost cs = q at *
  by_cases hbig : 1048576 < (n : Int)
  · have hq := Hid.mk (Hbig.out (by rw [Hn.out]; omega))
    go_enter Try.func11, Try.ntmps11
    go_wp2
    go_ret
    exact ⟨ret_int (by rw [hq.out]; rfl), rfl⟩
  · have hd : decide (1048576 < (n : Int)) = false := by simpa using hbig
    go_enter Try.func11, Try.ntmps11
    go_wp2
    go_loop [3, 4] (fun t i => ∃ k : Nat, k ≤ n ∧ vals (cs.take k) ≤ 3145728 ∧ i = .int .i64 k ∧ t = .int .i64 (32 * n + vals (cs.take k) : Nat)) (fun _ i => n - (intOf i).toNat)
    case atStart => exact ⟨0, Nat.zero_le _, by simp [vals], rfl, by simp [vals]; go_num⟩
    case round =>
      obtain ⟨k, hk, hvl, rfl, rfl⟩ := hrel
      have hle := vals_le cs k
      by_cases hlt : k < n
      · have hao' := hao (by omega)
        subst hao'
        obtain ⟨c, hc⟩ : ∃ c, cs[k]? = some c := ⟨cs[k]'(by rw [Hn.out]; exact hlt), List.getElem?_eq_getElem (by rw [Hn.out]; exact hlt)⟩
        obtain ⟨_, c2, _, _, _⟩ := hN k c hc
        have hsn := vals_snoc cs k c hc
        have hle2 := vals_le cs (k + 1)
        have Hsn := Hid.mk hsn
        generalize vals (cs.take k) = s at *
        clear hsn
        by_cases ht : 1048576 < 32 * (n : Int) + (s : Int)
        · have hq := Hid.mk (Hbig.out (by rw [Hn.out]; omega))
          have hdt : decide (1048576 < 32 * (n : Int) + (s : Int)) = true := by simpa using ht
          go_wp2
          go_ret
          exact ⟨ret_int (by rw [hq.out]; rfl), rfl⟩
        · have hdt : decide (1048576 < 32 * (n : Int) + (s : Int)) = false := by simpa using ht
          by_cases hb : 1048576 < (c.bs.length : Int)
          · have hq := Hid.mk (Hbig.out (by rw [Hn.out]; have := Hsn.out; omega))
            go_wp2
            go_ret
            exact ⟨ret_int (by rw [hq.out]; rfl), rfl⟩
          · go_wp2
            go_round
            case rel => exact ⟨k + 1, by omega, by rw [Hsn.out]; omega, by go_num, by rw [Hsn.out]; go_num⟩
            case measure => simp [intOf]; omega
      · obtain rfl : k = n := by omega
        rw [List.take_of_length_le (Nat.le_of_eq Hn.out)] at hvl ⊢
        by_cases ht : 1048576 < 32 * (k : Int) + (vals cs : Int)
        · have hq := Hid.mk (Hbig.out (by rw [Hn.out]; omega))
          go_wp2
          go_ret
          exact ⟨ret_int (by rw [hq.out]; rfl), rfl⟩
        · have hq := Hid.mk (Hok.out (by rw [Hn.out]; omega))
          go_wp2
          go_ret
          exact ⟨ret_int (by rw [hq.out, Hn.out]; omega), rfl⟩

/-- It answers a bool. -/
def SaysBool (e : Ending) : Prop := ∃ r, e = .returned (.bool r)
theorem says (r : Bool) : SaysBool (.returned (.bool r)) := ⟨r, rfl⟩

set_option maxHeartbeats 1000000 in
theorem bytes1_any (ao : Option Addr) (g off n cap : Nat) (cs : List Cm) (bt : Int) (w : World) (hn : cs.length = n) (hao : AtHead ao g off n) (B : Nat) (hN : NameIn w B g off cs) :
    Calls Try.prog 18 #[.slice ao n cap, .int .u64 bt] w fun e w' => SaysBool e ∧ w' = w := by
  have Hn := Hid.mk hn
  clear hn
  by_cases hbig : 1048576 < (n : Int)
  · go_enter Try.func18, Try.ntmps18
    go_wp2
    go_ret
    exact ⟨says _, rfl⟩
  · have hd : decide (1048576 < (n : Int)) = false := by simpa using hbig
    go_enter Try.func18, Try.ntmps18
    go_wp2
    go_loop [5, 6] (fun t i => ∃ k m : Nat, k ≤ n ∧ m ≤ 1048576 ∧ i = .int .i64 k ∧ t = .int .i64 m) (fun _ i => n - (intOf i).toNat)
    case atStart => exact ⟨0, n, Nat.zero_le _, by omega, rfl, rfl⟩
    case round =>
      obtain ⟨k, m, hk, hm, rfl, rfl⟩ := hrel
      by_cases hlt : k < n
      · have hao' := hao (by omega)
        subst hao'
        obtain ⟨c, hc⟩ : ∃ c, cs[k]? = some c := ⟨cs[k]'(by rw [Hn.out]; exact hlt), List.getElem?_eq_getElem (by rw [Hn.out]; exact hlt)⟩
        obtain ⟨_, c2, _, _, _⟩ := hN k c hc
        clear hc
        generalize c.bs.length = s at *
        by_cases hs : 1048576 < (s : Int)
        · go_wp2
          go_ret
          exact ⟨says _, rfl⟩
        · by_cases hs2 : 1048576 < (m : Int) + (s : Int)
          · go_wp2
            go_ret
            exact ⟨says _, rfl⟩
          · go_wp2
            go_round
            case rel => exact ⟨k + 1, m + s, by omega, by omega, by go_num, by go_num⟩
            case measure => simp [intOf]; omega
      · go_wp2
        go_ret
        exact ⟨says _, rfl⟩

set_option maxHeartbeats 1000000 in
theorem bytes2_any (ao : Option Addr) (g off n cap : Nat) (cs : List Cm) (bt : Int) (ao2 : Option Addr) (g2 off2 n2 cap2 : Nat) (cs2 : List Cm) (bt2 : Int) (w : World) (hn : cs.length = n) (hao : AtHead ao g off n) (B : Nat) (hN : NameIn w B g off cs)
    (hn2 : cs2.length = n2) (hao2 : AtHead ao2 g2 off2 n2) (hN2 : NameIn w B g2 off2 cs2) :
    Calls Try.prog 21 #[.slice ao n cap, .int .u64 bt, .slice ao2 n2 cap2, .int .u64 bt2] w fun e w' => SaysBool e ∧ w' = w := by
  have Hn := Hid.mk hn
  have Hn2 := Hid.mk hn2
  clear hn hn2
  by_cases hbig : 1048576 < (n : Int)
  · go_enter Try.func21, Try.ntmps21
    go_wp2
    go_ret
    exact ⟨says _, rfl⟩
  · have hd : decide (1048576 < (n : Int)) = false := by simpa using hbig
    go_enter Try.func21, Try.ntmps21
    go_wp2
    go_loop [9, 10] (fun t i => ∃ k m : Nat, k ≤ n ∧ m ≤ 1048576 ∧ i = .int .i64 k ∧ t = .int .i64 m) (fun _ i => n - (intOf i).toNat)
    case atStart => exact ⟨0, n, Nat.zero_le _, by omega, rfl, rfl⟩
    case round =>
      obtain ⟨k, m, hk, hm, rfl, rfl⟩ := hrel
      by_cases hlt : k < n
      · have hao' := hao (by omega)
        subst hao'
        obtain ⟨c, hc⟩ : ∃ c, cs[k]? = some c := ⟨cs[k]'(by rw [Hn.out]; exact hlt), List.getElem?_eq_getElem (by rw [Hn.out]; exact hlt)⟩
        obtain ⟨_, c2, _, _, _⟩ := hN k c hc
        clear hc
        generalize c.bs.length = s at *
        by_cases hs : 1048576 < (s : Int)
        · go_wp2
          go_ret
          exact ⟨says _, rfl⟩
        · by_cases hs2 : 1048576 < (m : Int) + (s : Int)
          · go_wp2
            go_ret
            exact ⟨says _, rfl⟩
          · go_wp2
            go_round
            case rel => exact ⟨k + 1, m + s, by omega, by omega, by go_num, by go_num⟩
            case measure => simp [intOf]; omega
      · by_cases hbig2 : 1048576 < (n2 : Int)
        · go_wp2
          go_ret
          exact ⟨says _, rfl⟩
        · by_cases hbig3 : 1048576 < (m : Int) + (n2 : Int)
          · go_wp2
            go_ret
            exact ⟨says _, rfl⟩
          · have hd2 : decide (1048576 < (n2 : Int)) = false := by simpa using hbig2
            have hd3 : decide (1048576 < (m : Int) + (n2 : Int)) = false := by simpa using hbig3
            go_wp2
            go_loop [9, 11] (fun t i => ∃ k m : Nat, k ≤ n2 ∧ m ≤ 1048576 ∧ i = .int .i64 k ∧ t = .int .i64 m) (fun _ i => n2 - (intOf i).toNat)
            case atStart => exact ⟨0, m + n2, Nat.zero_le _, by omega, rfl, by go_num⟩
            case round =>
              obtain ⟨k', m', hk', hm', rfl, rfl⟩ := hrel
              by_cases hlt2 : k' < n2
              · have hao' := hao2 (by omega)
                subst hao'
                obtain ⟨c, hc⟩ : ∃ c, cs2[k']? = some c := ⟨cs2[k']'(by rw [Hn2.out]; exact hlt2), List.getElem?_eq_getElem (by rw [Hn2.out]; exact hlt2)⟩
                obtain ⟨_, c2, _, _, _⟩ := hN2 k' c hc
                clear hc
                generalize c.bs.length = s at *
                by_cases hs : 1048576 < (s : Int)
                · go_wp2
                  go_ret
                  exact ⟨says _, rfl⟩
                · by_cases hs2 : 1048576 < (m' : Int) + (s : Int)
                  · go_wp2
                    go_ret
                    exact ⟨says _, rfl⟩
                  · go_wp2
                    go_round
                    case rel => exact ⟨k' + 1, m' + s, by omega, by omega, by go_num, by go_num⟩
                    case measure => simp [intOf]; omega
              · go_wp2
                go_ret
                exact ⟨says _, rfl⟩
end Go.Proofs.Qxb6604512a
