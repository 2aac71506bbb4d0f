import Derived.Test.Qxb6604442aRows
import Derived.WalkKit
import Derived.WalkSpells
import Derived.WalkLawsBesides
import Derived.Deep.QuietTactic
import Derived.BigQuiet
namespace Go.Proofs.Qxb6604442a
open Go.RowKit

/-- It answers a bool. -/
def SaysBool (e : Ending) : Prop := ∃ r, e = .returned (.bool r)
theorem says (r : Bool) : SaysBool (.returned (.bool r)) := ⟨r, rfl⟩

/-- The strings of a slice, where it has any. -/
def StrCells (w : World) (b off n : Nat) (ss : List ByteArray) : Prop :=
  ∀ k, k < n → w.cell? ⟨b, off + k, none⟩ = some (.string (ss.getD k ByteArray.empty))
def AtHead (ao : Option Addr) (b off n : Nat) : Prop := 0 < n → ao = some ⟨b, off, none⟩

/-- 'zzBytes': whatever it answers, the world stands. -/
theorem bytes_any (ao : Option Addr) (b off n cap : Nat) (ss : List ByteArray) (w : World)
    (hao : AtHead ao b off n) (hc : StrCells w b off n ss) :
    Calls Try.prog 8 #[.slice ao n cap] w fun e w' => SaysBool e ∧ w' = w := by
  by_cases hbig : 1048576 < (n : Int)
  · go_enter Try.func8, Try.ntmps8
    go_wp2
    go_ret
    exact ⟨says _, rfl⟩
  · have hd : decide (1048576 < (n : Int)) = false := by simpa using hbig
    go_enter Try.func8, Try.ntmps8
    go_wp2
    go_loop [3, 4] (fun t i => ∃ k m : Nat, k ≤ n ∧ m ≤ 1048576 ∧ i = .int .i64 k ∧ t = .int .i64 m) (fun _ i => n - (intOf i).toNat)
    case atStart => exact ⟨0, n, Nat.zero_le _, by omega, rfl, rfl⟩
    case round =>
      obtain ⟨k, m, hk, hm, rfl, rfl⟩ := hrel
      by_cases hlt : k < n
      · have hao' := hao (by omega)
        subst hao'
        have hck := hc k hlt
        generalize ss.getD k ByteArray.empty = s at hck
        by_cases hs : 1048576 < (s.size : Int)
        · go_wp2
          go_ret
          exact ⟨says _, rfl⟩
        · by_cases hs2 : 1048576 < (m : Int) + (s.size : Int)
          · go_wp2
            go_ret
            exact ⟨says _, rfl⟩
          · go_wp2
            go_round
            case rel => exact ⟨k + 1, m + s.size, by omega, by omega, by go_num, by go_num⟩
            case measure => simp [intOf]; omega
      · go_wp2
        go_ret
        exact ⟨says _, rfl⟩

theorem Try.info9 : (Try.prog.info? 9).map (fun i => (i.zero, i.size, i.bytes)) = some (some (.string ⟨#[]⟩), 1, 16) := by kernel_rfl

/-- The clone's row behind k rounds. -/
def half (vs : List Value) (z : Value) (n k : Nat) : List Value := vs.take k ++ List.replicate (n - k) z

theorem half_zero (vs : List Value) (z : Value) (n : Nat) : half vs z n 0 = List.replicate n z := by simp [half]
theorem half_all (vs : List Value) (z : Value) (n : Nat) (h : vs.length = n) : half vs z n n = vs := by simp [half, List.take_of_length_le (Nat.le_of_eq h)]
theorem half_set (vs : List Value) (z : Value) (n k : Nat) (v : Value) (h : vs.length = n) (hk : k < n) (hv : vs[k]? = some v) : (half vs z n k).set k v = half vs z n (k + 1) := by
  obtain ⟨m, hm⟩ : ∃ m, n - k = m + 1 := ⟨n - k - 1, by omega⟩
  have hl : (vs.take k).length = k := by rw [List.length_take]; omega
  have hm' : n - (k + 1) = m := by omega
  unfold half
  rw [hm, hm', List.set_append_right _ _ (by omega), hl, Nat.sub_self, List.replicate_succ, List.set_cons_zero]
  obtain ⟨h1, rfl⟩ := List.getElem?_eq_some_iff.1 hv
  rw [List.take_succ_eq_append_getElem h1, List.append_assoc]
  rfl
theorem strs_at (ss : List ByteArray) (k n : Nat) (h : ss.length = n) (hk : k < n) : (ss.map Value.string)[k]? = some (.string (ss.getD k ByteArray.empty)) := by
  simp [show k < ss.length by omega]

/-- 'zzB1CloneStrings': a row of its own with the same strings. -/
theorem clone_any (ao : Option Addr) (b off n cap : Nat) (ss : List ByteArray) (w : World) (hn : n ≤ 65536) (hl : ss.length = n) (hbw : 0 < n → b < w.heap.size)
    (hnil : ao = none → n = 0) (hao : AtHead ao b off n) (hc : StrCells w b off n ss) :
    Calls Try.prog 9 #[.slice ao n cap] w fun e w' => ∃ v, e = .returned v ∧ w'.ownsRow w.heap.size 9 1 v n (ss.map Value.string) ∧ Below w.heap.size w w' := by
  have q22 : ∀ (w : World) (a : Option Addr) (n c n' c' : Nat), (binOp .eql 22 (.slice a n c) (.slice none n' c')).run Try.prog w = .ok (.bool a.isNone) w := fun w a n c n' c' => Lib.run_eql_slice_nil w _ _ a n c n' c' Try.underlying22
  rcases ao with _ | a
  · obtain rfl := hnil rfl
    obtain rfl : ss = [] := List.eq_nil_of_length_eq_zero hl
    go_enter Try.func9, Try.ntmps9
    go_wp2
    go_ret
    exact ⟨_, rfl, World.ownsRow_nil _ _ _ _, Below.refl _ _⟩
  · obtain ⟨i0, hi, hz0, hz1, hz2⟩ := info_parts Try.info9
    go_enter Try.func9, Try.ntmps9
    go_wp2_with (at_make; refine wpList_make_full _ rfl _ _ 22 rfl w.heap.size 9 i0 (.string ⟨#[]⟩) 1 Try.underlying22 hi hz0 hz1 _ _ _ _ n rfl rfl rfl rfl (by rw [hz2]; omega) (by unfold maxLen; omega) (Nat.le_refl _) ?_)
    intro w1 hown hgr
    rw [show (madeCells #[Value.string ⟨#[]⟩] n).toList = half (ss.map Value.string) (.string ⟨#[]⟩) n 0 from by rw [half_zero]; exact toList_madeCells_one _ _] at hown
    have hbel : Below w.heap.size w w1 := (Below.refl _ _).grown hgr (Nat.le_refl _) (by simp)
    clear hgr hi hz0 hz1 hz2
    go_wp2
    go_loopw [4] (fun i wr => ∃ k : Nat, k ≤ n ∧ i = .int .i64 k ∧ wr.ownsRow w.heap.size 9 1 (.slice (some ⟨w.heap.size, 0, none⟩) n n) n (half (ss.map Value.string) (.string ⟨#[]⟩) n k) ∧ Below w.heap.size w wr) (fun i _ => n - (intOf i).toNat)
    case atStart => exact ⟨0, Nat.zero_le _, rfl, hown, hbel⟩
    case round =>
      clear hown hbel
      obtain ⟨k, hk, rfl, hown, hbel⟩ := hrel
      by_cases hlt : k < n
      · have hao' := Option.some.inj (hao (by omega))
        subst hao'
        have hck : wr.cell? ⟨b, off + k, none⟩ = some (.string (ss.getD k ByteArray.empty)) := (hbel.cell (p := ⟨b, off + k, none⟩) (hbw (by omega))).trans (hc k hlt)
        have hfz := hown.frozenAt k
        have hst := (hown.stored k (.string (ss.getD k ByteArray.empty))).1
        have hb2 := hbel.setCell (p := ⟨w.heap.size, k, none⟩) (Nat.le_refl _) (.string (ss.getD k ByteArray.empty))
        rw [half_set _ _ n k _ (by simpa using hl) hlt (strs_at ss k n hl hlt)] at hst
        have hol : ∃ u, wr.cell? ⟨w.heap.size, k, none⟩ = some u := ⟨(half (ss.map Value.string) (.string ⟨#[]⟩) n k)[k]'(by rw [hown.1]; omega), by rw [hown.cellAt k (by omega)]; simp⟩
        obtain ⟨u, hu⟩ := hol
        clear hown hbel
        generalize ss.getD k ByteArray.empty = s at *
        have Hst : Hid _ := hst
        clear hst
        go_wp2
        go_roundw
        case rel => exact ⟨k + 1, by omega, by go_num, Hst.out, hb2⟩
        case measure => simp [intOf]; omega
      · obtain rfl : k = n := by omega
        rw [half_all _ _ k (by simpa using hl)] at hown
        go_wp2
        go_ret
        exact ⟨_, rfl, hown, hbel⟩
end Go.Proofs.Qxb6604442a
