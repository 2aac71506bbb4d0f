import Derived.Test.Qxb6604512aEqual
import Derived.Lib.BytesEntry
namespace Go.Proofs.Qxb6604512a
open Go.RowKit

/-- cmp.Compare of two numbers. -/
def cmpI (a b : Int) : Int := if a < b then -1 else if b < a then 1 else 0

theorem nan24_any (a : Int) (w : World) : Calls Try.prog 63 #[.int .u64 a] w fun e w' => e = .returned (.bool false) ∧ w' = w := by
  have h : (a != a) = false := by simp
  go_enter Try.func63, Try.ntmps63
  go_wp2
  go_ret
  exact ⟨rfl, rfl⟩
theorem nan3_any (a : Int) (w : World) : Calls Try.prog 69 #[.int .i64 a] w fun e w' => e = .returned (.bool false) ∧ w' = w := by
  have h : (a != a) = false := by simp
  go_enter Try.func69, Try.ntmps69
  go_wp2
  go_ret
  exact ⟨rfl, rfl⟩
theorem nan84_any (a : Int) (w : World) : Calls Try.prog 70 #[.int .u64 a] w fun e w' => e = .returned (.bool false) ∧ w' = w := by
  have h : (a != a) = false := by simp
  go_enter Try.func70, Try.ntmps70
  go_wp2
  go_ret
  exact ⟨rfl, rfl⟩

theorem cmp24_any (a b : Int) (w : World) : Calls Try.prog 57 #[.int .u64 a, .int .u64 b] w fun e w' => e = .returned (.int .i64 (cmpI a b)) ∧ w' = w := by
  unfold cmpI
  by_cases h1 : a < b
  · rw [if_pos h1]
    go_enter Try.func57, Try.ntmps57
    go_wp2_with (go_at_call 63; refine (nan24_any _ _).mono ?_; rintro e w' ⟨rfl, rfl⟩)
    go_ret
    exact ⟨rfl, rfl⟩
  · rw [if_neg h1]
    by_cases h2 : b < a
    · rw [if_pos h2]
      go_enter Try.func57, Try.ntmps57
      go_wp2_with (go_at_call 63; refine (nan24_any _ _).mono ?_; rintro e w' ⟨rfl, rfl⟩)
      go_ret
      exact ⟨rfl, rfl⟩
    · rw [if_neg h2]
      go_enter Try.func57, Try.ntmps57
      go_wp2_with (go_at_call 63; refine (nan24_any _ _).mono ?_; rintro e w' ⟨rfl, rfl⟩)
      go_ret
      exact ⟨rfl, rfl⟩
theorem cmp3_any (a b : Int) (w : World) : Calls Try.prog 62 #[.int .i64 a, .int .i64 b] w fun e w' => e = .returned (.int .i64 (cmpI a b)) ∧ w' = w := by
  unfold cmpI
  by_cases h1 : a < b
  · rw [if_pos h1]
    go_enter Try.func62, Try.ntmps62
    go_wp2_with (go_at_call 69; refine (nan3_any _ _).mono ?_; rintro e w' ⟨rfl, rfl⟩)
    go_ret
    exact ⟨rfl, rfl⟩
  · rw [if_neg h1]
    by_cases h2 : b < a
    · rw [if_pos h2]
      go_enter Try.func62, Try.ntmps62
      go_wp2_with (go_at_call 69; refine (nan3_any _ _).mono ?_; rintro e w' ⟨rfl, rfl⟩)
      go_ret
      exact ⟨rfl, rfl⟩
    · rw [if_neg h2]
      go_enter Try.func62, Try.ntmps62
      go_wp2_with (go_at_call 69; refine (nan3_any _ _).mono ?_; rintro e w' ⟨rfl, rfl⟩)
      go_ret
      exact ⟨rfl, rfl⟩
theorem cmp84_any (a b : Int) (w : World) : Calls Try.prog 67 #[.int .u64 a, .int .u64 b] w fun e w' => e = .returned (.int .i64 (cmpI a b)) ∧ w' = w := by
  unfold cmpI
  by_cases h1 : a < b
  · rw [if_pos h1]
    go_enter Try.func67, Try.ntmps67
    go_wp2_with (go_at_call 70; refine (nan84_any _ _).mono ?_; rintro e w' ⟨rfl, rfl⟩)
    go_ret
    exact ⟨rfl, rfl⟩
  · rw [if_neg h1]
    by_cases h2 : b < a
    · rw [if_pos h2]
      go_enter Try.func67, Try.ntmps67
      go_wp2_with (go_at_call 70; refine (nan84_any _ _).mono ?_; rintro e w' ⟨rfl, rfl⟩)
      go_ret
      exact ⟨rfl, rfl⟩
    · rw [if_neg h2]
      go_enter Try.func67, Try.ntmps67
      go_wp2_with (go_at_call 70; refine (nan84_any _ _).mono ?_; rintro e w' ⟨rfl, rfl⟩)
      go_ret
      exact ⟨rfl, rfl⟩

/-- Bytes of a Src, as the model's reader reads them. -/
theorem run_src {w : World} {B cp : Nat} {ao : Option Addr} {bs : List UInt8} (h : Src w B (.slice ao bs.length cp) bs) :
    (Extern.Bytes.bytesOf (.slice ao bs.length cp)).run Try.prog w = .ok ⟨bs.toArray⟩ w := by
  rcases h with ⟨hv, rfl⟩ | ⟨a, c, hv, hc, hl⟩
  · simp at hv
    rw [hv.1]
    rfl
  · simp only [Value.slice.injEq, true_and] at hv
    obtain ⟨rfl, rfl⟩ := hv
    have hx := Lib.run_loadBytesX (P := Try.prog) w (bs.map fun b => (b.toNat : Int)) a .empty (fun j x hj => by
      refine hc j _ ?_
      rw [List.getElem?_map] at hj
      unfold Lib.byteCells
      rw [List.getElem?_map]
      cases h : bs[j]? with
      | none => rw [h] at hj; simp at hj
      | some b => rw [h] at hj; simp at hj; subst hj; rfl)
    rw [List.length_map] at hx
    change (Extern.Bytes.loadBytes a bs.length .empty).run Try.prog w = _
    rw [hx]
    congr 1
    apply ByteArray.ext
    show (#[] : Array UInt8) ++ (Lib.bytesOf _).toArray = bs.toArray
    have : Lib.bytesOf (bs.map fun b => (b.toNat : Int)) = bs := by
      unfold Lib.bytesOf
      rw [List.map_map]
      conv => rhs; rw [← List.map_id bs]
      apply List.map_congr_left
      intro b _
      simp
    rw [this]
    simp

theorem run_compareSrc {w : World} {B c1 c2 : Nat} {a1 a2 : Option Addr} {l m : List UInt8} (h1 : Src w B (.slice a1 l.length c1) l) (h2 : Src w B (.slice a2 m.length c2) m) :
    (Extern.BytealgCompare.compare #[.slice a1 l.length c1, .slice a2 m.length c2]).run Try.prog w = .ok (.int .i64 (Lib.compareBytes l m)) w := by
  change Sem.run Try.prog (do pure (goInt (Extern.BytealgCompare.cmp (← Extern.Bytes.bytesOf (.slice a1 l.length c1)) (← Extern.Bytes.bytesOf (.slice a2 m.length c2))))) w = _
  simp only [Sem.run_bind, run_src h1, run_src h2, Sem.run_pure, Result.andThen]
  rw [Lib.cmp_eq]
  rfl

theorem compareBytes_eq (l m : List UInt8) (h : l.length = m.length) : Lib.compareBytes l m = cmpB l m := by
  induction l generalizing m with
  | nil => cases m with
    | nil => rfl
    | cons _ _ => simp at h
  | cons a l ih => cases m with
    | nil => simp at h
    | cons b m =>
      have := ih m (by simpa using h)
      unfold Lib.compareBytes cmpB
      rw [this]
      by_cases hab : a = b
      · subst hab; simp [UInt8.lt_irrefl]
      · rw [if_neg hab]
        by_cases hlt : a < b
        · rw [if_pos hlt, if_pos hlt]
        · rw [if_neg hlt, if_neg hlt, if_pos (UInt8.lt_of_le_of_ne (UInt8.not_lt.1 hlt) (Ne.symm hab))]

theorem bcmp_any {B c1 c2 : Nat} {a1 a2 : Option Addr} {l m : List UInt8} (w : World) (h1 : Src w B (.slice a1 l.length c1) l) (h2 : Src w B (.slice a2 m.length c2) m) :
    Calls Try.prog 68 #[.slice a1 l.length c1, .slice a2 m.length c2] w fun e w' => e = .returned (.int .i64 (Lib.compareBytes l m)) ∧ w' = w := by
  have hr := Hid.mk (run_compareSrc h1 h2)
  clear h1 h2
  go_enter Try.func68, Try.ntmps68
  go_wp2
  rw [run_callFunc_extern Try.func71 (by kernel_rfl) (by kernel_rfl) (by kernel_rfl) (e := Extern.BytealgCompare.compare) (by kernel_rfl), hr.out]
  simp only [Result.andThen]
  rw [Oper.upon_value]
  go_wp2
  go_ret
  exact ⟨rfl, rfl⟩
end Go.Proofs.Qxb6604512a
