import Derived.Test.Qxb6604512aRows
import Derived.Test.Qxb6604512aShelf
import Derived.WalkKit
import Derived.WalkSpells
import Derived.WalkLawsBesides
import Derived.Deep.QuietTactic
import Derived.BigQuiet
import Derived.Deep.RegionHeld3
import Derived.Deep.AppendLies
namespace Go.Proofs.Qxb6604512a
open Go.RowKit

theorem Hid.mk {p : Prop} (h : p) : Hid p := h

/-- An NDN variable-size number, in its shortest form. -/
def encVar (n : Nat) : List UInt8 :=
  if n < 253 then [n.toUInt8] else if n ≤ 65535 then 253 :: Lib.beBytes 2 n else if n ≤ 4294967295 then 254 :: Lib.beBytes 4 n else 255 :: Lib.beBytes 8 n

theorem Try.info5 : (Try.prog.info? 5).map (fun i => (i.zero, i.size, i.bytes)) = some (some (.int .u8 0), 1, 1) := by kernel_rfl

theorem one_byte (b : Int) : ∀ u ∈ [Value.int .u8 b], u.oneCell' = true := by intro u hu; simp at hu; subst hu; rfl

theorem be_len (k v : Nat) : (Lib.beBytes k v).length = k := by unfold Lib.beBytes; rw [List.length_reverse, Lib.leBytes_length]

theorem cells_cons (b : UInt8) (l : List UInt8) (xs : List Value) : xs ++ Lib.byteCells (b :: l) = xs ++ [Value.int .u8 b.toNat] ++ Lib.byteCells l := by simp [Lib.byteCells]

set_option maxRecDepth 100000 in
set_option maxHeartbeats 1000000 in
theorem var_any (B k x : Nat) (hx : x < 18446744073709551616) (v : Value) (xs : List Value) (w : World) (hown : w.ownsRow B 5 1 v k xs) (hBw : B ≤ w.heap.size) (hk : k ≤ 1099511627776) :
    Calls Try.prog 60 #[v, .int .u64 x] w fun e w' => ∃ v', e = .returned v' ∧ w'.ownsRow B 5 1 v' (k + (encVar x).length) (xs ++ Lib.byteCells (encVar x)) ∧ Below B w w' := by
  obtain ⟨i0, hi, hz0, hz1, hz2⟩ := info_parts Try.info5
  by_cases h1 : x < 253
  · have he : encVar x = [x.toUInt8] := by unfold encVar; rw [if_pos h1]
    have hb : ((x.toUInt8).toNat : Int) = (x : Int) := by simp [Nat.toUInt8]; omega
    rw [he]
    clear hx he
    go_enter Try.func60, Try.ntmps60
    go_wp2_with (at_builtin; refine wpList_append_own _ rfl _ _ 45 rfl B 5 i0 (.int .u8 0) 1 1 Try.underlying45 hi hz0 hz1 hz2 rfl (by decide) _ _ _ rfl (hown.alloc _) ⟨w.heap.size, 0, none⟩ 1 1 [.int .u8 x] rfl rfl (cell_one_new _ _ _) (one_byte _) (by unfold maxLen; omega) (by omega) (by simp; omega) ?_)
    intro v' w1 hown' hgrow _
    have hb1 : Below B w w1 := ((Below.refl B w).alloc hBw _).grown hgrow (by simp; omega) (fun j hj => (hown.lt j hj).1)
    clear hgrow hi hz0 hz1 hz2
    go_wp2
    go_ret
    exact ⟨v', rfl, by rw [show Lib.byteCells [x.toUInt8] = [.int .u8 (x : Int)] from by unfold Lib.byteCells; rw [List.map_cons, hb]; rfl]; exact hown', hb1⟩
  by_cases h2 : x ≤ 65535
  · have he : encVar x = 253 :: Lib.beBytes 2 x := by unfold encVar; rw [if_neg h1, if_pos h2]
    have h1' : (253 : Int) ≤ (x : Int) := by omega
    have h2' : (x : Int) ≤ 65535 := by omega
    have hwr : IntKind.u16.wrap (x : Int) = (x : Int) := by rw [IntKind.wrap_u16]; omega
    rw [he]
    clear hx he
    go_enter Try.func60, Try.ntmps60
    go_wp2_with fail
    go_region_held3 (fun w' => Below B w w')
      (first | assumption | exact Below.refl _ _ | exact (Below.refl _ _).drew | exact ((Below.refl _ _).alloc hBw _).drew)
      (first | (refine step_append_lies _ (by rfl) _ _ _ (by rfl) B 5 i0 _ 1 1 Try.underlying45 hi hz0 hz1 hz2 rfl (by omega) v k xs (by rfl) ((hown.alloc _).drew) ⟨w.heap.size, 0, none⟩ 1 1 [.int .u8 253] (by rfl) (by rfl) (cell_one_new _ _ _) (one_byte _) (by omega) (by unfold maxLen; omega) (by omega) (by simp; omega) (w.heap.size + 1) (by simp) ?_; intro g cap w1 hown1 hgrow hat hlt; have hb1 : Below B w w1 := (((Below.refl B w).alloc hBw _).drew).grown hgrow (by simp; omega) (fun j hj => (hown.lt j hj).1)) | (go_at_call 64; refine (Try.binary_BE_AppendUint16 B (k + 1) x (by omega) _ _ _ hown1 (Nat.le_trans hBw hb1.size) (by omega)).mono ?_; rintro e w2 ⟨v', rfl, hown2, hb2⟩; have hb3 := hb1.trans hb2))
    go_wp2
    go_ret
    exact ⟨v', rfl, by rw [cells_cons]; simpa [Nat.add_assoc, be_len] using hown2, hb3⟩
  by_cases h3 : x ≤ 4294967295
  · have he : encVar x = 254 :: Lib.beBytes 4 x := by unfold encVar; rw [if_neg h1, if_neg h2, if_pos h3]
    have h1' : (253 : Int) ≤ (x : Int) := by omega
    have h2' : (65535 : Int) < (x : Int) := by omega
    have h3' : (x : Int) ≤ 4294967295 := by omega
    have hwr : IntKind.u32.wrap (x : Int) = (x : Int) := by rw [IntKind.wrap_u32]; omega
    rw [he]
    clear hx he
    go_enter Try.func60, Try.ntmps60
    go_wp2_with fail
    go_region_held3 (fun w' => Below B w w')
      (first | assumption | exact Below.refl _ _ | exact (Below.refl _ _).drew | exact ((Below.refl _ _).alloc hBw _).drew)
      (first | (refine step_append_lies _ (by rfl) _ _ _ (by rfl) B 5 i0 _ 1 1 Try.underlying45 hi hz0 hz1 hz2 rfl (by omega) v k xs (by rfl) ((hown.alloc _).drew) ⟨w.heap.size, 0, none⟩ 1 1 [.int .u8 254] (by rfl) (by rfl) (cell_one_new _ _ _) (one_byte _) (by omega) (by unfold maxLen; omega) (by omega) (by simp; omega) (w.heap.size + 1) (by simp) ?_; intro g cap w1 hown1 hgrow hat hlt; have hb1 : Below B w w1 := (((Below.refl B w).alloc hBw _).drew).grown hgrow (by simp; omega) (fun j hj => (hown.lt j hj).1)) | (go_at_call 65; refine (Try.binary_BE_AppendUint32 B (k + 1) x (by omega) _ _ _ hown1 (Nat.le_trans hBw hb1.size) (by omega)).mono ?_; rintro e w2 ⟨v', rfl, hown2, hb2⟩; have hb3 := hb1.trans hb2))
    go_wp2
    go_ret
    exact ⟨v', rfl, by rw [cells_cons]; simpa [Nat.add_assoc, be_len] using hown2, hb3⟩
  · have he : encVar x = 255 :: Lib.beBytes 8 x := by unfold encVar; rw [if_neg h1, if_neg h2, if_neg h3]
    have h1' : (253 : Int) ≤ (x : Int) := by omega
    have h2' : (65535 : Int) < (x : Int) := by omega
    have h3' : (4294967295 : Int) < (x : Int) := by omega
    have Hx := Hid.mk hx
    rw [he]
    clear hx he
    go_enter Try.func60, Try.ntmps60
    go_wp2_with fail
    go_region_held3 (fun w' => Below B w w')
      (first | assumption | exact Below.refl _ _ | exact (Below.refl _ _).drew | exact ((Below.refl _ _).alloc hBw _).drew)
      (first | (refine step_append_lies _ (by rfl) _ _ _ (by rfl) B 5 i0 _ 1 1 Try.underlying45 hi hz0 hz1 hz2 rfl (by omega) v k xs (by rfl) ((hown.alloc _).drew) ⟨w.heap.size, 0, none⟩ 1 1 [.int .u8 255] (by rfl) (by rfl) (cell_one_new _ _ _) (one_byte _) (by omega) (by unfold maxLen; omega) (by omega) (by simp; omega) (w.heap.size + 1) (by simp) ?_; intro g cap w1 hown1 hgrow hat hlt; have hb1 : Below B w w1 := (((Below.refl B w).alloc hBw _).drew).grown hgrow (by simp; omega) (fun j hj => (hown.lt j hj).1)) | (go_at_call 66; refine (Try.binary_BE_AppendUint64 B (k + 1) x Hx.out _ _ _ hown1 (Nat.le_trans hBw hb1.size) (by omega)).mono ?_; rintro e w2 ⟨v', rfl, hown2, hb2⟩; have hb3 := hb1.trans hb2))
    go_wp2
    go_ret
    exact ⟨v', rfl, by rw [cells_cons]; simpa [Nat.add_assoc, be_len] using hown2, hb3⟩
end Go.Proofs.Qxb6604512a
