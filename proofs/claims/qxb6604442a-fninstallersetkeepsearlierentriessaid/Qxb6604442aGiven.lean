import Derived.Test.Qxb6604442aSet
namespace Go.Proofs.Qxb6604442a
open Go.RowKit

/-- The Installer of an entry: the Architecture, and nothing else. -/
def given (a : ByteArray) : Value := .agg #[.string a, zs, zs, zs, zs, zs, zs, zs, zs, zs, zs, .slice none 0 0, zs, zs, zs]
theorem given_any (Ba g n cap i : Nat) (s a : ByteArray) (w : World) (hBa : Ba < w.heap.size) (hg : g < w.heap.size) (hc : w.cell? ⟨Ba, 0, none⟩ = some (.slice (some ⟨g, 0, none⟩) n cap)) (hi : i < n)
    (hs : ∀ j u, (entry s a)[j]? = some u → w.cell? ⟨g, i * 16 + j, none⟩ = some u) :
   Calls Try.prog 15 #[.pointer (some ⟨Ba,0,none⟩), .int .i64 i] w fun e w' => e = .returned (given a) ∧ Below w.heap.size w w' := by
  have c1 := hs 1 _ rfl
  have c2 := hs 2 _ rfl
  have c3 := hs 3 _ rfl
  have c4 := hs 4 _ rfl
  have c5 := hs 5 _ rfl
  have c6 := hs 6 _ rfl
  have c7 := hs 7 _ rfl
  have c8 := hs 8 _ rfl
  have c9 := hs 9 _ rfl
  have c10 := hs 10 _ rfl
  have c11 := hs 11 _ rfl
  have c12 := hs 12 _ rfl
  have c13 := hs 13 _ rfl
  have c14 := hs 14 _ rfl
  have c15 := hs 15 _ rfl
  clear hs
  unfold zs at *
  go_enter Try.func15, Try.ntmps15
  go_wp2
  exact bodyPost_ret (v := .agg #[.string a, .string ⟨#[]⟩, .string ⟨#[]⟩, .string ⟨#[]⟩, .string ⟨#[]⟩, .string ⟨#[]⟩, .string ⟨#[]⟩, .string ⟨#[]⟩, .string ⟨#[]⟩, .string ⟨#[]⟩, .string ⟨#[]⟩, .slice none 0 0, .string ⟨#[]⟩, .string ⟨#[]⟩, .string ⟨#[]⟩]) (by simp [results, Try.results15, go_sem]) rfl ⟨rfl, (Below.refl _ _).alloc (Nat.le_refl _) _⟩

theorem zero_any (w : World) :
   Calls Try.prog 14 #[.agg zeros] w fun e w' => e = .returned (.bool true) ∧ Below w.heap.size w w' := by
  unfold zeros zs
  have q22 : ∀ (w : World) (a : Option Addr) (n c n' c' : Nat), (binOp .eql 22 (.slice a n c) (.slice none n' c')).run Try.prog w = .ok (.bool a.isNone) w := fun w a n c n' c' => Lib.run_eql_slice_nil w _ _ a n c n' c' Try.underlying22
  go_enter Try.func14, Try.ntmps14
  go_wp2
  go_ret
  exact ⟨rfl, (Below.refl _ _).alloc (Nat.le_refl _) _⟩
end Go.Proofs.Qxb6604442a
