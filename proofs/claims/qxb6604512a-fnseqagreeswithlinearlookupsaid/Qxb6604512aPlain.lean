import Derived.Test.Qxb6604512aCompN
namespace Go.Proofs.Qxb6604512a

theorem be_inj (k n m : Nat) (hn : n < 256 ^ k) (hm : m < 256 ^ k) (h : Lib.beBytes k n = Lib.beBytes k m) : n = m := by
  unfold Lib.beBytes at h
  have h' : Lib.leBytes k n = Lib.leBytes k m := by simpa using congrArg List.reverse h
  rw [← Lib.leNat_leBytes k n hn, ← Lib.leNat_leBytes k m hm, h']

theorem be_tail (k n m : Nat) (x y : List UInt8) (hn : n < 256 ^ k) (hm : m < 256 ^ k) (h : Lib.beBytes k n ++ x = Lib.beBytes k m ++ y) : n = m ∧ x = y := by
  have := List.append_inj h (by rw [be_len, be_len])
  exact ⟨be_inj k n m hn hm this.1, this.2⟩

/-- The first byte of a number tells its form. -/
theorem encVar_cases (n : Nat) (hn : n < 18446744073709551616) :
    (n < 253 ∧ encVar n = [n.toUInt8]) ∨ (253 ≤ n ∧ n < 256 ^ 2 ∧ encVar n = 253 :: Lib.beBytes 2 n) ∨ (256 ^ 2 ≤ n ∧ n < 256 ^ 4 ∧ encVar n = 254 :: Lib.beBytes 4 n) ∨ (256 ^ 4 ≤ n ∧ n < 256 ^ 8 ∧ encVar n = 255 :: Lib.beBytes 8 n) := by
  by_cases h1 : n < 253
  · exact .inl ⟨h1, by unfold encVar; rw [if_pos h1]⟩
  · by_cases h2 : n ≤ 65535
    · exact .inr (.inl ⟨by omega, by omega, by unfold encVar; rw [if_neg h1, if_pos h2]⟩)
    · by_cases h3 : n ≤ 4294967295
      · exact .inr (.inr (.inl ⟨by omega, by omega, by unfold encVar; rw [if_neg h1, if_neg h2, if_pos h3]⟩))
      · exact .inr (.inr (.inr ⟨by omega, by omega, by unfold encVar; rw [if_neg h1, if_neg h2, if_neg h3]⟩))

theorem small_byte (n : Nat) (h : n < 253) : (n.toUInt8).toNat = n := by simp [Nat.toUInt8]; omega

theorem encVar_inj (n m : Nat) (hn : n < 18446744073709551616) (hm : m < 18446744073709551616) (x y : List UInt8) (h : encVar n ++ x = encVar m ++ y) : n = m ∧ x = y := by
  rcases encVar_cases n hn with ⟨n1, en⟩ | ⟨n1, n2, en⟩ | ⟨n1, n2, en⟩ | ⟨n1, n2, en⟩ <;>
  rcases encVar_cases m hm with ⟨m1, em⟩ | ⟨m1, m2, em⟩ | ⟨m1, m2, em⟩ | ⟨m1, m2, em⟩ <;>
  rw [en, em] at h <;> simp only [List.cons_append, List.nil_append, List.cons.injEq] at h
  · have := congrArg UInt8.toNat h.1
    rw [small_byte n n1, small_byte m m1] at this
    exact ⟨this, h.2⟩
  · have := congrArg UInt8.toNat h.1; rw [small_byte n n1] at this; simp at this; omega
  · have := congrArg UInt8.toNat h.1; rw [small_byte n n1] at this; simp at this; omega
  · have := congrArg UInt8.toNat h.1; rw [small_byte n n1] at this; simp at this; omega
  · have := congrArg UInt8.toNat h.1; rw [small_byte m m1] at this; simp at this; omega
  · exact be_tail 2 n m x y n2 m2 h.2
  · exact absurd h.1 (by decide)
  · exact absurd h.1 (by decide)
  · have := congrArg UInt8.toNat h.1; rw [small_byte m m1] at this; simp at this; omega
  · exact absurd h.1 (by decide)
  · exact be_tail 4 n m x y n2 m2 h.2
  · exact absurd h.1 (by decide)
  · have := congrArg UInt8.toNat h.1; rw [small_byte m m1] at this; simp at this; omega
  · exact absurd h.1 (by decide)
  · exact absurd h.1 (by decide)
  · exact be_tail 8 n m x y n2 m2 h.2

theorem encElem_inj (t u : Nat) (ht : t < 18446744073709551616) (hu : u < 18446744073709551616) (a b : List UInt8) (ha : a.length < 18446744073709551616) (hb : b.length < 18446744073709551616) (x y : List UInt8)
    (h : encElem t a ++ x = encElem u b ++ y) : t = u ∧ a = b ∧ x = y := by
  unfold encElem at h
  rw [List.append_assoc, List.append_assoc, List.append_assoc, List.append_assoc] at h
  obtain ⟨h1, h2⟩ := encVar_inj t u ht hu _ _ h
  obtain ⟨h3, h4⟩ := encVar_inj _ _ ha hb _ _ h2
  have := List.append_inj h4 h3
  exact ⟨h1, this.1, this.2⟩

/-- Names within the bounds. -/
def Fits (cs : List Cm) : Prop := ∀ c ∈ cs, c.ty < 18446744073709551616 ∧ c.bs.length < 18446744073709551616

theorem encComps_inj (cs ds : List Cm) (hc : Fits cs) (hd : Fits ds) (h : encComps cs = encComps ds) : Same cs ds := by
  induction cs generalizing ds with
  | nil =>
    cases ds with
    | nil => rfl
    | cons d ds =>
      exfalso
      unfold encComps at h
      rw [List.flatMap_cons] at h
      have := encElem_pos d.ty d.bs
      have h2 := congrArg List.length h
      rw [List.length_append] at h2
      simp at h2
      omega
  | cons c cs ih =>
    cases ds with
    | nil =>
      exfalso
      unfold encComps at h
      rw [List.flatMap_cons] at h
      have := encElem_pos c.ty c.bs
      have h2 := congrArg List.length h
      rw [List.length_append, List.flatMap_nil, List.length_nil] at h2
      omega
    | cons d ds =>
      unfold encComps at h
      rw [List.flatMap_cons, List.flatMap_cons] at h
      have c0 := hc c (List.mem_cons_self ..)
      have d0 := hd d (List.mem_cons_self ..)
      obtain ⟨h1, h2, h3⟩ := encElem_inj _ _ c0.1 d0.1 _ _ c0.2 d0.2 _ _ h
      have := ih ds (fun e he => hc e (List.mem_cons_of_mem _ he)) (fun e he => hd e (List.mem_cons_of_mem _ he)) h3
      unfold Same at *
      rw [List.map_cons, List.map_cons, this, h1, h2]

theorem encName_inj (cs ds : List Cm) (hc : Fits cs) (hd : Fits ds) (h1 : (encComps cs).length < 18446744073709551616) (h2 : (encComps ds).length < 18446744073709551616) : encName cs = encName ds ↔ Same cs ds := by
  constructor
  · intro h
    unfold encName at h
    have := encElem_inj 7 7 (by omega) (by omega) _ _ h1 h2 [] [] (by rw [List.append_nil, List.append_nil]; exact h)
    exact encComps_inj cs ds hc hd this.2.1
  · intro h
    unfold encName
    rw [h.enc]

theorem cmpB_zero (l m : List UInt8) (h : l.length = m.length) : cmpB l m = 0 ↔ l = m := by
  induction l generalizing m with
  | nil =>
    cases m with
    | nil => simp [cmpB]
    | cons _ _ => simp at h
  | cons a l ih =>
    cases m with
    | nil => simp at h
    | cons b m =>
      rw [cmpB]
      by_cases hab : a = b
      · rw [if_pos hab, ih m (by simpa using h)]
        simp [hab]
      · rw [if_neg hab]
        by_cases hl : a < b
        · rw [if_pos hl]; simp [hab]
        · rw [if_neg hl]; simp [hab]

theorem cmpC_zero (c d : Cm) : cmpC c d = 0 ↔ c.ty = d.ty ∧ c.bs = d.bs := by
  unfold cmpC
  by_cases h1 : c.ty = d.ty
  · rw [if_neg (by simpa using h1)]
    by_cases h2 : c.bs.length = d.bs.length
    · rw [if_neg (by simpa using h2), cmpB_zero _ _ h2]
      simp [h1]
    · rw [if_pos h2]
      have : c.bs ≠ d.bs := fun e => h2 (by rw [e])
      by_cases h3 : c.bs.length < d.bs.length
      · rw [if_pos h3]; simp [this]
      · rw [if_neg h3]; simp [this]
  · rw [if_pos h1]
    by_cases h3 : c.ty < d.ty
    · rw [if_pos h3]; simp [h1]
    · rw [if_neg h3]; simp [h1]

theorem cmpN_zero (cs ds : List Cm) : cmpN cs ds = 0 ↔ Same cs ds := by
  induction cs generalizing ds with
  | nil =>
    cases ds with
    | nil => simp [cmpN, Same]
    | cons d ds => simp [cmpN, Same]
  | cons c cs ih =>
    cases ds with
    | nil => simp [cmpN, Same]
    | cons d ds =>
      rw [cmpN]
      by_cases h : cmpC c d = 0
      · rw [if_pos h, ih ds]
        have := (cmpC_zero c d).1 h
        simp [Same, this.1, this.2]
      · rw [if_neg h]
        have hn := fun e => h ((cmpC_zero c d).2 e)
        constructor
        · intro e; exact absurd e h
        · intro e
          exfalso
          unfold Same at e
          rw [List.map_cons, List.map_cons, List.cons.injEq] at e
          exact hn (by simpa using e.1)

theorem elem_len (t : Nat) (bs : List UInt8) : (encElem t bs).length ≤ 18 + bs.length := by
  unfold encElem
  rw [List.length_append, List.length_append]
  have := encVar_le t
  have := encVar_le bs.length
  omega

/-- The wire form is no longer than what the budget lets. -/
theorem enc_bound (cs : List Cm) : (encComps cs).length ≤ 18 * cs.length + vals cs := by
  induction cs with
  | nil => simp [encComps, vals]
  | cons c cs ih =>
    unfold encComps at *
    rw [List.flatMap_cons, List.length_append, vals, List.length_cons]
    have := elem_len c.ty c.bs
    omega

theorem vals_mem (cs : List Cm) (c : Cm) (h : c ∈ cs) : c.bs.length ≤ vals cs := by
  induction cs with
  | nil => simp at h
  | cons d cs ih =>
    rw [vals]
    rcases List.mem_cons.1 h with rfl | h
    · omega
    · have := ih h; omega
end Go.Proofs.Qxb6604512a
