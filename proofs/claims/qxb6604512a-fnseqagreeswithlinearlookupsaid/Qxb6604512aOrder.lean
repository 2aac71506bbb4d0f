import Derived.Test.Qxb6604512aEnts
namespace Go.Proofs.Qxb6604512a

theorem cmpB_trans : ∀ (l m n : List UInt8), l.length = m.length → m.length = n.length → cmpB l m < 0 → cmpB m n ≤ 0 → cmpB l n < 0
  | [], _, _, _, _, h, _ => by simp [cmpB] at h
  | _ :: _, [], _, _, _, h, _ => by simp [cmpB] at h
  | _ :: _, _ :: _, [], _, h2, _, _ => by simp at h2
  | a :: l, b :: m, c :: n, h1, h2, h3, h4 => by
    have ih := cmpB_trans l m n (by simpa using h1) (by simpa using h2)
    unfold cmpB at h3 h4 ⊢
    by_cases e1 : a = b
    · subst e1
      rw [if_pos rfl] at h3
      by_cases e2 : a = c
      · subst e2
        rw [if_pos rfl] at h4 ⊢
        exact ih h3 h4
      · rw [if_neg e2] at h4 ⊢
        by_cases e3 : a < c
        · rw [if_pos e3]; decide
        · rw [if_neg e3] at h4; exact absurd h4 (by decide)
    · rw [if_neg e1] at h3
      by_cases e3 : a < b
      · by_cases e2 : b = c
        · subst e2
          rw [if_neg e1, if_pos e3]; decide
        · rw [if_neg e2] at h4
          by_cases e4 : b < c
          · have e5 : a < c := UInt8.lt_trans e3 e4
            rw [if_neg (by rintro rfl; exact UInt8.lt_irrefl _ e5), if_pos e5]; decide
          · rw [if_neg e4] at h4; exact absurd h4 (by decide)
      · rw [if_neg e3] at h3; exact absurd h3 (by decide)

theorem cmpC_lt (a b : Cm) : cmpC a b < 0 ↔ a.ty < b.ty ∨ (a.ty = b.ty ∧ (a.bs.length < b.bs.length ∨ (a.bs.length = b.bs.length ∧ cmpB a.bs b.bs < 0))) := by
  unfold cmpC
  by_cases h1 : a.ty = b.ty
  · rw [if_neg (by simpa using h1)]
    by_cases h2 : a.bs.length = b.bs.length
    · rw [if_neg (by simpa using h2)]; omega
    · rw [if_pos h2]
      by_cases h3 : a.bs.length < b.bs.length
      · rw [if_pos h3]; omega
      · rw [if_neg h3]; omega
  · rw [if_pos h1]
    by_cases h3 : a.ty < b.ty
    · rw [if_pos h3]; omega
    · rw [if_neg h3]; omega

theorem cmpC_le (a b : Cm) : cmpC a b ≤ 0 ↔ a.ty < b.ty ∨ (a.ty = b.ty ∧ (a.bs.length < b.bs.length ∨ (a.bs.length = b.bs.length ∧ cmpB a.bs b.bs ≤ 0))) := by
  unfold cmpC
  by_cases h1 : a.ty = b.ty
  · rw [if_neg (by simpa using h1)]
    by_cases h2 : a.bs.length = b.bs.length
    · rw [if_neg (by simpa using h2)]; omega
    · rw [if_pos h2]
      by_cases h3 : a.bs.length < b.bs.length
      · rw [if_pos h3]; omega
      · rw [if_neg h3]; omega
  · rw [if_pos h1]
    by_cases h3 : a.ty < b.ty
    · rw [if_pos h3]; omega
    · rw [if_neg h3]; omega

theorem cmpC_trans (a b c : Cm) (h1 : cmpC a b < 0) (h2 : cmpC b c ≤ 0) : cmpC a c < 0 := by
  rw [cmpC_lt] at h1 ⊢
  rw [cmpC_le] at h2
  rcases h1 with h1 | ⟨h1, h1' | ⟨h1', h1''⟩⟩
  · omega
  · omega
  · rcases h2 with h2 | ⟨h2, h2' | ⟨h2', h2''⟩⟩
    · omega
    · omega
    · exact .inr ⟨by omega, .inr ⟨by omega, cmpB_trans _ _ _ h1' h2' h1'' h2''⟩⟩

theorem cmpC_congr {a a' b b' : Cm} (h1 : a.ty = a'.ty) (h2 : a.bs = a'.bs) (h3 : b.ty = b'.ty) (h4 : b.bs = b'.bs) : cmpC a b = cmpC a' b' := by
  unfold cmpC
  rw [h1, h2, h3, h4]

theorem cmpN_trans : ∀ (x y z : List Cm), cmpN x y < 0 → cmpN y z ≤ 0 → cmpN x z < 0
  | [], [], _, h, _ => by simp [cmpN] at h
  | [], _ :: _, [], _, h => by simp [cmpN] at h
  | [], _ :: _, _ :: _, _, _ => by simp [cmpN]
  | _ :: _, [], _, h, _ => by simp [cmpN] at h
  | _ :: _, _ :: _, [], _, h => by simp [cmpN] at h
  | a :: x, b :: y, c :: z, h1, h2 => by
    have ih := cmpN_trans x y z
    unfold cmpN at h1 h2 ⊢
    by_cases e1 : cmpC a b = 0
    · rw [if_pos e1] at h1
      obtain ⟨p1, p2⟩ := (cmpC_zero a b).1 e1
      have e : cmpC a c = cmpC b c := cmpC_congr p1 p2 rfl rfl
      rw [e]
      by_cases e2 : cmpC b c = 0
      · rw [if_pos e2] at h2 ⊢
        exact ih h1 h2
      · rw [if_neg e2] at h2 ⊢
        omega
    · rw [if_neg e1] at h1
      have h2' : cmpC b c ≤ 0 := by
        by_cases e2 : cmpC b c = 0
        · omega
        · rw [if_neg e2] at h2; exact h2
      have h3 := cmpC_trans a b c h1 h2'
      rw [if_neg (by omega)]
      exact h3

theorem Same.cmpN : ∀ {x x' : List Cm} (z : List Cm), Same x x' → Qxb6604512a.cmpN x z = Qxb6604512a.cmpN x' z
  | [], [], _, _ => rfl
  | [], _ :: _, _, h => by simp [Same] at h
  | _ :: _, [], _, h => by simp [Same] at h
  | _ :: _, _ :: _, [], _ => rfl
  | a :: x, a' :: x', c :: z, h => by
    unfold Same at h
    rw [List.map_cons, List.map_cons, List.cons.injEq] at h
    have ih := Same.cmpN (x := x) (x' := x') z h.2
    have h1 : a.ty = a'.ty := congrArg Prod.fst h.1
    have h2 : a.bs = a'.bs := congrArg Prod.snd h.1
    unfold Qxb6604512a.cmpN
    rw [cmpC_congr h1 h2 rfl rfl, ih]

/-- The names strictly increase. -/
def WfN (es : List En) : Prop := ∀ (k : Nat) (a b : En), es[k]? = some a → es[k + 1]? = some b → cmpN a.cs b.cs < 0
/-- The bootstrap times strictly increase. -/
def WfP (ps : List (Nat × Nat)) : Prop := ∀ (k : Nat) (p q : Nat × Nat), ps[k]? = some p → ps[k + 1]? = some q → p.1 < q.1

theorem WfN.all {es : List En} (h : WfN es) : ∀ (d i : Nat) (a b : En), es[i]? = some a → es[i + d + 1]? = some b → cmpN a.cs b.cs < 0
  | 0, i, a, b, ha, hb => h i a b ha hb
  | d + 1, i, a, b, ha, hb => by
    obtain ⟨c, hc⟩ : ∃ c, es[i + d + 1]? = some c := ⟨es[i + d + 1]'(by have := (List.getElem?_eq_some_iff.1 hb).1; omega), List.getElem?_eq_getElem _⟩
    have h1 := WfN.all h d i a c ha hc
    have h2 := h (i + d + 1) c b hc hb
    exact cmpN_trans _ _ _ h1 (by omega)

theorem WfP.all {ps : List (Nat × Nat)} (h : WfP ps) : ∀ (d i : Nat) (a b : Nat × Nat), ps[i]? = some a → ps[i + d + 1]? = some b → a.1 < b.1
  | 0, i, a, b, ha, hb => h i a b ha hb
  | d + 1, i, a, b, ha, hb => by
    obtain ⟨c, hc⟩ : ∃ c, ps[i + d + 1]? = some c := ⟨ps[i + d + 1]'(by have := (List.getElem?_eq_some_iff.1 hb).1; omega), List.getElem?_eq_getElem _⟩
    have h1 := WfP.all h d i a c ha hc
    have h2 := h (i + d + 1) c b hc hb
    omega

theorem WfN.lt {es : List En} (h : WfN es) {i j : Nat} {a b : En} (hij : i < j) (ha : es[i]? = some a) (hb : es[j]? = some b) : cmpN a.cs b.cs < 0 :=
  h.all (j - i - 1) i a b ha (by rw [show i + (j - i - 1) + 1 = j by omega]; exact hb)
theorem WfP.lt {ps : List (Nat × Nat)} (h : WfP ps) {i j : Nat} {a b : Nat × Nat} (hij : i < j) (ha : ps[i]? = some a) (hb : ps[j]? = some b) : a.1 < b.1 :=
  h.all (j - i - 1) i a b ha (by rw [show i + (j - i - 1) + 1 = j by omega]; exact hb)

/-- The number held for a bootstrap time. -/
def HeldP (ps : List (Nat × Nat)) (bt r : Nat) : Prop := (∃ (j : Nat) (p : Nat × Nat), ps[j]? = some p ∧ p.1 = bt ∧ r = p.2) ∨ ((∀ (j : Nat) (p : Nat × Nat), ps[j]? = some p → p.1 ≠ bt) ∧ r = 0)
/-- The number held for a name and a bootstrap time. -/
def Held (es : List En) (cs : List Cm) (bt r : Nat) : Prop := (∃ (i : Nat) (e : En), es[i]? = some e ∧ cmpN e.cs cs = 0 ∧ HeldP e.ps bt r) ∨ ((∀ (i : Nat) (e : En), es[i]? = some e → cmpN e.cs cs ≠ 0) ∧ r = 0)

theorem HeldP.one {ps : List (Nat × Nat)} {bt r s : Nat} (h : WfP ps) (h1 : HeldP ps bt r) (h2 : HeldP ps bt s) : r = s := by
  rcases h1 with ⟨i, p, hi, hp, rfl⟩ | ⟨h1, rfl⟩
  · rcases h2 with ⟨j, q, hj, hq, rfl⟩ | ⟨h2, rfl⟩
    · rcases Nat.lt_trichotomy i j with hij | rfl | hij
      · have := h.lt hij hi hj; omega
      · rw [hi] at hj; rw [Option.some.inj hj]
      · have := h.lt hij hj hi; omega
    · exact absurd hp (h2 i p hi)
  · rcases h2 with ⟨j, q, hj, hq, rfl⟩ | ⟨h2, rfl⟩
    · exact absurd hq (h1 j q hj)
    · rfl

theorem Held.one {es : List En} {cs : List Cm} {bt r s : Nat} (h : WfN es) (hp : ∀ (k : Nat) (e : En), es[k]? = some e → WfP e.ps) (h1 : Held es cs bt r) (h2 : Held es cs bt s) : r = s := by
  rcases h1 with ⟨i, p, hi, hz, hr⟩ | ⟨h1, rfl⟩
  · rcases h2 with ⟨j, q, hj, hq, hs⟩ | ⟨h2, rfl⟩
    · rcases Nat.lt_trichotomy i j with hij | rfl | hij
      · have h3 := cmpN_trans _ _ cs (h.lt hij hi hj) (by omega); omega
      · rw [hi] at hj
        obtain rfl := Option.some.inj hj
        exact hr.one (hp i p hi) hs
      · have h3 := cmpN_trans _ _ cs (h.lt hij hj hi) (by omega); omega
    · exact absurd hz (h2 i p hi)
  · rcases h2 with ⟨j, q, hj, hq, hs⟩ | ⟨h2, rfl⟩
    · exact absurd hq (h1 j q hj)
    · rfl
end Go.Proofs.Qxb6604512a
