import Derived.Test.Qxb6600278aDoorPlain
import GoSem.Op.String
namespace Go.Proofs.Qxb6600278aDoor

/-- equal lengths, digits alone: the order of the texts is the order of the numbers -/
theorem less_dig (a : List UInt8) : ∀ b : List UInt8, a.length = b.length → (∀ c ∈ a, isDig c) → (∀ c ∈ b, isDig c) →
    (Op.bytesLess a b = true → dval 0 a < dval 0 b) ∧ (Op.bytesLess a b = false → dval 0 b ≤ dval 0 a) := by
  induction a with
  | nil =>
    intro b hl _ _
    have : b = [] := List.length_eq_zero_iff.1 hl.symm
    subst this
    exact ⟨fun h => by simp [Op.bytesLess] at h, fun _ => Nat.le_refl _⟩
  | cons x a ih =>
    intro b hl ha hb
    match b, hl with
    | y :: b, hl =>
      have hl' : a.length = b.length := by simpa using hl
      have ha' := fun c hc => ha c (List.mem_cons_of_mem _ hc)
      have hb' := fun c hc => hb c (List.mem_cons_of_mem _ hc)
      obtain ⟨i1, i2⟩ := ih b hl' ha' hb'
      have hx := ha x (List.mem_cons_self ..)
      have hy := hb y (List.mem_cons_self ..)
      unfold isDig at hx hy
      have la := dval_lt a ha'
      have lb := dval_lt b hb'
      rw [dval_cons, dval_cons, dval_split a, dval_split b]
      rw [← hl'] at lb ⊢
      generalize 10 ^ a.length = p at la lb ⊢
      simp only [Op.bytesLess]
      by_cases hlt : x.toNat < y.toNat
      · have h1 : x < y := UInt8.lt_iff_toNat_lt.2 hlt
        simp only [h1, decide_true, Bool.true_or, true_implies, Bool.true_eq_false, false_implies, and_true]
        have : (0 * 10 + (x.toNat - 48) + 1) * p ≤ (0 * 10 + (y.toNat - 48)) * p := Nat.mul_le_mul_right _ (by omega)
        rw [Nat.add_mul, Nat.one_mul] at this
        omega
      · have h1 : ¬ x < y := fun h => hlt (UInt8.lt_iff_toNat_lt.1 h)
        by_cases he : x = y
        · subst he
          simp only [h1, decide_false, Bool.false_or, beq_self_eq_true, Bool.true_and]
          exact ⟨fun h => by have := i1 h; omega, fun h => by have := i2 h; omega⟩
        · have hne : x.toNat ≠ y.toNat := fun h => he (UInt8.toNat_inj.1 h)
          have hb0 : (x == y) = false := by simpa using he
          simp only [h1, decide_false, Bool.false_or, hb0, Bool.false_and, Bool.false_eq_true, false_implies, true_implies, true_and]
          have : (0 * 10 + (y.toNat - 48) + 1) * p ≤ (0 * 10 + (x.toNat - 48)) * p := Nat.mul_le_mul_right _ (by omega)
          rw [Nat.add_mul, Nat.one_mul] at this
          omega

/-- equal lengths, digits alone, one number: one text -/
theorem eq_of_dval (a : List UInt8) : ∀ b : List UInt8, a.length = b.length → (∀ c ∈ a, isDig c) → (∀ c ∈ b, isDig c) → dval 0 a = dval 0 b → a = b := by
  induction a with
  | nil => intro b hl _ _ _; exact (List.length_eq_zero_iff.1 hl.symm).symm
  | cons x a ih =>
    intro b hl ha hb he
    match b, hl with
    | y :: b, hl =>
      have hl' : a.length = b.length := by simpa using hl
      have ha' := fun c hc => ha c (List.mem_cons_of_mem _ hc)
      have hb' := fun c hc => hb c (List.mem_cons_of_mem _ hc)
      have hx := ha x (List.mem_cons_self ..)
      have hy := hb y (List.mem_cons_self ..)
      unfold isDig at hx hy
      have la := dval_lt a ha'
      have lb := dval_lt b hb'
      rw [dval_cons, dval_cons, dval_split a, dval_split b] at he
      rw [← hl'] at lb he
      have hxy : x.toNat = y.toNat := by
        generalize 10 ^ a.length = p at la lb he
        rcases Nat.lt_trichotomy x.toNat y.toNat with h | h | h
        · have : (0 * 10 + (x.toNat - 48) + 1) * p ≤ (0 * 10 + (y.toNat - 48)) * p := Nat.mul_le_mul_right _ (by omega)
          rw [Nat.add_mul, Nat.one_mul] at this
          omega
        · exact h
        · have : (0 * 10 + (y.toNat - 48) + 1) * p ≤ (0 * 10 + (x.toNat - 48)) * p := Nat.mul_le_mul_right _ (by omega)
          rw [Nat.add_mul, Nat.one_mul] at this
          omega
      have hxy' := UInt8.toNat_inj.1 hxy
      subst hxy'
      rw [ih b hl' ha' hb' (by omega)]

def maxL : List UInt8 := [57, 50, 50, 51, 51, 55, 50, 48, 51, 54, 56, 53, 52, 55, 55, 53, 56, 48, 55]
theorem maxL_val : dval 0 maxL = 9223372036854775807 := by decide +kernel
theorem maxL_dig : ∀ c ∈ maxL, isDig c := by
  have h : (maxL.all fun c => decide (48 ≤ c.toNat) && decide (c.toNat ≤ 57)) = true := by decide +kernel
  intro c hc
  have := List.all_eq_true.1 h c hc
  simp at this
  exact this

/-- what the model's test comes to -/
theorem big_of_len (t : List UInt8) (hd : ∀ c ∈ t, isDig c) (hh : ∀ c r, t = c :: r → c.toNat ≠ 48) (hl : 19 < t.length) : 9223372036854775807 < dval 0 t := by
  match t, hl with
  | c :: r, hl =>
    have h1 := hd c (List.mem_cons_self ..)
    have h2 := hh c r rfl
    unfold isDig at h1
    rw [dval_cons, dval_split r]
    have h3 : 10 ^ 19 ≤ 10 ^ r.length := Nat.pow_le_pow_right (by omega) (by simp at hl; omega)
    have h4 : 1 * 10 ^ r.length ≤ (0 * 10 + (c.toNat - 48)) * 10 ^ r.length := Nat.mul_le_mul_right _ (by omega)
    have h5 : (10 : Nat) ^ 19 = 10000000000000000000 := by decide
    omega

theorem small_of_len (t : List UInt8) (hd : ∀ c ∈ t, isDig c) (hl : t.length < 19) : dval 0 t ≤ 9223372036854775807 := by
  have h1 := dval_lt t hd
  have h2 : 10 ^ t.length ≤ 10 ^ 18 := Nat.pow_le_pow_right (by omega) (by omega)
  have h3 : (10 : Nat) ^ 18 = 1000000000000000000 := by decide
  omega

theorem cmp_of_len (t : List UInt8) (hd : ∀ c ∈ t, isDig c) (hl : t.length = 19) :
    (Op.bytesLess t maxL = false → t ≠ maxL → 9223372036854775807 < dval 0 t) ∧ (Op.bytesLess t maxL = true ∨ t = maxL → dval 0 t ≤ 9223372036854775807) := by
  obtain ⟨h1, h2⟩ := less_dig t maxL (by rw [hl]; rfl) hd maxL_dig
  rw [maxL_val] at h1 h2
  refine ⟨fun hb hne => ?_, fun h => ?_⟩
  · have hge := h2 hb
    rcases Nat.lt_or_ge 9223372036854775807 (dval 0 t) with h | h
    · exact h
    · exfalso
      exact hne (eq_of_dval t maxL (by rw [hl]; rfl) hd maxL_dig (by rw [maxL_val]; omega))
  · rcases h with h | h
    · have := h1 h; omega
    · rw [h, maxL_val]; exact Nat.le_refl _
end Go.Proofs.Qxb6600278aDoor
