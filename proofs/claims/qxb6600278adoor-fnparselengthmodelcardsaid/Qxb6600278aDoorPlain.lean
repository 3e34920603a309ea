import Derived.Lib.ParseIntB
namespace Go.Proofs.Qxb6600278aDoor

/-- what a list of digits spells, behind acc -/
def dstep (a : Nat) (c : UInt8) : Nat := a * 10 + (c.toNat - 48)
def dval (acc : Nat) (l : List UInt8) : Nat := l.foldl dstep acc

def isDig (c : UInt8) : Prop := 48 ≤ c.toNat ∧ c.toNat ≤ 57

theorem dval_nil (acc : Nat) : dval acc [] = acc := by unfold dval; rw [List.foldl_nil]
theorem dval_cons (acc : Nat) (c : UInt8) (r : List UInt8) : dval acc (c :: r) = dval (acc * 10 + (c.toNat - 48)) r := by unfold dval; rw [List.foldl_cons, dstep]

theorem dval_ge (l : List UInt8) : ∀ (acc : Nat), acc ≤ dval acc l := by
  induction l with
  | nil => intro acc; rw [dval_nil]; exact Nat.le_refl _
  | cons c r ih =>
    intro acc
    rw [dval_cons]
    have := ih (acc * 10 + (c.toNat - 48))
    omega

theorem dval_append (l r : List UInt8) : ∀ (acc : Nat), dval acc (l ++ r) = dval (dval acc l) r := by
  induction l with
  | nil => intro acc; rw [dval_nil, List.nil_append]
  | cons c l ih => intro acc; rw [List.cons_append, dval_cons, dval_cons]; exact ih _

theorem dval_take_le (l : List UInt8) (k : Nat) : dval 0 (l.take k) ≤ dval 0 l := by
  conv => rhs; rw [← List.take_append_drop k l, dval_append]
  exact dval_ge _ _

/-- dval acc l = acc * 10^len + dval 0 l, and dval 0 l < 10^len on digits -/
theorem dval_split (l : List UInt8) : ∀ (acc : Nat), dval acc l = acc * 10 ^ l.length + dval 0 l := by
  induction l with
  | nil => intro acc; simp [dval_nil]
  | cons c r ih =>
    intro acc
    rw [dval_cons, dval_cons, ih (acc * 10 + (c.toNat - 48)), ih (0 * 10 + (c.toNat - 48)), List.length_cons, Nat.pow_succ]
    rw [Nat.add_mul, Nat.add_mul, Nat.mul_comm (10 ^ r.length) 10, ← Nat.mul_assoc]
    omega

theorem dval_lt (l : List UInt8) : (∀ c ∈ l, isDig c) → dval 0 l < 10 ^ l.length := by
  induction l with
  | nil => intro _; simp [dval_nil]
  | cons c r ih =>
    intro h
    have h1 := ih (fun x hx => h x (List.mem_cons_of_mem _ hx))
    have h2 := h c (List.mem_cons_self ..)
    unfold isDig at h2
    rw [dval_cons, List.length_cons, dval_split r, Nat.pow_succ]
    have h3 : (0 * 10 + (c.toNat - 48)) * 10 ^ r.length ≤ 9 * 10 ^ r.length := Nat.mul_le_mul_right _ (by omega)
    omega

theorem dval_zeros : ∀ (k : Nat) (l : List UInt8), (∀ j, j < k → l[j]? = some 48) → dval 0 l = dval 0 (l.drop k)
  | 0, _, _ => by simp
  | k + 1, [], h => by have := h 0 (by omega); simp at this
  | k + 1, c :: r, h => by
    have h0 := h 0 (by omega)
    simp at h0
    subst h0
    rw [dval_cons, List.drop_succ_cons]
    have := dval_zeros k r (fun j hj => by have := h (j + 1) (by omega); simpa using this)
    simpa using this

open Go.Lib in
theorem parseUintM_dig (l : List UInt8) : ∀ (acc : Nat), (∀ c ∈ l, isDig c) → acc < 2 ^ 64 →
    parseUintM (2 ^ 64 - 1) acc l = if dval acc l < 2 ^ 64 then .ok (dval acc l) else .range := by
  induction l with
  | nil => intro acc _ ha; rw [dval_nil, if_pos ha]; rfl
  | cons c r ih =>
    intro acc h ha
    have h2 := h c (List.mem_cons_self ..)
    unfold isDig at h2
    rw [dval_cons]
    have hge := dval_ge r (acc * 10 + (c.toNat - 48))
    rw [parseUintM, if_pos h2]
    by_cases h3 : 1844674407370955162 ≤ acc
    · rw [if_pos h3, if_neg (by omega)]
    · rw [if_neg h3]
      by_cases h4 : 2 ^ 64 - 1 < acc * 10 + (c.toNat - 48)
      · rw [if_pos h4, if_neg (by omega)]
      · rw [if_neg h4]
        exact ih _ (fun x hx => h x (List.mem_cons_of_mem _ hx)) (by omega)

open Go.Lib in
theorem parseIntB_dig (l : List UInt8) (hne : l ≠ []) (h : ∀ c ∈ l, isDig c) :
    parseIntB 64 l = if dval 0 l < 2 ^ 63 then .ok (dval 0 l : Int) else .range := by
  match l, hne with
  | c :: r, _ =>
    have h2 := h c (List.mem_cons_self ..)
    unfold isDig at h2
    simp only [parseIntB]
    rw [if_neg (show ¬ (c.toNat = 43 ∨ c.toNat = 45) by omega)]
    simp only [parseUintB]
    rw [if_neg (by simp), parseUintM_dig (c :: r) 0 h (by decide)]
    generalize dval 0 (c :: r) = d
    have hn : ¬ c.toNat = 45 := by omega
    by_cases h3 : d < 2 ^ 64
    · rw [if_pos h3]
      by_cases h4 : d < 2 ^ 63
      · rw [if_pos h4]
        simp only [hn, not_false_eq_true, true_and, false_and, if_false]
        rw [if_neg (by omega)]
      · rw [if_neg h4]
        simp only [hn, not_false_eq_true, true_and, false_and, if_false]
        rw [if_pos (by omega)]
    · rw [if_neg h3, if_neg (by omega)]

open Go.Lib in
theorem intSat_dig (l : List UInt8) (hne : l ≠ []) (h : ∀ c ∈ l, isDig c) : intSat 64 l = 9223372036854775807 := by
  match l, hne with
  | c :: r, _ =>
    have h2 := h c (List.mem_cons_self ..)
    unfold isDig at h2
    have hn : ¬ ((c :: r).head?.map (·.toNat) = some 45) := by simp; omega
    unfold intSat
    rw [if_neg hn]
    rfl
end Go.Proofs.Qxb6600278aDoor
