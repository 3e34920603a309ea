import Derived.Test.Qxb6600209aFmtPad
import Derived.Test.Qxb6600209aFmtReadPlain
namespace Go.Proofs.Qxb6600209aFmt
open Go.Lib
set_option linter.unusedVariables false

def dv (acc : Nat) (l : List UInt8) : Nat := l.foldl (fun a c => a * 10 + (c.toNat - 48)) acc
def dig (c : UInt8) : Prop := 48 ≤ c.toNat ∧ c.toNat ≤ 57

theorem dv_nil (acc : Nat) : dv acc [] = acc := rfl
theorem dv_cons (acc : Nat) (c : UInt8) (r : List UInt8) : dv acc (c :: r) = dv (acc * 10 + (c.toNat - 48)) r := by unfold dv; exact List.foldl_cons ..

theorem dv_acc (r : List UInt8) : ∀ acc, dv acc r = acc * 10 ^ r.length + dv 0 r := by
  induction r with
  | nil => intro acc; simp [dv_nil]
  | cons c r ih =>
    intro acc
    rw [dv_cons, dv_cons, ih, ih (0 * 10 + _), List.length_cons, Nat.pow_succ, Nat.add_mul]
    rw [Nat.mul_assoc, Nat.mul_comm 10, Nat.zero_mul, Nat.zero_add]
    omega

theorem dv_ge (r : List UInt8) (acc : Nat) : acc ≤ dv acc r := by
  rw [dv_acc]
  have : 1 ≤ 10 ^ r.length := Nat.one_le_pow _ _ (by decide)
  have := Nat.le_mul_of_pos_right acc this
  omega

theorem dv_zeros (z : Nat) (r : List UInt8) : dv 0 (List.replicate z 48 ++ r) = dv 0 r := by
  induction z with
  | zero => simp
  | succ z ih => rw [List.replicate_succ, List.cons_append, dv_cons]; exact ih

theorem pu_dv (m : List UInt8) : ∀ acc, (∀ c ∈ m, dig c) → dv acc m ≤ 18446744073709551615 → parseUint10 acc m = .ok (dv acc m) := by
  induction m with
  | nil => intro acc _ _; rfl
  | cons c r ih =>
    intro acc hd hv
    have hc := hd c (List.mem_cons_self ..)
    unfold dig at hc
    rw [dv_cons] at hv ⊢
    have := dv_ge r (acc * 10 + (c.toNat - 48))
    rw [pu_step acc c r hc.1 hc.2 (by omega)]
    exact ih _ (fun c hc => hd c (List.mem_cons_of_mem _ hc)) hv

/-- what the law's own writer leaves of a number u: its digits -/
def Digs (u : Nat) (D : List UInt8) : Prop := D ≠ [] ∧ D.length ≤ 20 ∧ (∀ c ∈ D, dig c) ∧ dv 0 D = u

theorem digs_zeros (z u : Nat) (D : List UInt8) (h : Digs u D) : (List.replicate z 48 ++ D) ≠ [] ∧ (∀ c ∈ List.replicate z (48 : UInt8) ++ D, dig c) ∧ dv 0 (List.replicate z 48 ++ D) = u := by
  obtain ⟨h1, h2, h3, h4⟩ := h
  refine ⟨by simp [h1], fun c hc => ?_, by rw [dv_zeros]; exact h4⟩
  rcases List.mem_append.1 hc with hc | hc
  · have := List.eq_of_mem_replicate hc
    subst this; unfold dig; decide
  · exact h3 c hc

theorem atoi_neg (u z : Nat) (D : List UInt8) (h : Digs u D) (hu : u ≤ 9223372036854775808) : atoiAll ([45] ++ (List.replicate z 48 ++ D)) = .ok (-(u : Int)) := by
  obtain ⟨g1, g2, g3⟩ := digs_zeros z u D h
  have := atoi_ok_of 45 (List.replicate z 48 ++ D) (List.replicate z 48 ++ D) u (by simp) g1 (by rw [pu_dv _ 0 g2 (by omega), g3]) (fun _ => hu) (fun h => absurd rfl h)
  exact this

theorem atoi_plus (u z : Nat) (D : List UInt8) (h : Digs u D) (hu : u < 9223372036854775808) : atoiAll ([43] ++ (List.replicate z 48 ++ D)) = .ok (u : Int) := by
  obtain ⟨g1, g2, g3⟩ := digs_zeros z u D h
  have := atoi_ok_of 43 (List.replicate z 48 ++ D) (List.replicate z 48 ++ D) u (by simp) g1 (by rw [pu_dv _ 0 g2 (by omega), g3]) (fun h => absurd h (by decide)) (fun _ => hu)
  exact this

theorem atoi_bare (u z : Nat) (D : List UInt8) (h : Digs u D) (hu : u < 9223372036854775808) : atoiAll ([] ++ (List.replicate z 48 ++ D)) = .ok (u : Int) := by
  obtain ⟨g1, g2, g3⟩ := digs_zeros z u D h
  rw [List.nil_append]
  generalize List.replicate z (48 : UInt8) ++ D = m at g1 g2 g3 ⊢
  match m with
  | c :: r =>
    have hc := g2 c (List.mem_cons_self ..)
    unfold dig at hc
    have := atoi_ok_of c r (c :: r) u (by rw [if_neg (by omega)]) g1 (by rw [pu_dv _ 0 g2 (by omega), g3]) (fun h => absurd h (by omega)) (fun _ => hu)
    rw [if_neg (by omega)] at this
    exact this

/-- one digit more, from below: the number's rest shrinks by ten -/
theorem dig_step (ds : List UInt8) (u u0 : Nat) (h : dv 0 ds.reverse + u * 10 ^ ds.length = u0) (c : UInt8) (hc : c.toNat = 48 + u % 10) : dv 0 (ds ++ [c]).reverse + u / 10 * 10 ^ (ds ++ [c]).length = u0 := by
  rw [List.reverse_append, List.reverse_singleton, List.singleton_append, dv_cons, dv_acc, List.length_reverse, List.length_append, List.length_singleton, Nat.pow_succ]
  have e : c.toNat - 48 = u % 10 := by omega
  rw [e, Nat.zero_mul, Nat.zero_add]
  have : u * 10 ^ ds.length = (u % 10 + 10 * (u / 10)) * 10 ^ ds.length := by rw [Nat.mod_add_div]
  rw [this, Nat.add_mul] at h
  have e2 : u / 10 * (10 ^ ds.length * 10) = 10 * (u / 10) * 10 ^ ds.length := by
    rw [Nat.mul_comm (10 ^ ds.length) 10, ← Nat.mul_assoc, Nat.mul_comm (u / 10) 10]
  rw [e2]
  omega

theorem len_lt (ds : List UInt8) (u u0 : Nat) (h : dv 0 ds.reverse + u * 10 ^ ds.length = u0) (hu : u0 < 18446744073709551616) (hpos : 1 ≤ u) : ds.length < 20 := by
  rcases Nat.lt_or_ge ds.length 20 with h1 | h1
  · exact h1
  · have : 10 ^ 20 ≤ 10 ^ ds.length := Nat.pow_le_pow_right (by decide) h1
    have h3 : 1 * 10 ^ ds.length ≤ u * 10 ^ ds.length := Nat.mul_le_mul_right _ hpos
    have : (10 : Nat) ^ 20 = 100000000000000000000 := by decide
    omega
end Go.Proofs.Qxb6600209aFmt
