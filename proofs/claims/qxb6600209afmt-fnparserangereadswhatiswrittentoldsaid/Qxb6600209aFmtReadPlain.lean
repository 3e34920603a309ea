import Derived.Test.Qxb6600209aFmtTok
import Derived.Lib.AtoiAll
namespace Go.Proofs.Qxb6600209aFmt
open Go.Lib

theorem sl_cons (l : List UInt8) (s e : Nat) (hs : s < e) (he : e ≤ l.length) : sl l s e = l.getD s 0 :: sl l (s + 1) e := by
  unfold sl
  rw [drop_cons l s (by omega), show e - s = (e - (s + 1)) + 1 from by omega, List.take_succ_cons]
  simp [List.getElem?_eq_getElem (show s < l.length by omega)]

theorem sl_nil (l : List UInt8) (s e : Nat) (h : e ≤ s) : sl l s e = [] := by
  unfold sl
  rw [show e - s = 0 from by omega, List.take_zero]

/-- one step of the parse -/
theorem pu_bad (acc : Nat) (c : UInt8) (r : List UInt8) (h : c.toNat < 48 ∨ 57 < c.toNat) (v : Nat) : parseUint10 acc (c :: r) ≠ .ok v := by
  rw [parseUint10, if_neg (by omega)]
  intro h; cases h

theorem pu_over (acc : Nat) (c : UInt8) (r : List UInt8) (h0 : 48 ≤ c.toNat) (h1 : c.toNat ≤ 57) (h : (18446744073709551615 - (c.toNat - 48)) / 10 < acc) (v : Nat) : parseUint10 acc (c :: r) ≠ .ok v := by
  rw [parseUint10, if_pos ⟨h0, h1⟩]
  by_cases h2 : 1844674407370955162 ≤ acc
  · rw [if_pos h2]; intro h; cases h
  · rw [if_neg h2, if_pos (by omega)]; intro h; cases h

theorem pu_step (acc : Nat) (c : UInt8) (r : List UInt8) (h0 : 48 ≤ c.toNat) (h1 : c.toNat ≤ 57) (h : acc ≤ (18446744073709551615 - (c.toNat - 48)) / 10) : parseUint10 acc (c :: r) = parseUint10 (acc * 10 + (c.toNat - 48)) r := by
  rw [parseUint10, if_pos ⟨h0, h1⟩, if_neg (by omega), if_neg (by omega)]

/-- what atoiAll says, by what stands behind the sign -/
theorem atoi_ok_of (c : UInt8) (r m : List UInt8) (u : Nat) (hm : (if c.toNat = 43 ∨ c.toNat = 45 then r else c :: r) = m) (hne : m ≠ []) (h : parseUint10 0 m = .ok u)
    (h1 : c.toNat = 45 → u ≤ 9223372036854775808) (h2 : c.toNat ≠ 45 → u < 9223372036854775808) : atoiAll (c :: r) = .ok (if c.toNat = 45 then -(u : Int) else u) := by
  have h' : parseMag m = .ok u := by unfold parseMag; rw [if_neg hne]; exact h
  simp only [atoiAll, hm, h']
  by_cases hc : c.toNat = 45
  · have := h1 hc
    rw [if_neg (by omega), if_neg (by omega)]
  · have := h2 hc
    rw [if_neg (by omega), if_neg (by omega)]

theorem atoi_bad_of (c : UInt8) (r m : List UInt8) (hm : (if c.toNat = 43 ∨ c.toNat = 45 then r else c :: r) = m)
    (h : m = [] ∨ (∀ u, parseUint10 0 m ≠ .ok u) ∨ ∃ u, parseUint10 0 m = .ok u ∧ ((c.toNat = 45 ∧ 9223372036854775808 < u) ∨ (c.toNat ≠ 45 ∧ 9223372036854775808 ≤ u))) (v : Int) : atoiAll (c :: r) ≠ .ok v := by
  intro hv
  simp only [atoiAll, hm] at hv
  rcases hp : parseMag m with u | _ | _
  · have hp' := hp
    unfold parseMag at hp'
    by_cases hr : m = []
    · rw [if_pos hr] at hp'; cases hp'
    · rw [if_neg hr] at hp'
      rcases h with h | h | ⟨u', h, hu⟩
      · exact hr h
      · exact h u hp'
      · rw [hp'] at h
        injection h with h
        subst h
        rw [hp] at hv
        simp only at hv
        rcases hu with ⟨hc, hu⟩ | ⟨hc, hu⟩
        · rw [if_neg (by omega), if_pos (by omega)] at hv; cases hv
        · rw [if_pos (by omega)] at hv; cases hv
  · rw [hp] at hv; cases hv
  · rw [hp] at hv; cases hv

theorem atoi_nil (v : Int) : atoiAll [] ≠ .ok v := by
  intro h; cases h
end Go.Proofs.Qxb6600209aFmt
