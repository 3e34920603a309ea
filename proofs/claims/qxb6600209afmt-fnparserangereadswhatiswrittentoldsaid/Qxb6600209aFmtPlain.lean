import Derived.Lib.SpaceU
namespace Go.Proofs.Qxb6600209aFmt

/-- the width of the white space whose bytes are c, d, e, n bytes being left -/
def spw (n : Nat) (c d e : Int) : Int :=
  if c = 32 ∨ (9 ≤ c ∧ c ≤ 13) then 1
  else if c = 194 then (if 2 ≤ n ∧ (d = 133 ∨ d = 160) then 2 else 0)
  else if n < 3 then 0
  else if c = 225 ∧ d = 154 ∧ e = 128 then 3
  else if c = 226 ∧ d = 128 ∧ ((128 ≤ e ∧ e ≤ 138) ∨ e = 168 ∨ e = 169 ∨ e = 175) then 3
  else if c = 226 ∧ d = 129 ∧ e = 159 then 3
  else if c = 227 ∧ d = 128 ∧ e = 128 then 3
  else 0

def hs : List (List UInt8) → List UInt8 → Nat
  | [], _ => 0
  | q :: qs, l => if q.isPrefixOf l = true then q.length else hs qs l

theorem find_hs (qs : List (List UInt8)) (l : List UInt8) : ((qs.find? (·.isPrefixOf l)).map List.length).getD 0 = hs qs l := by
  induction qs with
  | nil => rfl
  | cons q qs ih =>
    rw [List.find?_cons, hs]
    cases h : q.isPrefixOf l with
    | true => simp
    | false => simp [ih]

theorem hs1 (a b : UInt8) (t : List UInt8) (qs : List (List UInt8)) : hs ([a] :: qs) (b :: t) = if b.toNat = a.toNat then 1 else hs qs (b :: t) := by
  rw [hs]
  by_cases h : b.toNat = a.toNat
  · rw [if_pos h, if_pos (by simp [List.isPrefixOf, UInt8.toNat_inj.1 h])]; rfl
  · rw [if_neg h, if_neg (by simp [List.isPrefixOf]; intro e; exact h (by rw [e]))]

theorem hs2 (a a' b d : UInt8) (t : List UInt8) (qs : List (List UInt8)) : hs ([a, a'] :: qs) (b :: d :: t) = if b.toNat = a.toNat ∧ d.toNat = a'.toNat then 2 else hs qs (b :: d :: t) := by
  rw [hs]
  by_cases h : b.toNat = a.toNat ∧ d.toNat = a'.toNat
  · rw [if_pos h, if_pos (by simp [List.isPrefixOf, UInt8.toNat_inj.1 h.1, UInt8.toNat_inj.1 h.2])]; rfl
  · rw [if_neg h, if_neg (by simp [List.isPrefixOf]; intro e1 e2; exact h ⟨by rw [e1], by rw [e2]⟩)]

theorem hs2' (a a' b : UInt8) (qs : List (List UInt8)) : hs ([a, a'] :: qs) [b] = hs qs [b] := by
  rw [hs, if_neg (by simp [List.isPrefixOf])]

theorem hs3 (a a' a'' b d e : UInt8) (t : List UInt8) (qs : List (List UInt8)) : hs ([a, a', a''] :: qs) (b :: d :: e :: t) = if b.toNat = a.toNat ∧ d.toNat = a'.toNat ∧ e.toNat = a''.toNat then 3 else hs qs (b :: d :: e :: t) := by
  rw [hs]
  by_cases h : b.toNat = a.toNat ∧ d.toNat = a'.toNat ∧ e.toNat = a''.toNat
  · rw [if_pos h, if_pos (by simp [List.isPrefixOf, UInt8.toNat_inj.1 h.1, UInt8.toNat_inj.1 h.2.1, UInt8.toNat_inj.1 h.2.2])]; rfl
  · rw [if_neg h, if_neg (by simp [List.isPrefixOf]; intro e1 e2 e3; exact h ⟨by rw [e1], by rw [e2], by rw [e3]⟩)]

theorem hs3' (a a' a'' b : UInt8) (qs : List (List UInt8)) : hs ([a, a', a''] :: qs) [b] = hs qs [b] := by
  rw [hs, if_neg (by simp [List.isPrefixOf])]
theorem hs3'' (a a' a'' b d : UInt8) (qs : List (List UInt8)) : hs ([a, a', a''] :: qs) [b, d] = hs qs [b, d] := by
  rw [hs, if_neg (by simp [List.isPrefixOf])]

set_option maxHeartbeats 4000000 in
theorem head_spw3 (b d e : UInt8) (t : List UInt8) (n : Nat) (hn : 3 ≤ n) : (Lib.headSpace (b :: d :: e :: t) : Int) = spw n b.toNat d.toNat e.toNat := by
  unfold Lib.headSpace Lib.spaceSeqs
  rw [find_hs]
  simp only [hs1, hs2, hs3, UInt8.reduceToNat]
  rw [hs]
  generalize b.toNat = B
  generalize d.toNat = D
  generalize e.toNat = E
  unfold spw
  have hn3 : ¬ n < 3 := by omega
  have hn2 : 2 ≤ n := by omega
  by_cases c1 : B = 32 ∨ (9 ≤ B ∧ B ≤ 13)
  · have h : B = 9 ∨ B = 10 ∨ B = 11 ∨ B = 12 ∨ B = 13 ∨ B = 32 := by omega
    rcases h with rfl | rfl | rfl | rfl | rfl | rfl <;> simp
  · have k1 : ¬ B = 9 := by omega
    have k2 : ¬ B = 10 := by omega
    have k3 : ¬ B = 11 := by omega
    have k4 : ¬ B = 12 := by omega
    have k5 : ¬ B = 13 := by omega
    have k6 : ¬ B = 32 := by omega
    have k7 : ¬ ((B : Int) = 32 ∨ (9 ≤ (B : Int) ∧ (B : Int) ≤ 13)) := by omega
    simp only [k1, k2, k3, k4, k5, k6, k7, if_false]
    clear k1 k2 k3 k4 k5 k6 k7 c1
    by_cases c2 : B = 194
    · subst c2
      simp [hn2]
      repeat' split
      all_goals omega
    · have k8 : ¬ (B : Int) = 194 := by omega
      simp only [c2, k8, hn3, false_and, if_false]
      by_cases c3 : B = 225
      · subst c3
        simp
        repeat' split
        all_goals omega
      · have k9 : ¬ (B : Int) = 225 := by omega
        simp only [c3, k9, false_and, if_false]
        by_cases c4 : B = 227
        · subst c4
          simp
          repeat' split
          all_goals omega
        · have k10 : ¬ (B : Int) = 227 := by omega
          simp only [c4, k10, false_and, if_false]
          by_cases c5 : B = 226
          · subst c5
            by_cases c6 : D = 128
            · subst c6
              by_cases c7 : 128 ≤ E ∧ E ≤ 138
              · have h : E = 128 ∨ E = 129 ∨ E = 130 ∨ E = 131 ∨ E = 132 ∨ E = 133 ∨ E = 134 ∨ E = 135 ∨ E = 136 ∨ E = 137 ∨ E = 138 := by omega
                rcases h with rfl | rfl | rfl | rfl | rfl | rfl | rfl | rfl | rfl | rfl | rfl <;> simp
              · have q0 : ¬ E = 128 := by omega
                have q1 : ¬ E = 129 := by omega
                have q2 : ¬ E = 130 := by omega
                have q3 : ¬ E = 131 := by omega
                have q4 : ¬ E = 132 := by omega
                have q5 : ¬ E = 133 := by omega
                have q6 : ¬ E = 134 := by omega
                have q7 : ¬ E = 135 := by omega
                have q8 : ¬ E = 136 := by omega
                have q9 : ¬ E = 137 := by omega
                have q10 : ¬ E = 138 := by omega
                have q11 : ¬ (128 ≤ (E : Int) ∧ (E : Int) ≤ 138) := by omega
                simp only [q0, q1, q2, q3, q4, q5, q6, q7, q8, q9, q10, q11, and_false, if_false, false_or]
                clear q0 q1 q2 q3 q4 q5 q6 q7 q8 q9 q10 q11
                simp
                repeat' split
                all_goals omega
            · have k11 : ¬ (D : Int) = 128 := by omega
              simp [c6, k11]
              repeat' split
              all_goals omega
          · have k12 : ¬ (B : Int) = 226 := by omega
            simp only [c5, k12, false_and, if_false]
            rfl

theorem head_spw2 (b d : UInt8) (x : Int) (n : Nat) (hn : n = 2) : (Lib.headSpace [b, d] : Int) = spw n b.toNat d.toNat x := by
  unfold Lib.headSpace Lib.spaceSeqs
  rw [find_hs]
  simp only [hs1, hs2, hs3'', UInt8.reduceToNat]
  rw [hs]
  generalize b.toNat = B
  generalize d.toNat = D
  unfold spw
  subst hn
  by_cases c1 : B = 32 ∨ (9 ≤ B ∧ B ≤ 13)
  · have h : B = 9 ∨ B = 10 ∨ B = 11 ∨ B = 12 ∨ B = 13 ∨ B = 32 := by omega
    rcases h with rfl | rfl | rfl | rfl | rfl | rfl <;> simp
  · have k1 : ¬ B = 9 := by omega
    have k2 : ¬ B = 10 := by omega
    have k3 : ¬ B = 11 := by omega
    have k4 : ¬ B = 12 := by omega
    have k5 : ¬ B = 13 := by omega
    have k6 : ¬ B = 32 := by omega
    have k7 : ¬ ((B : Int) = 32 ∨ (9 ≤ (B : Int) ∧ (B : Int) ≤ 13)) := by omega
    simp only [k1, k2, k3, k4, k5, k6, k7, if_false]
    clear k1 k2 k3 k4 k5 k6 k7 c1
    by_cases c2 : B = 194
    · subst c2
      simp
      repeat' split
      all_goals omega
    · have k8 : ¬ (B : Int) = 194 := by omega
      simp [c2, k8]

theorem head_spw1 (b : UInt8) (y x : Int) (n : Nat) (hn : n = 1) : (Lib.headSpace [b] : Int) = spw n b.toNat y x := by
  unfold Lib.headSpace Lib.spaceSeqs
  rw [find_hs]
  simp only [hs1, hs2', hs3', UInt8.reduceToNat]
  rw [hs]
  generalize b.toNat = B
  unfold spw
  subst hn
  by_cases c1 : B = 32 ∨ (9 ≤ B ∧ B ≤ 13)
  · have h : B = 9 ∨ B = 10 ∨ B = 11 ∨ B = 12 ∨ B = 13 ∨ B = 32 := by omega
    rcases h with rfl | rfl | rfl | rfl | rfl | rfl <;> simp
  · have k1 : ¬ B = 9 := by omega
    have k2 : ¬ B = 10 := by omega
    have k3 : ¬ B = 11 := by omega
    have k4 : ¬ B = 12 := by omega
    have k5 : ¬ B = 13 := by omega
    have k6 : ¬ B = 32 := by omega
    have k7 : ¬ ((B : Int) = 32 ∨ (9 ≤ (B : Int) ∧ (B : Int) ≤ 13)) := by omega
    simp only [k1, k2, k3, k4, k5, k6, k7, if_false]
    by_cases c2 : B = 194
    · subst c2
      simp
    · have k8 : ¬ (B : Int) = 194 := by omega
      simp [k8]
end Go.Proofs.Qxb6600209aFmt
