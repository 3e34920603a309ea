import Derived.Test.Qxb6600209aFmtInt
namespace Go.Proofs.Qxb6600209aFmt
open Go.Lib Go.RowKit
set_option linter.unusedVariables false

theorem head_none (c : UInt8) (r : List UInt8) (h : c.toNat = 43 ∨ c.toNat = 45 ∨ dig c) : headSpace (c :: r) = 0 := by
  have hc : 43 ≤ c.toNat ∧ c.toNat ≤ 57 := by unfold dig at h; omega
  have hn : spaceSeqs.find? (·.isPrefixOf (c :: r)) = none := by
    rw [List.find?_eq_none]
    intro q hq
    have hall : ∀ q ∈ spaceSeqs, ∃ b t, q = b :: t ∧ (b.toNat < 43 ∨ 57 < b.toNat) := by
      intro q hq
      simp only [spaceSeqs, List.mem_cons, List.mem_nil_iff, or_false] at hq
      rcases hq with rfl | rfl | rfl | rfl | rfl | rfl | rfl | rfl | rfl | rfl | rfl | rfl | rfl | rfl | rfl | rfl | rfl | rfl | rfl | rfl | rfl | rfl | rfl | rfl | rfl
      all_goals exact ⟨_, _, rfl, by decide⟩
    obtain ⟨b, t, rfl, hb⟩ := hall q hq
    simp only [List.isPrefixOf, Bool.and_eq_true, beq_iff_eq, not_and]
    intro e
    subst e
    omega
  unfold headSpace
  rw [hn]
  rfl

theorem FU_word (n : List UInt8) : ∀ (cur r : List UInt8), (∀ c ∈ n, c.toNat = 43 ∨ c.toNat = 45 ∨ dig c) → FU cur (n ++ r) = FU (cur ++ n) r := by
  induction n with
  | nil => intro cur r _; simp
  | cons c n ih =>
    intro cur r h
    rw [List.cons_append, FU_zero _ _ _ (head_none c _ (h c (List.mem_cons_self ..))), ih _ _ (fun c hc => h c (List.mem_cons_of_mem _ hc))]
    simp

theorem head_space (k : Nat) (hk : k < 25) (r : List UInt8) : headSpace (spaceOf k ++ r) = (spaceOf k).length := by
  rcases (show k = 0 ∨ k = 1 ∨ k = 2 ∨ k = 3 ∨ k = 4 ∨ k = 5 ∨ k = 6 ∨ k = 7 ∨ k = 8 ∨ k = 9 ∨ k = 10 ∨ k = 11 ∨ k = 12 ∨ k = 13 ∨ k = 14 ∨ k = 15 ∨ k = 16 ∨ k = 17 ∨ k = 18 ∨ k = 19 ∨ k = 20 ∨ k = 21 ∨ k = 22 ∨ k = 23 ∨ k = 24 by omega) with rfl | rfl | rfl | rfl | rfl | rfl | rfl | rfl | rfl | rfl | rfl | rfl | rfl | rfl | rfl | rfl | rfl | rfl | rfl | rfl | rfl | rfl | rfl | rfl | rfl
  all_goals rfl

theorem space_pos (k : Nat) : spaceOf k ≠ [] := by
  unfold spaceOf
  repeat' split
  all_goals simp

theorem FU_sp (k : Nat) (hk : k < 25) (cur r : List UInt8) : FU cur (spaceOf k ++ r) = (if cur = [] then [] else [cur]) ++ FU [] r := by
  have hh := head_space k hk r
  have hp := space_pos k
  match hs : spaceOf k, hp with
  | b :: t, _ =>
    rw [hs] at hh
    rw [List.cons_append] at hh ⊢
    have hd : (b :: (t ++ r)).drop (headSpace (b :: (t ++ r))) = r := by
      rw [hh, ← List.cons_append]
      exact List.drop_left
    rw [FU_space _ _ _ (by rw [hh]; simp), hd]

theorem FU_pads (ks : List Nat) (r : List UInt8) : FU [] (pads ks ++ r) = FU [] r := by
  induction ks with
  | nil => simp [pads]
  | cons k ks ih =>
    have e : pads (k :: ks) ++ r = spaceOf (k % 25) ++ (pads ks ++ r) := by simp [pads]
    rw [e, FU_sp _ (Nat.mod_lt _ (by decide)), ih]
    simp

theorem FU_gap (ks : List Nat) (hne : ks ≠ []) (cur r : List UInt8) (hc : cur ≠ []) : FU cur (pads ks ++ r) = cur :: FU [] r := by
  match ks, hne with
  | k :: ks, _ =>
    have e : pads (k :: ks) ++ r = spaceOf (k % 25) ++ (pads ks ++ r) := by simp [pads]
    rw [e, FU_sp _ (Nat.mod_lt _ (by decide)), FU_pads, if_neg hc]
    rfl

/-- what is written has two fields -/
theorem fields_two (k1 k2 k3 : List Nat) (n1 n2 : List UInt8) (h2 : k2 ≠ []) (e1 : n1 ≠ []) (e2 : n2 ≠ []) (c1 : ∀ c ∈ n1, c.toNat = 43 ∨ c.toNat = 45 ∨ dig c) (c2 : ∀ c ∈ n2, c.toNat = 43 ∨ c.toNat = 45 ∨ dig c) :
    fieldsU (pads k1 ++ (n1 ++ (pads k2 ++ (n2 ++ pads k3)))) = [n1, n2] := by
  rw [fieldsU_FU, FU_pads, FU_word n1 _ _ c1, List.nil_append, FU_gap k2 h2 _ _ e1, FU_word n2 _ _ c2, List.nil_append]
  congr 1
  rcases Classical.em (k3 = []) with h | h
  · subst h
    rw [show pads [] = [] from rfl, FU_nil, if_neg e2]
  · have := FU_gap k3 h n2 [] e2
    rw [List.append_nil] at this
    rw [this, FU_nil, if_pos rfl]

/-- a number as the law writes it -/
def Num (v : Int) (t : List UInt8) : Prop := atoiAll t = .ok v ∧ t ≠ [] ∧ t.length ≤ 24 ∧ ∀ c ∈ t, c.toNat = 43 ∨ c.toNat = 45 ∨ dig c

theorem num_of (v : Int) (sg D : List UInt8) (z u : Nat) (hz : z ≤ 3) (hD : Digs u D) (hs : sg = [] ∨ sg = [43] ∨ sg = [45]) (h : atoiAll (sg ++ (List.replicate z 48 ++ D)) = .ok v) : Num v (sg ++ (List.replicate z 48 ++ D)) := by
  obtain ⟨d1, d2, d3, d4⟩ := hD
  refine ⟨h, by simp [d1], ?_, fun c hc => ?_⟩
  · simp only [List.length_append, List.length_replicate]
    rcases hs with rfl | rfl | rfl
    all_goals simp
    all_goals omega
  · rcases List.mem_append.1 hc with hc | hc
    · rcases hs with rfl | rfl | rfl
      · cases hc
      · rw [List.mem_singleton] at hc; subst hc; exact Or.inl rfl
      · rw [List.mem_singleton] at hc; subst hc; exact Or.inr (Or.inl rfl)
    · rcases List.mem_append.1 hc with hc | hc
      · have := List.eq_of_mem_replicate hc
        subst this; right; right; unfold dig; decide
      · exact Or.inr (Or.inr (d3 c hc))

/-- the writer's contract, for every number -/
theorem int12 (g : Nat) (l : List UInt8) (v : Int) (z : Nat) (p : Bool) (w : World) (h1 : -9223372036854775808 ≤ v) (h2 : v ≤ 9223372036854775807) (hz : z ≤ 3) (hO : Out w g l) (hroom : l.length + 24 ≤ 96) :
    Calls Tryf.prog 12 #[.slice (some ⟨g, 0, none⟩) l.length 96, .int .i64 v, .bool p, .int .i64 z] w fun e w' =>
      ∃ t : List UInt8, Num v t ∧ e = .returned (.slice (some ⟨g, 0, none⟩) (l ++ t).length 96) ∧ Out w' g (l ++ t) ∧ Below g w w' := by
  by_cases hn : v < 0
  · obtain ⟨u, rfl⟩ : ∃ u : Nat, v = -(u : Int) := ⟨v.natAbs, by omega⟩
    refine (int12_neg g l u z p w (by omega) (by omega) hz hO hroom).mono ?_
    rintro e w' ⟨D, hD, he, ho, hb⟩
    exact ⟨_, num_of _ [45] D z u hz hD (Or.inr (Or.inr rfl)) (atoi_neg u z D hD (by omega)), he, ho, hb⟩
  · obtain ⟨u, rfl⟩ : ∃ u : Nat, v = (u : Int) := ⟨v.natAbs, by omega⟩
    cases p
    · refine (int12_bare g l u z w (by omega) hz hO hroom).mono ?_
      rintro e w' ⟨D, hD, he, ho, hb⟩
      exact ⟨_, num_of _ [] D z u hz hD (Or.inl rfl) (atoi_bare u z D hD (by omega)), he, ho, hb⟩
    · refine (int12_plus g l u z w (by omega) hz hO hroom).mono ?_
      rintro e w' ⟨D, hD, he, ho, hb⟩
      exact ⟨_, num_of _ [43] D z u hz hD (Or.inr (Or.inl rfl)) (atoi_plus u z D hD (by omega)), he, ho, hb⟩
end Go.Proofs.Qxb6600209aFmt
