import Derived.Test.Qxb6600209aFmtPlain
import Derived.Lib.SpaceUEq
namespace Go.Proofs.Qxb6600209aFmt
open Go.Lib

theorem hs_le (qs : List (List UInt8)) (l : List UInt8) : hs qs l ≤ l.length := by
  induction qs with
  | nil => rw [hs]; exact Nat.zero_le _
  | cons q qs ih =>
    rw [hs]
    split
    · rename_i h
      exact (List.isPrefixOf_iff_prefix.1 h).length_le
    · exact ih

theorem head_le (l : List UInt8) : headSpace l ≤ l.length := by
  unfold headSpace; rw [find_hs]; exact hs_le _ _

def FU (cur l : List UInt8) : List (List UInt8) := fieldsGoU l.length cur l

theorem fuel_eq (f g : Nat) (cur l : List UInt8) (hf : l.length ≤ f) (hg : l.length ≤ g) : fieldsGoU f cur l = fieldsGoU g cur l := by
  rw [fieldsGo_eq l.length f cur l (Nat.le_refl _) hf, fieldsGo_eq l.length g cur l (Nat.le_refl _) hg]

theorem FU_nil (cur : List UInt8) : FU cur [] = if cur = [] then [] else [cur] := fieldsGoU_nil _ _

theorem FU_zero (cur : List UInt8) (b : UInt8) (t : List UInt8) (h : headSpace (b :: t) = 0) : FU cur (b :: t) = FU (cur ++ [b]) t := by
  unfold FU
  rw [List.length_cons, fieldsGoU, if_pos h]

theorem FU_space (cur : List UInt8) (b : UInt8) (t : List UInt8) (h : headSpace (b :: t) ≠ 0) : FU cur (b :: t) = (if cur = [] then [] else [cur]) ++ FU [] ((b :: t).drop (headSpace (b :: t))) := by
  unfold FU
  rw [List.length_cons, fieldsGoU, if_neg h]
  rw [fuel_eq t.length _ [] ((b :: t).drop (headSpace (b :: t))) (by simp; omega) (Nat.le_refl _)]

theorem fieldsU_FU (l : List UInt8) : fieldsU l = FU [] l := fuel_eq _ _ _ _ (by omega) (Nat.le_refl _)

def sl (l : List UInt8) (s e : Nat) : List UInt8 := (l.drop s).take (e - s)

theorem sl_snoc (l : List UInt8) (s i : Nat) (hs : s ≤ i) (hi : i < l.length) : sl l s i ++ [l[i]] = sl l s (i + 1) := by
  unfold sl
  rw [show i + 1 - s = (i - s) + 1 from by omega, List.take_succ_eq_append_getElem (by simp; omega)]
  congr 2
  rw [List.getElem_drop]
  congr 1
  omega

theorem drop_cons (l : List UInt8) (i : Nat) (hi : i < l.length) : l.drop i = l[i] :: l.drop (i + 1) := List.drop_eq_getElem_cons hi

/-- what holds at the head of the loop -/
structure Inv (l : List UInt8) (i : Nat) (b : Bool) (c s0 e0 s1 e1 : Nat) : Prop where
  le : i ≤ l.length
  fs : ∃ done cur, fieldsU l = done ++ FU cur (l.drop i) ∧ c = done.length + (if b then 1 else 0) ∧ (b = false → cur = []) ∧ (b = true → cur ≠ []) ∧
    (∀ x, done[0]? = some x → x = sl l s0 e0 ∧ s0 ≤ e0 ∧ e0 ≤ l.length) ∧ (∀ x, done[1]? = some x → x = sl l s1 e1 ∧ s1 ≤ e1 ∧ e1 ≤ l.length) ∧
    (b = true → done.length = 0 → cur = sl l s0 i ∧ s0 ≤ i) ∧ (b = true → done.length = 1 → cur = sl l s1 i ∧ s1 ≤ i)
  ci : c ≤ i

theorem inv_start (l : List UInt8) : Inv l 0 false 0 0 0 0 0 :=
  ⟨Nat.zero_le _, ⟨[], [], by rw [fieldsU_FU]; rfl, rfl, fun _ => rfl, fun h => (by cases h), fun x h => by simp at h, fun x h => by simp at h, fun h => (by cases h), fun h => (by cases h)⟩, Nat.le_refl _⟩

theorem inv_begin {l : List UInt8} {i c s0 e0 s1 e1 : Nat} (h : Inv l i false c s0 e0 s1 e1) (hi : i < l.length) (hz : headSpace (l.drop i) = 0) :
    Inv l (i + 1) true (c + 1) (if c = 0 then i else s0) e0 (if c = 1 then i else s1) e1 := by
  obtain ⟨hle, ⟨done, cur, hf, hc, hb, _, h0, h1, _, _⟩, hci⟩ := h
  have hcur := hb rfl
  subst hcur
  rw [drop_cons l i hi] at hf hz
  rw [FU_zero _ _ _ hz] at hf
  simp at hc
  have e1' : sl l i (i + 1) = [l[i]] := by
    have := sl_snoc l i i (Nat.le_refl _) hi
    rw [← this]; simp [sl]
  refine ⟨by omega, ⟨done, [] ++ [l[i]], hf, by simp [hc], fun h => (by cases h), fun _ => by simp, fun x hx => ?_, fun x hx => ?_, fun _ hd => ?_, fun _ hd => ?_⟩, by omega⟩
  · have hne : c ≠ 0 := by rintro rfl; rw [List.getElem?_eq_none (by omega)] at hx; cases hx
    rw [if_neg hne]; exact h0 x hx
  · have hne : c ≠ 1 := by rintro rfl; rw [List.getElem?_eq_none (by omega)] at hx; cases hx
    rw [if_neg hne]; exact h1 x hx
  · rw [if_pos (by omega), e1']; exact ⟨rfl, by omega⟩
  · rw [if_pos (by omega), e1']; exact ⟨rfl, by omega⟩

theorem inv_cont {l : List UInt8} {i c s0 e0 s1 e1 : Nat} (h : Inv l i true c s0 e0 s1 e1) (hi : i < l.length) (hz : headSpace (l.drop i) = 0) :
    Inv l (i + 1) true c s0 e0 s1 e1 := by
  obtain ⟨hle, ⟨done, cur, hf, hc, _, hb, h0, h1, h2, h3⟩, hci⟩ := h
  rw [drop_cons l i hi] at hf hz
  rw [FU_zero _ _ _ hz] at hf
  refine ⟨by omega, ⟨done, cur ++ [l[i]], hf, hc, fun h => (by cases h), fun _ => by simp, h0, h1, fun _ hd => ?_, fun _ hd => ?_⟩, by omega⟩
  · obtain ⟨e, hs⟩ := h2 rfl hd
    exact ⟨by rw [e, sl_snoc l s0 i hs hi], by omega⟩
  · obtain ⟨e, hs⟩ := h3 rfl hd
    exact ⟨by rw [e, sl_snoc l s1 i hs hi], by omega⟩

theorem space_drop (l : List UInt8) (i : Nat) (hi : i < l.length) (hz : headSpace (l.drop i) ≠ 0) (cur : List UInt8) :
    FU cur (l.drop i) = (if cur = [] then [] else [cur]) ++ FU [] (l.drop (i + headSpace (l.drop i))) ∧ i + headSpace (l.drop i) ≤ l.length := by
  have hle := head_le (l.drop i)
  rw [List.length_drop] at hle
  refine ⟨?_, by omega⟩
  rw [← List.drop_drop]
  generalize hd : l.drop i = d at hz
  rw [drop_cons l i hi] at hd
  subst hd
  exact FU_space _ _ _ hz

theorem inv_end {l : List UInt8} {i c s0 e0 s1 e1 : Nat} (h : Inv l i true c s0 e0 s1 e1) (hi : i < l.length) (hz : headSpace (l.drop i) ≠ 0) :
    Inv l (i + headSpace (l.drop i)) false c s0 (if c = 1 then i else e0) s1 (if c = 2 then i else e1) := by
  obtain ⟨hle, ⟨done, cur, hf, hc, _, hb, h0, h1, h2, h3⟩, hci⟩ := h
  obtain ⟨e1', e2'⟩ := space_drop l i hi hz cur
  rw [e1', if_neg (hb rfl), ← List.append_assoc] at hf
  simp at hc
  refine ⟨e2', ⟨done ++ [cur], [], hf, by simp [hc], fun _ => rfl, fun h => (by cases h), fun x hx => ?_, fun x hx => ?_, fun h => (by cases h), fun h => (by cases h)⟩, by omega⟩
  · rcases Nat.eq_zero_or_pos done.length with hd | hd
    · rw [if_pos (by omega)]
      have hdn : done = [] := List.length_eq_zero_iff.1 hd
      subst hdn
      simp at hx
      obtain ⟨e, hs⟩ := h2 rfl rfl
      exact ⟨by rw [← hx, e], hs, by omega⟩
    · rw [if_neg (by omega)]
      rw [List.getElem?_append_left hd] at hx
      exact h0 x hx
  · by_cases hd : done.length = 1
    · rw [if_pos (by omega)]
      have hy : (done ++ [cur])[1]? = some cur := by
        rw [List.getElem?_append_right (by omega), hd]; rfl
      rw [hy] at hx
      simp at hx
      obtain ⟨e, hs⟩ := h3 rfl hd
      exact ⟨by rw [← hx, e], hs, by omega⟩
    · rw [if_neg (by omega)]
      by_cases hd2 : 2 ≤ done.length
      · rw [List.getElem?_append_left (by omega)] at hx
        exact h1 x hx
      · have hd3 : (done ++ [cur]).length ≤ 1 := by rw [List.length_append, List.length_singleton]; omega
        rw [List.getElem?_eq_none hd3] at hx; cases hx

theorem inv_skip {l : List UInt8} {i c s0 e0 s1 e1 : Nat} (h : Inv l i false c s0 e0 s1 e1) (hi : i < l.length) (hz : headSpace (l.drop i) ≠ 0) :
    Inv l (i + headSpace (l.drop i)) false c s0 e0 s1 e1 := by
  obtain ⟨hle, ⟨done, cur, hf, hc, hb, _, h0, h1, _, _⟩, hci⟩ := h
  have hcur := hb rfl
  subst hcur
  obtain ⟨e1', e2'⟩ := space_drop l i hi hz []
  rw [e1'] at hf
  exact ⟨e2', ⟨done, [], hf, hc, fun _ => rfl, fun h => (by cases h), h0, h1, fun h => (by cases h), fun h => (by cases h)⟩, by omega⟩

/-- the end of the loop -/
theorem inv_fin {l : List UInt8} {i c s0 e0 s1 e1 : Nat} {b : Bool} (h : Inv l i b c s0 e0 s1 e1) (hi : ¬ i < l.length) :
    (fieldsU l).length = c ∧ (c = 2 → fieldsU l = [sl l s0 (if b = true ∧ c = 1 then l.length else e0), sl l s1 (if b = true ∧ c = 2 then l.length else e1)] ∧ s0 ≤ (if b = true ∧ c = 1 then l.length else e0) ∧ (if b = true ∧ c = 1 then l.length else e0) ≤ l.length ∧ s1 ≤ (if b = true ∧ c = 2 then l.length else e1) ∧ (if b = true ∧ c = 2 then l.length else e1) ≤ l.length) := by
  obtain ⟨hle, ⟨done, cur, hf, hc, hb0, hb1, h0, h1, h2, h3⟩, hci⟩ := h
  have hil : i = l.length := by omega
  subst hil
  rw [List.drop_length, FU_nil] at hf
  cases b with
  | false =>
    rw [hb0 rfl] at hf
    simp at hf hc
    refine ⟨by rw [hf]; exact hc.symm, fun hc2 => ?_⟩
    subst hc
    simp only [Bool.false_eq_true, false_and, if_false]
    match done, hc2 with
    | [x, y], _ =>
      obtain ⟨ex, a1, a2⟩ := h0 x rfl
      obtain ⟨ey, b1, b2⟩ := h1 y rfl
      exact ⟨by rw [hf, ← ex, ← ey], a1, a2, b1, b2⟩
  | true =>
    rw [if_neg (hb1 rfl)] at hf
    simp at hc
    refine ⟨by rw [hf]; simp [hc], fun hc2 => ?_⟩
    have hd : done.length = 1 := by omega
    simp only [hc2, true_and]
    match done, hd with
    | [x], _ =>
      obtain ⟨ex, a1, a2⟩ := h0 x rfl
      obtain ⟨ey, b1⟩ := h3 rfl rfl
      refine ⟨?_, by simpa using a1, by simpa using a2, by simpa using b1, by simp⟩
      rw [hf]
      simp [ex, ey]
end Go.Proofs.Qxb6600209aFmt
