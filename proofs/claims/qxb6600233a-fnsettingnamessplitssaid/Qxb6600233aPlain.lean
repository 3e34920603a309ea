import Derived.Test.Qxb6600233aAt
namespace Go.Proofs.Qxb6600233a
open Go.Lib
set_option linter.unusedVariables false

/-- what stands ahead of the next element -/
def gap (l : List (List UInt8)) (sep : List UInt8) : List UInt8 := if l = [] then [] else sep

theorem join_append (l r : List (List UInt8)) (sep : List UInt8) (hl : l ≠ []) : join (l ++ r) sep = join l sep ++ joinTail sep r := by
  match l, hl with
  | x :: l, _ =>
    rw [List.cons_append, join_cons, join_cons, List.append_assoc]
    congr 1
    simp [joinTail]

theorem join_split (l : List (List UInt8)) (x : List UInt8) (r : List (List UInt8)) (sep : List UInt8) : ∃ t, join (l ++ x :: r) sep = join l sep ++ gap l sep ++ x ++ t := by
  rcases Classical.em (l = []) with h | h
  · subst h
    exact ⟨joinTail sep r, by rw [List.nil_append, join_cons, join_nil, gap, if_pos rfl]; simp⟩
  · exact ⟨joinTail sep r, by rw [join_append l _ sep h, gap, if_neg h]; simp [joinTail]⟩

theorem join_snoc (l : List (List UInt8)) (x : List UInt8) (sep : List UInt8) : join (l ++ [x]) sep = join l sep ++ gap l sep ++ x := by
  rcases Classical.em (l = []) with h | h
  · subst h
    rw [List.nil_append, join_one, join_nil, gap, if_pos rfl]; simp
  · rw [join_append l _ sep h, gap, if_neg h]; simp [joinTail]

def nms (ss : List St) (os : List Ov) : List (List UInt8) := (ss.map (nameOf os)).map (·.data.toList)
/-- how far the text has been read when k settings have been read -/
def pl (ss : List St) (os : List Ov) (k : Nat) : Nat := (join ((nms ss os).take k) [44, 32]).length

theorem joined_list (ss : List St) (os : List Ov) : (joined ss os).data.toList = join (nms ss os) [44, 32] := rfl
theorem joined_size (ss : List St) (os : List Ov) : (joined ss os).size = (join (nms ss os) [44, 32]).length := by
  rw [← joined_list, len_of]

theorem app_list (a b : ByteArray) : (a ++ b).data.toList = a.data.toList ++ b.data.toList := by
  rw [ByteArray.data_append, Array.toList_append]

theorem name_list (os : List Ov) (s : St) : (nameOf os s).data.toList = s.nm.data.toList ++ (sfx os s).data.toList := by
  unfold nameOf sfx
  cases s.sk
  · simp
  · cases hasName os s.nm
    · simp only [if_true, Bool.false_eq_true, if_false]; exact app_list _ _
    · simp only [if_true]; exact app_list _ _

theorem nms_at {ss : List St} {os : List Ov} {k : Nat} {s : St} (h : ss[k]? = some s) : (nms ss os)[k]? = some (s.nm.data.toList ++ (sfx os s).data.toList) := by
  unfold nms
  rw [List.getElem?_map, List.getElem?_map, h, ← name_list]
  rfl

theorem nms_len (ss : List St) (os : List Ov) : (nms ss os).length = ss.length := by simp [nms]

theorem take_ne {ss : List St} {os : List Ov} {k : Nat} (hk : k < ss.length) : ((nms ss os).take k = []) ↔ k = 0 := by
  rw [List.take_eq_nil_iff]
  constructor
  · rintro (h | h)
    · exact h
    · have := nms_len ss os
      rw [h] at this
      simp at this
      omega
  · intro h; exact Or.inl h

/-- the text, cut at setting k -/
theorem text_cut {ss : List St} {os : List Ov} {k : Nat} {s : St} (h : ss[k]? = some s) :
    ∃ t, (joined ss os).data.toList = join ((nms ss os).take k) [44, 32] ++ gap ((nms ss os).take k) [44, 32] ++ (s.nm.data.toList ++ (sfx os s).data.toList) ++ t := by
  have hk : k < (nms ss os).length := by
    rcases Nat.lt_or_ge k (nms ss os).length with h1 | h1
    · exact h1
    · have := nms_at (os := os) h; rw [List.getElem?_eq_none h1] at this; cases this
  have e : nms ss os = (nms ss os).take k ++ (s.nm.data.toList ++ (sfx os s).data.toList) :: (nms ss os).drop (k + 1) := by
    have := nms_at (os := os) h
    rw [List.getElem?_eq_getElem hk] at this
    injection this with this
    rw [← this, ← List.drop_eq_getElem_cons hk, List.take_append_drop]
  rw [joined_list]
  obtain ⟨t, ht⟩ := join_split ((nms ss os).take k) (s.nm.data.toList ++ (sfx os s).data.toList) ((nms ss os).drop (k + 1)) [44, 32]
  rw [← e] at ht
  exact ⟨t, ht⟩

theorem pl_step {ss : List St} {os : List Ov} {k : Nat} {s : St} (h : ss[k]? = some s) :
    pl ss os (k + 1) = pl ss os k + (gap ((nms ss os).take k) [44, 32]).length + s.nm.size + (sfx os s).size := by
  unfold pl
  rw [List.take_add_one, nms_at h]
  simp only [Option.toList_some]
  rw [join_snoc]
  simp only [List.length_append, len_of]
  omega

def sepB : ByteArray := ⟨#[44, 32]⟩

/-- all that the law asks at setting k -/
structure At (T : ByteArray) (a d n m : Nat) (x y : ByteArray) : Prop where
  room : a + d + n + m ≤ T.size
  gap : d = 0 ∨ (d = 2 ∧ Stands T a sepB)
  name : Stands T (a + d) x
  sfx : Stands T (a + d + n) y

theorem drop_stands {T : ByteArray} {A B C : List UInt8} {y : ByteArray} {n : Nat} (h : T.data.toList = A ++ (y.data.toList ++ C)) (hn : A.length = n) : Stands T n y := by
  refine ⟨C, ?_⟩
  rw [h, ← hn]
  exact List.drop_left

theorem at_k {ss : List St} {os : List Ov} {k : Nat} {s : St} (h : ss[k]? = some s) (hk : k < ss.length) :
    At (joined ss os) (pl ss os k) (if k = 0 then 0 else 2) s.nm.size (sfx os s).size s.nm (sfx os s) := by
  obtain ⟨t, ht⟩ := text_cut (os := os) h
  have hg : gap ((nms ss os).take k) [44, 32] = if k = 0 then [] else [44, 32] := by
    unfold Qxb6600233a.gap
    by_cases h0 : k = 0
    · rw [if_pos ((take_ne hk).2 h0), if_pos h0]
    · rw [if_neg (fun e => h0 ((take_ne hk).1 e)), if_neg h0]
  rw [hg] at ht
  have hsz : (joined ss os).size = (pl ss os k) + (if k = 0 then 0 else 2) + s.nm.size + (sfx os s).size + t.length := by
    rw [← len_of, ht]
    simp only [List.length_append, len_of, pl]
    split <;> simp <;> omega
  refine ⟨by rw [hsz]; omega, ?_, ?_, ?_⟩
  · by_cases h0 : k = 0
    · left; rw [if_pos h0]
    · right
      rw [if_neg h0]
      rw [if_neg h0] at ht
      exact ⟨rfl, drop_stands (A := join ((nms ss os).take k) [44, 32]) (B := []) (C := s.nm.data.toList ++ (sfx os s).data.toList ++ t) (by rw [ht]; simp [sepB]) rfl⟩
  · exact drop_stands (A := join ((nms ss os).take k) [44, 32] ++ (if k = 0 then [] else [44, 32])) (B := []) (C := (sfx os s).data.toList ++ t) (by rw [ht]; simp) (by rw [List.length_append, pl]; split <;> simp)
  · exact drop_stands (A := join ((nms ss os).take k) [44, 32] ++ (if k = 0 then [] else [44, 32]) ++ s.nm.data.toList) (B := []) (C := t) (by rw [ht]; simp) (by rw [List.length_append, List.length_append, pl, len_of]; split <;> simp)

theorem pl_next {ss : List St} {os : List Ov} {k : Nat} {s : St} (h : ss[k]? = some s) (hk : k < ss.length) :
    pl ss os (k + 1) = pl ss os k + (if k = 0 then 0 else 2) + s.nm.size + (sfx os s).size := by
  rw [pl_step h]
  have : (gap ((nms ss os).take k) [44, 32]).length = if k = 0 then 0 else 2 := by
    unfold Qxb6600233a.gap
    by_cases h0 : k = 0
    · rw [if_pos ((take_ne hk).2 h0), if_pos h0]; rfl
    · rw [if_neg (fun e => h0 ((take_ne hk).1 e)), if_neg h0]; rfl
  rw [this]

theorem pl_all (ss : List St) (os : List Ov) : pl ss os ss.length = (joined ss os).size := by
  rw [joined_size, pl, List.take_of_length_le (by rw [nms_len]; exact Nat.le_refl _)]

theorem sfx_size (os : List Ov) (s : St) : (sfx os s).size ≤ 34 := by
  unfold sfx
  cases s.sk
  · simp; decide
  · cases hasName os s.nm
    · simp; decide
    · simp; decide

theorem pl_le (ss : List St) (os : List Ov) : ∀ k, k ≤ ss.length → pl ss os k ≤ totS (ss.take k) := by
  intro k
  induction k with
  | zero => intro _; simp [pl, join_nil]
  | succ k ih =>
    intro hk
    have hlt : k < ss.length := by omega
    have hget : ss[k]? = some ss[k] := List.getElem?_eq_getElem hlt
    have := ih (by omega)
    have h34 := sfx_size os ss[k]
    rw [pl_next hget hlt, totS_step ss k _ hget, costS]
    split <;> omega

theorem joined_le (ss : List St) (os : List Ov) : (joined ss os).size ≤ totS ss := by
  rw [← pl_all]
  have := pl_le ss os ss.length (Nat.le_refl _)
  rw [List.take_length] at this
  exact this

theorem nm_le (ss : List St) : ∀ s ∈ ss, s.nm.size ≤ totS ss := by
  induction ss with
  | nil => intro s hs; cases hs
  | cons a r ih =>
    intro s hs
    have e : totS (a :: r) = costS a + totS r := by simp [totS]
    rw [e]
    rcases List.mem_cons.1 hs with rfl | hs
    · unfold costS; omega
    · have := ih s hs; omega
end Go.Proofs.Qxb6600233a
