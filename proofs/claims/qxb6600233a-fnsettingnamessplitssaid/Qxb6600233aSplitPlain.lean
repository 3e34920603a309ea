import Derived.Test.Qxb6600233aPlain
namespace Go.Proofs.Qxb6600233a
open Go.Lib
set_option linter.unusedVariables false

theorem totS_append (a b : List St) : totS (a ++ b) = totS a + totS b := by simp [totS]

theorem ba_ext {a b : ByteArray} (h : a.data.toList = b.data.toList) : a = b := by
  obtain ⟨⟨a⟩⟩ := a
  obtain ⟨⟨b⟩⟩ := b
  simp at h
  rw [h]

theorem nms_append (a b : List St) (os : List Ov) : nms (a ++ b) os = nms a os ++ nms b os := by simp [nms]

/-- both not empty: left, the separator, right -/
theorem joined_append (a b : List St) (os : List Ov) (ha : a.length ≠ 0) (hb : b.length ≠ 0) : joined (a ++ b) os = joined a os ++ sepB ++ joined b os := by
  apply ba_ext
  rw [app_list, app_list, joined_list, joined_list, joined_list, nms_append]
  have h1 : nms a os ≠ [] := fun h => ha (by rw [← nms_len a os, h]; rfl)
  have h2 : nms b os ≠ [] := fun h => hb (by rw [← nms_len b os, h]; rfl)
  rw [join_append _ _ _ h1]
  match hn : nms b os, h2 with
  | x :: r, _ =>
    rw [join_cons]
    simp [joinTail, sepB]

theorem joined_left (a b : List St) (os : List Ov) (ha : a.length = 0) : joined (a ++ b) os = joined b os := by
  rw [List.length_eq_zero_iff.1 ha, List.nil_append]
theorem joined_right (a b : List St) (os : List Ov) (hb : b.length = 0) : joined (a ++ b) os = joined a os := by
  rw [List.length_eq_zero_iff.1 hb, List.append_nil]

theorem joined_len (ss : List St) (os : List Ov) (h : totS ss ≤ 1048576) : (join ((ss.map (nameOf os)).map (·.data.toList)) [44, 32]).length ≤ 140737488355328 := by
  have := joined_le ss os
  rw [joined_size] at this
  unfold nms at this
  omega
end Go.Proofs.Qxb6600233a
