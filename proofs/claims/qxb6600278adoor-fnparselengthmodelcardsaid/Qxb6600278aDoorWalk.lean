import Derived.Test.Qxb6600278aDoorRows
import Derived.Test.Qxb6600278aDoorPlain
import Derived.Test.Qxb6600278aDoorShelf
import Derived.Lib.AtoiErrMem
import Derived.WalkKit
import Derived.WalkSpells
import Derived.WalkLawsBesides
import Derived.Deep.QuietTactic
import Derived.BigQuiet
namespace Go.Proofs.Qxb6600278aDoor
open Go.RowKit

theorem hide {p : Prop} (h : p) : Hid p := h
theorem unhide {p : Prop} (h : Hid p) : p := h

theorem len_of (s : ByteArray) : s.data.toList.length = s.size := Array.length_toList

theorem byte_at (s : ByteArray) (k : Nat) (h : k < s.size) : s.data.toList.getD k 0 = s[k] := by
  have hk : k < s.data.toList.length := by rw [len_of]; exact h
  rw [List.getD_eq_getElem?_getD, List.getElem?_eq_getElem hk, Option.getD_some, Array.getElem_toList]
  rfl

def digAt (s : ByteArray) (j : Nat) : Prop := isDig (s.data.toList.getD j 0)

theorem all_dig (s : ByteArray) (h : ∀ j, j < s.size → digAt s j) : ∀ c ∈ s.data.toList, isDig c := by
  intro c hc
  obtain ⟨j, hj, rfl⟩ := List.getElem_of_mem hc
  have := h j (by rw [← len_of]; exact hj)
  unfold digAt at this
  rw [List.getD_eq_getElem?_getD, List.getElem?_eq_getElem hj, Option.getD_some] at this
  exact this

theorem ne_nil {s : ByteArray} (h0 : s.size ≠ 0) : (s.toList == []) = false := by
  rw [ByteArray.toList_eq]
  simp only [beq_eq_false_iff_ne, ne_eq]
  intro hh
  have := len_of s
  rw [hh] at this
  exact h0 this.symm

set_option maxHeartbeats 400000 in
theorem bytes8 (s : ByteArray) (w : World) (hn : s.size ≤ 9223372036854775807) :
    Calls Tryd.prog 8 #[.string s] w fun e w' => e = .returned (.bool (decide (s.size ≤ 1048576))) ∧ w' = w := by
  go_enter Tryd.func8, Tryd.ntmps8
  go_wp2
  all_goals (go_ret; exact ⟨congrArg (fun b => Ending.returned (.bool b)) (by simp; omega), rfl⟩)

set_option maxRecDepth 100000 in
set_option maxHeartbeats 1000000 in
/-- not digits alone (or nothing at all): (0, false) -/
theorem plen_bad (s : ByteArray) (w : World) (hn : s.size ≤ 1048576) (h : s.size = 0 ∨ ∃ j, j < s.size ∧ ¬ digAt s j) :
    Calls Tryd.prog 9 #[.string s] w fun e w' => e = .returned (.tuple #[.int .i64 0, .bool false]) ∧ w' = w := by
  by_cases h0 : s.size = 0
  · have hs : s = ⟨#[]⟩ := by
      obtain ⟨⟨l⟩⟩ := s
      simp [ByteArray.size] at h0
      subst h0; rfl
    subst hs
    go_enter Tryd.func9, Tryd.ntmps9
    go_wp2
    go_ret2
    exact ⟨rfl, rfl⟩
  · have hne := ne_nil h0
    have hbad : ∃ j, j < s.size ∧ ¬ digAt s j := by rcases h with h | h; exact absurd h h0; exact h
    have HBD := hide hbad
    clear h hbad
    go_enter Tryd.func9, Tryd.ntmps9
    go_wp2
    go_loop [4] (fun i => ∃ k : Nat, k ≤ s.size ∧ i = .int .i64 k ∧ Hid (∀ j, j < k → digAt s j)) (fun i => s.size - (intOf i).toNat)
    case atStart => exact ⟨0, Nat.zero_le _, rfl, fun j hj => absurd hj (Nat.not_lt_zero _)⟩
    case round =>
      obtain ⟨k, hk, rfl, HD⟩ := hrel
      by_cases hlt : k < s.size
      · have hb := byte_at s k hlt
        by_cases hd : digAt s k
        · have hd' := hd
          unfold digAt isDig at hd'
          rw [hb] at hd'
          obtain ⟨d1, d2⟩ := hd'
          have e1 : (48 : Int) ≤ (s[k].toNat : Int) := by omega
          have e2 : (s[k].toNat : Int) ≤ 57 := by omega
          have HDK := hide hd
          clear hd hb d1 d2
          go_wp2
          go_round
          case rel =>
            refine ⟨k + 1, by omega, by go_num, fun j hj => ?_⟩
            by_cases e : j = k
            · subst e; exact HDK.out
            · exact HD.out j (by omega)
          case measure => simp [intOf]; omega
        · unfold digAt isDig at hd
          rw [hb] at hd
          clear hb
          by_cases e1 : (s[k].toNat : Int) < 48
          · clear hd
            go_wp2
            go_ret2
            exact ⟨rfl, rfl⟩
          · have e2 : (57 : Int) < (s[k].toNat : Int) := by omega
            clear hd
            go_wp2
            go_ret2
            exact ⟨rfl, rfl⟩
      · obtain ⟨j, hj, hjd⟩ := HBD.out
        exact absurd (HD.out j (by omega)) hjd
end Go.Proofs.Qxb6600278aDoor
