import Derived.Test.Qxb6600233aJoin
namespace Go.Proofs.Qxb6600233a
open Go.RowKit
set_option linter.unusedVariables false

theorem len_of (s : ByteArray) : s.data.toList.length = s.size := Array.length_toList
theorem byte_at (s : ByteArray) (k : Nat) (h : k < s.size) : s.data.toList[k]? = some s[k] := by
  have hk : k < s.data.toList.length := by rw [len_of]; exact h
  rw [List.getElem?_eq_getElem hk, Array.getElem_toList]
  rfl

/-- t stands in s at pos -/
def Stands (s : ByteArray) (pos : Nat) (t : ByteArray) : Prop := ∃ r, s.data.toList.drop pos = t.data.toList ++ r

theorem Stands.byte {s t : ByteArray} {pos : Nat} (h : Stands s pos t) (hp : pos + t.size ≤ s.size) (k : Nat) (hk : k < t.size) (h1 : pos + k < s.size) : s[pos + k] = t[k] := by
  obtain ⟨r, hr⟩ := h
  have e := byte_at s (pos + k) h1
  have e2 := byte_at t k hk
  rw [← List.getElem?_drop, hr, List.getElem?_append_left (by rw [len_of]; exact hk), e2] at e
  injection e with e
  exact e.symm

theorem zn15 (p p2 : Option Addr) (n c m c2 : Nat) (w : World) (x : Value) (Q : World → Prop) (h : Calls Try.prog 21 #[.slice p n c, .slice p2 m c2] w fun e w' => e = .returned x ∧ Q w') :
    Calls Try.prog 15 #[.slice p n c, .slice p2 m c2] w fun e w' => e = .returned x ∧ Q w' := by
  have H := hide h
  clear h
  go_enter Try.func15, Try.ntmps15
  go_wp2_with fail
  refine (unhide H).mono ?_
  rintro e w1 ⟨rfl, hq⟩
  go_wp2
  go_ret
  exact ⟨rfl, hq⟩

set_option maxRecDepth 100000 in
set_option maxHeartbeats 1000000 in
theorem at17 (s t : ByteArray) (pos : Nat) (w : World) (hs : s.size ≤ 1073741824) (hp : pos + t.size ≤ s.size) (h : Stands s pos t) :
    Calls Try.prog 17 #[.string s, .int .i64 pos, .string t] w fun e w' => e = .returned (.bool true) ∧ ∃ q, w' = w.drewN q := by
  have H := hide h
  clear h
  go_enter Try.func17, Try.ntmps17
  go_wp2
  go_loopw [7] (fun i wr => ∃ k : Nat, k ≤ t.size ∧ i = .int .i64 k ∧ ∃ q, wr = w.drewN q) (fun i _ => t.size - (intOf i).toNat)
  case atStart => exact ⟨0, Nat.zero_le _, rfl, 0, rfl⟩
  case round =>
    obtain ⟨k, hk, rfl, q, rfl⟩ := hrel
    by_cases hlt : k < t.size
    · obtain ⟨j, hj⟩ : ∃ j, pos + k = j := ⟨_, rfl⟩
      have hjs : j < s.size := by omega
      have hb : s[j] = t[k] := by
        have := H.out.byte hp k hlt (by omega)
        subst hj
        exact this
      have hpk : (pos : Int) + (k : Int) = (j : Int) := by omega
      have HBE : Hid ((((s[j]'hjs).toNat : Int) != ((t[k]'hlt).toNat : Int)) = false) := by rw [hb]; simp; exact trivial
      clear hj hb
      go_wp2_with fail
      go_quiet (fail)
      rw [drewN_drewN, HBE.out]
      go_wp2
      go_roundw
      case rel => exact ⟨k + 1, by omega, by go_num, _, rfl⟩
      case measure => simp [intOf]; omega
    · go_wp2
      go_ret
      exact ⟨rfl, q, rfl⟩
end Go.Proofs.Qxb6600233a
