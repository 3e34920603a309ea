import Derived.Test.Qxb6600233aTo
import Derived.Test.Qxb6600233aShelf
import Derived.Deep.DeepAppendRoom
import Derived.Maps.AppendAt
import Derived.OwnWalk
namespace Go.Proofs.Qxb6600233a
open Go.RowKit
set_option linter.unusedVariables false

theorem Try.info9 : (Try.prog.info? 9).map (fun i => (i.zero, i.size, i.bytes)) = some (some (.string ⟨#[]⟩), 1, 16) := by kernel_rfl

/-- some overridden setting bears this name -/
def hasName (os : List Ov) (x : ByteArray) : Bool := os.any fun o => o.nm.toList == x.toList

set_option maxHeartbeats 400000 in
theorem pred25 (n v x : ByteArray) (B : Nat) (w : World) (hB : B < w.heap.size) (hcell : w.cell? ⟨B, 0, none⟩ = some (.string x)) :
    Calls Try.prog 25 #[.agg #[.string n, .string v], .pointer (some ⟨B, 0, none⟩)] w fun e w' => e = .returned (.bool (n.toList == x.toList)) ∧ w' = w.alloc (.cells #[.string n, .string v] 53) := by
  have hne : B ≠ w.heap.size := by omega
  go_enter Try.func25, Try.ntmps25
  go_wp2
  go_ret
  exact ⟨rfl, rfl⟩

theorem has_take (os : List Ov) (x : ByteArray) (k : Nat) (o : Ov) (h : os[k]? = some o) : hasName (os.take (k + 1)) x = (hasName (os.take k) x || (o.nm.toList == x.toList)) := by
  unfold hasName
  rw [List.take_add_one, h]
  simp

theorem has_of (os : List Ov) (x : ByteArray) (k : Nat) (h : hasName (os.take k) x = true) : hasName os x = true := by
  unfold hasName at h ⊢
  rw [List.any_eq_true] at h ⊢
  obtain ⟨o, ho, hx⟩ := h
  exact ⟨o, List.mem_of_mem_take ho, hx⟩

def IdxEnd (b : Bool) (e : Ending) : Prop := ∃ r : Int, e = .returned (.int .i64 r) ∧ decide (0 ≤ r) = b ∧ -1 ≤ r

set_option maxRecDepth 100000 in
set_option maxHeartbeats 1000000 in
theorem idx28 (p : Option Addr) (os : List Ov) (c B : Nat) (x : ByteArray) (w : World) (hn : os.length ≤ 1048576) (hO : OvsAt w p os) (hB : B < w.heap.size) (hcell : w.cell? ⟨B, 0, none⟩ = some (.string x)) :
    Calls Try.prog 28 #[.slice p os.length c, .func (.func 25) #[] #[.pointer (some ⟨B, 0, none⟩)]] w fun e w' => IdxEnd (hasName os x) e ∧ Below w.heap.size w w' := by
  have HO := hide hO
  have HC := hide hcell
  clear hO hcell
  go_enter Try.func28, Try.ntmps28
  go_wp2
  go_loopw [5, 8] (fun _ i wr => ∃ k : Nat, k ≤ os.length ∧ i = .int .i64 k ∧ Hid (Below w.heap.size w wr) ∧ Hid (hasName (os.take k) x = false)) (fun _ i _ => os.length - (intOf i).toNat)
  case atStart => exact ⟨0, Nat.zero_le _, rfl, Below.refl _ _, (rfl : hasName (os.take 0) x = false)⟩
  case round =>
    obtain ⟨k, hk, rfl, HB, HF⟩ := hrel
    by_cases hlt : k < os.length
    · have hget : os[k]? = some os[k] := List.getElem?_eq_getElem hlt
      obtain ⟨b, off, rfl, c0, c1⟩ := (HO.out.below HB.out) k os[k] hget
      have cB : wr.cell? ⟨B, 0, none⟩ = some (.string x) := (HB.out.cell (p := ⟨B, 0, none⟩) hB).trans HC.out
      have hBW : B < wr.heap.size := Nat.lt_of_lt_of_le hB HB.out.size
      have HT := hide (has_take os x k os[k] hget)
      generalize os[k] = s at c0 c1 HT hget
      generalize hy : s.nm = y at c0 HT
      generalize s.vl = v at c1
      clear hget hy
      have hcall := pred25 y v x B wr hBW cB
      by_cases heq : (y.toList == x.toList) = true
      · rw [heq] at hcall HT
        have HCL := hide hcall
        clear hcall cB heq
        go_wp2_with (go_at_call 25; refine HCL.out.mono ?_; rintro e w' ⟨rfl, rfl⟩)
        go_ret
        refine ⟨⟨k, rfl, ?_, by omega⟩, HB.out.alloc HB.out.size _⟩
        rw [has_of os x (k + 1) (by rw [HT.out]; simp)]
        simp
      · have heq' : (y.toList == x.toList) = false := by simpa using heq
        rw [heq'] at hcall HT
        have HCL := hide hcall
        clear hcall cB heq heq'
        go_wp2_with (go_at_call 25; refine HCL.out.mono ?_; rintro e w' ⟨rfl, rfl⟩)
        go_roundw
        case rel => exact ⟨k + 1, by omega, by go_num, HB.out.alloc HB.out.size _, by rw [HT.out, HF.out]; exact rfl⟩
        case measure => simp [intOf]; omega
    · have hkt : os.take k = os := List.take_of_length_le (by omega)
      rw [hkt] at HF
      go_wp2
      go_ret
      refine ⟨⟨-1, rfl, ?_, by omega⟩, HB.out⟩
      rw [HF.out]
      simp

theorem has24 (p : Option Addr) (os : List Ov) (c B : Nat) (x : ByteArray) (w : World) (hn : os.length ≤ 1048576) (hO : OvsAt w p os) (hB : B < w.heap.size) (hcell : w.cell? ⟨B, 0, none⟩ = some (.string x)) :
    Calls Try.prog 24 #[.slice p os.length c, .func (.func 25) #[] #[.pointer (some ⟨B, 0, none⟩)]] w fun e w' => e = .returned (.bool (hasName os x)) ∧ Below w.heap.size w w' := by
  have HC := hide (idx28 p os c B x w hn hO hB hcell)
  clear hO hcell
  go_enter Try.func24, Try.ntmps24
  go_wp2_with (first | (go_at_call 28; refine HC.out.mono ?_; rintro e w1 ⟨⟨r, rfl, hr, hr1⟩, hb⟩) | fail)
  all_goals
    go_ret
    exact ⟨congrArg (fun b => Ending.returned (.bool b)) (by rw [← hr]), hb⟩
end Go.Proofs.Qxb6600233a
