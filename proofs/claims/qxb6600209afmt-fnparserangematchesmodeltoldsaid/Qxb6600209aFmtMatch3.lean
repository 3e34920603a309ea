import Derived.Test.Qxb6600209aFmtMatch2
namespace Go.Proofs.Qxb6600209aFmt
open Go.RowKit Go.Extern.Stop Go.Stop Go.Extern

set_option maxHeartbeats 400000 in
theorem clone_empty (x : Addr) (c : Nat) (w : World) :
    Calls Tryf.prog 7 #[.slice (some x) 0 c] w fun e w' => e = .returned (.slice (some ⟨w.heap.size, 0, none⟩) 0 0) ∧ w' = w.alloc (.cells (madeCells #[.int .u8 0] 0) 5) := by
  have hmk := run_make_row' (P := Tryf.prog) 22 5 (.int .u8 0) 1 Tryf.underlying22 Tryf.info5 rfl .i64 .i64 0 (by omega) (by omega)
  simp only [Int.natCast_zero] at hmk
  have hnil := eql_slice_nil Tryf.prog 22 5 (some x) 0 c Tryf.underlying22
  go_enter Tryf.func7, Tryf.ntmps7
  go_wp2
  go_loopw [4] (fun i wr => i = .int .i64 0 ∧ wr = w.alloc (.cells (madeCells #[.int .u8 0] 0) 5)) (fun _ _ => 0)
  case atStart => exact ⟨rfl, rfl⟩
  case round =>
    obtain ⟨rfl, rfl⟩ := hrel
    go_wp2
    go_ret
    exact ⟨rfl, rfl⟩

set_option maxRecDepth 100000 in
set_option maxHeartbeats 1000000 in
/-- a slice of no element that is not nil, at whatever address -/
theorem match_empty (F : Interp) (x : Addr) (c : Nat) (w : World) (hF : F.answers w.tape) (hV : Vars w) :
    Calls Tryf.prog 3 #[.slice (some x) 0 c] w fun e w' => e = .returned (.bool true) ∧ Below w.heap.size w w' := by
  have hby := bytes6 (some x) 0 c w (by omega)
  rw [decide_eq_true (by omega)] at hby
  have HBY := hide hby
  have HCL := hide (clone_empty x c w)
  have HV := hide hV
  clear hby
  go_enter Tryf.func3, Tryf.ntmps3
  go_wp2_with (first | (go_at_call 6; refine (unhide HBY).mono ?_; rintro e w' ⟨rfl, hw⟩; subst w') | fail)
  refine (unhide HCL).mono ?_
  rintro e w1 ⟨rfl, hw1⟩
  have HW1 : Hid (Below w.heap.size w w1) := by subst hw1; exact (Below.refl _ _).alloc (Nat.le_refl _) _
  have hgl1 : w.heap.size < w1.heap.size := by subst hw1; simp
  clear hw1
  have HBT1 : Hid (Bts w1 w.heap.size []) := fun i hi => absurd hi (Nat.not_lt_zero _)
  have e0 : Lib.fieldsU [] = [] := by rw [fieldsU_FU, FU_nil]; rfl
  have HE := hide e0
  clear e0
  go_wp2_with fail
  refine (zz_err _ _ _ _ _ (range_count F w.heap.size 0 [] w1 (answers_tape hF HW1.out.tape) (by simp) (by rw [HE.out]; simp) HBT1.out hgl1 (HV.out.below HW1.out))).mono ?_
  rintro e w2 ⟨⟨y, rfl⟩, hb2⟩
  have HBT2 := hide (HBT1.out.below hgl1 hb2)
  have HW2 : Hid (Below w.heap.size w w2) := HW1.out.trans (hb2.mono (by omega))
  clear hb2
  go_wp2_with fail
  refine (tokens_any w.heap.size 0 [] w2 (by simp) HBT2.out).mono ?_
  rintro e w3 ⟨⟨C, S0, E0, S1, E1, rfl, hC, hlen, _⟩, hw⟩
  subst w3
  rw [HE.out] at hlen
  have k2 : ((C : Int) != 2) = true := by simp at hlen ⊢; omega
  clear hlen
  go_wp2_with fail
  go_ret
  exact ⟨rfl, HW2.out⟩
end Go.Proofs.Qxb6600209aFmt
