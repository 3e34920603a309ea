import Derived.Test.Qxb6600209aFmtRange2
import Derived.Test.Qxb6600209aFmtRead
import Derived.Deep.OwnRows
namespace Go.Proofs.Qxb6600209aFmt
open Go.RowKit Go.Extern.Stop Go.Stop Go.Extern

theorem Tryf.info5 : (Tryf.prog.info? 5).map (fun i => (i.zero, i.size, i.bytes)) = some (some (.int .u8 0), 1, 1) := by kernel_rfl

theorem eql_slice_nil (P : Program) (t e : TypeId) (a : Option Addr) (l c : Nat) (h : P.underlying t = some (.slice e)) (w : World) : (binOp .eql t (.slice a l c) (.slice none 0 0)).run P w = .ok (.bool a.isNone) w := by
  simp only [binOp]
  simp [run_equal_slice_nil w t e a l c h]

set_option maxHeartbeats 400000 in
theorem clone_any (b off n c : Nat) (zs : List Int) (w : World) (hlim : n ≤ 1048576) (hb : 1 ≤ n → b < w.heap.size)
    (hc : ∀ j, j < n → w.cell? ⟨b, off + j, none⟩ = some (.int .u8 (zs.getD j 0))) :
    Calls Tryf.prog 7 #[.slice (some ⟨b, off, none⟩) n c] w fun e w' => e = .returned (.slice (some ⟨w.heap.size, 0, none⟩) n n) ∧
      w'.rowIs w.heap.size 5 n (fun j => .int .u8 (zs.getD j 0)) ∧ Below w.heap.size w w' ∧ w'.heap.size = w.heap.size + 1 := by
  have hmk := run_make_row' (P := Tryf.prog) 22 5 (.int .u8 0) 1 Tryf.underlying22 Tryf.info5 rfl .i64 .i64 n (by omega) (by omega)
  have hnil := eql_slice_nil Tryf.prog 22 5 (some ⟨b, off, none⟩) n c Tryf.underlying22
  go_enter Tryf.func7, Tryf.ntmps7
  go_wp2
  go_loopw [4] (fun i wr => ∃ k : Nat, k ≤ n ∧ i = .int .i64 k ∧ wr.rowIs w.heap.size 5 n (fun j => if j < k then .int .u8 (zs.getD j 0) else .int .u8 0) ∧ Hid (Below w.heap.size w wr) ∧ wr.heap.size = w.heap.size + 1) (fun i _ => n - (intOf i).toNat)
  case atStart => exact ⟨0, Nat.zero_le _, rfl, (World.rowIs_made w _ n 5).congr (fun j _ => by simp), (Below.refl _ _).alloc (Nat.le_refl _) _, by simp⟩
  case round =>
    obtain ⟨k, hk, rfl, hrow, HB, hsz⟩ := hrel
    by_cases hlt : k < n
    · have hx : wr.cell? ⟨b, off + k, none⟩ = some (.int .u8 (zs.getD k 0)) := (HB.out.cell (p := ⟨b, off + k, none⟩) (hb (by omega))).trans (hc k hlt)
      have hfz := hrow.frozen k
      have hcl := hrow.cell hlt
      have HR : Hid (wr.rowIs w.heap.size 5 n (fun j => if j < k then .int .u8 (zs.getD j 0) else .int .u8 0)) := hrow
      have HZ : Hid (wr.heap.size = w.heap.size + 1) := hsz
      clear hc hmk hrow hsz hb
      go_wp2
      go_roundw
      case rel =>
        refine ⟨k + 1, by omega, by go_num, ?_, HB.out.setCell (Nat.le_refl _) _, by have := HZ.out; simpa using this⟩
        refine (HR.out.set k _).congr (fun j _ => ?_)
        by_cases e : j = k
        · subst e; simp
        · have : (j < k + 1) ↔ (j < k) := by omega
          simp [e, this]
      case measure => simp [intOf]; omega
    · have hkn : k = n := by omega
      subst hkn
      go_wp2
      go_ret
      exact ⟨rfl, hrow.congr (fun j hj => by simp [hj]), HB.out, hsz⟩

set_option maxHeartbeats 400000 in
theorem clone_nil (w : World) : Calls Tryf.prog 7 #[.slice none 0 0] w fun e w' => e = .returned (.slice none 0 0) ∧ w' = w := by
  have hnil := eql_slice_nil Tryf.prog 22 5 none 0 0 Tryf.underlying22
  go_enter Tryf.func7, Tryf.ntmps7
  go_wp2
  go_ret
  exact ⟨rfl, rfl⟩

set_option maxHeartbeats 400000 in
theorem bytes6 (p : Option Addr) (n c : Nat) (w : World) (hn : n ≤ 9223372036854775807) :
    Calls Tryf.prog 6 #[.slice p n c] w fun e w' => e = .returned (.bool (decide (n ≤ 1048576))) ∧ w' = w := by
  go_enter Tryf.func6, Tryf.ntmps6
  go_wp2
  all_goals (go_ret; exact ⟨congrArg (fun b => Ending.returned (.bool b)) (by simp; omega), rfl⟩)

set_option maxRecDepth 100000 in
set_option maxHeartbeats 400000 in
theorem tokens_nil (w : World) : Calls Tryf.prog 9 #[.slice none 0 0] w fun e' w' => e' = .returned (.tuple #[.int .i64 0, .int .i64 0, .int .i64 0, .int .i64 0, .int .i64 0]) ∧ w' = w := by
  go_enter Tryf.func9, Tryf.ntmps9
  go_wp2
  go_loopw [2, 3, 4, 5, 6, 7, 8, 9] (fun c s0 e0 s1 e1 b i _ wr => c = .int .i64 0 ∧ s0 = .int .i64 0 ∧ e0 = .int .i64 0 ∧ s1 = .int .i64 0 ∧ e1 = .int .i64 0 ∧ b = .bool false ∧ i = .int .i64 0 ∧ wr = w) (fun _ _ _ _ _ _ _ _ _ => 0)
  case atStart => exact ⟨rfl, rfl, rfl, rfl, rfl, rfl, rfl, rfl⟩
  case round =>
    obtain ⟨rfl, rfl, rfl, rfl, rfl, rfl, rfl, rfl⟩ := hrel
    go_wp2
    exact bodyPost_ret (v := .tuple #[.int .i64 0, .int .i64 0, .int .i64 0, .int .i64 0, .int .i64 0]) (by simp [results, Tryf.results9, go_sem]) rfl ⟨rfl, rfl⟩

set_option maxRecDepth 100000 in
set_option maxHeartbeats 1000000 in
theorem range_nil (F : Interp) (w : World) (hF : F.answers w.tape) (hV : Vars w) :
    Calls Tryf.prog 14 #[.slice none 0 0] w fun e w' => (∃ x, e = .returned (.tuple #[.int .i64 0, .int .i64 0, .iface 60 (.pointer (some x))])) ∧ Below w.heap.size w w' := by
  have hcv : (convert 22 9 (.slice none 0 0)).run Tryf.prog w = .ok (.string ⟨([] : List UInt8).toArray⟩) w := run_convert_bytes_nil (P := Tryf.prog) w 22 5 Tryf.underlying22 Tryf.underlying5 0 0 9 Tryf.underlying9
  have hfl := fields_any [] w (by simp) hV
  have e0 : Lib.fieldsU [] = [] := by rw [fieldsU_FU, FU_nil]; rfl
  rw [e0] at hfl
  have HF := hide hfl
  clear hfl e0
  go_enter Tryf.func14, Tryf.ntmps14
  go_wp2_with fail
  refine (unhide HF).mono ?_
  rintro e w1 ⟨A, rfl, hA, hcells, hb1⟩
  have HW1 := hide hb1
  have hlw1 := hb1.size
  obtain ⟨s1, s2, hop⟩ := Tryf.opNil_113w (w1.alloc (.cells #[.iface 22 (.slice none 0 0)] 20))
  have HOP := hide hop
  clear hcells hb1 hcv hop
  go_wp2_with fail
  refine (errorf_q F _ s1 s2 (.slice none 0 0) _ _ ?_ ?_ ?_ ?_).mono ?_
  · exact answers_tape (w := w) hF (by exact HW1.out.tape)
  · intro w; kernel_rfl
  · go_simp
  · exact HOP.out
  rintro e w2 ⟨⟨x, rfl⟩, txt, rfl⟩
  go_wp2_with fail
  go_ret3
  exact ⟨⟨_, rfl⟩, ((HW1.out.alloc hlw1 _).alloc (by simp; omega) _).drew⟩

/-- ZZParseRange hands on -/
theorem zz_of (p : Option Addr) (n c : Nat) (w : World) (a b : Int) (x : Value) (Q : World → Prop) (h : Calls Tryf.prog 14 #[.slice p n c] w fun e w' => e = .returned (.tuple #[.int .i64 a, .int .i64 b, x]) ∧ Q w') :
    Calls Tryf.prog 8 #[.slice p n c] w fun e w' => e = .returned (.tuple #[.int .i64 a, .int .i64 b, x]) ∧ Q w' := by
  have H := hide h
  clear h
  go_enter Tryf.func8, Tryf.ntmps8
  go_wp2_with fail
  refine (unhide H).mono ?_
  rintro e w1 ⟨rfl, hq⟩
  go_wp2_with fail
  go_ret3
  exact ⟨rfl, hq⟩
end Go.Proofs.Qxb6600209aFmt
