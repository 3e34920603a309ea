import Derived.Test.Qxb6001696aFmtRows
import Derived.WalkKit
import Derived.WalkSpells
import Derived.WalkLawsBesides
import Derived.Deep.OwnRows
import Derived.Deep.QuietTactic
import Derived.BigQuiet
namespace Go.Proofs.Qxb6001696aFmt
open Go.RowKit

theorem Tryf.info3 : (Tryf.prog.info? 3).map (fun i => (i.zero, i.size, i.bytes)) = some (some (.int .i64 0), 1, 8) := by kernel_rfl

theorem drewN_below {B : Nat} {a w : World} (h : Below B a w) (n : Nat) : Below B a (w.drewN n) := h.trans ⟨rfl, rfl, rfl, Nat.le_refl _, fun _ _ => rfl⟩

theorem eql_slice_nil (P : Program) (t e : TypeId) (a : Option Addr) (l c : Nat) (h : P.underlying t = some (.slice e)) (w : World) : (binOp .eql t (.slice a l c) (.slice none 0 0)).run P w = .ok (.bool a.isNone) w := by
  simp only [binOp]
  simp [run_equal_slice_nil w t e a l c h]

set_option maxHeartbeats 400000 in
theorem clone_any (b off n c : Nat) (zs : List Int) (w : World) (hlim : n ≤ 1048576) (hb : b < w.heap.size)
    (hc : ∀ j, j < n → w.cell? ⟨b, off + j, none⟩ = some (.int .i64 (zs.getD j 0))) :
    Calls Tryf.prog 7 #[.slice (some ⟨b, off, none⟩) n c] w fun e w' => e = .returned (.slice (some ⟨w.heap.size, 0, none⟩) n n) ∧
      w'.rowIs w.heap.size 3 n (fun j => .int .i64 (zs.getD j 0)) ∧ Below w.heap.size w w' ∧ w'.heap.size = w.heap.size + 1 := by
  have hmk := run_make_row' (P := Tryf.prog) 22 3 (.int .i64 0) 8 Tryf.underlying22 Tryf.info3 rfl .i64 .i64 n (by omega) (by omega)
  have hnil := eql_slice_nil Tryf.prog 22 3 (some ⟨b, off, none⟩) n c Tryf.underlying22
  go_enter Tryf.func7, Tryf.ntmps7
  go_wp2
  go_loopw [4] (fun i wr => ∃ k : Nat, k ≤ n ∧ i = .int .i64 k ∧ wr.rowIs w.heap.size 3 n (fun j => if j < k then .int .i64 (zs.getD j 0) else .int .i64 0) ∧ Hid (Below w.heap.size w wr) ∧ wr.heap.size = w.heap.size + 1) (fun i _ => n - (intOf i).toNat)
  case atStart => exact ⟨0, Nat.zero_le _, rfl, (World.rowIs_made w _ n 3).congr (fun j _ => by simp), (Below.refl _ _).alloc (Nat.le_refl _) _, by simp⟩
  case round =>
    obtain ⟨k, hk, rfl, hrow, HB, hsz⟩ := hrel
    by_cases hlt : k < n
    · have hx : wr.cell? ⟨b, off + k, none⟩ = some (.int .i64 (zs.getD k 0)) := (HB.out.cell (p := ⟨b, off + k, none⟩) hb).trans (hc k hlt)
      have hfz := hrow.frozen k
      have hcl := hrow.cell hlt
      have HR : Hid (wr.rowIs w.heap.size 3 n (fun j => if j < k then .int .i64 (zs.getD j 0) else .int .i64 0)) := hrow
      have HZ : Hid (wr.heap.size = w.heap.size + 1) := hsz
      clear hc hmk hrow hsz
      go_wp2
      go_roundw
      case rel =>
        refine ⟨k + 1, by omega, by go_num, ?_, HB.out.setCell (Nat.le_refl _) _, by have := HZ.out; simpa using this⟩
        refine (HR.out.set k _).congr (fun j _ => ?_)
        by_cases e : j = k
        · subst e; simp
        · have : (j < k + 1) ↔ (j < k) := by omega
          simp [e, this]
      case measure => simp [intOf]; omega
    · have hkn : k = n := by omega
      subst hkn
      go_wp2
      go_ret
      exact ⟨rfl, hrow.congr (fun j hj => by simp [hj]), HB.out, hsz⟩

set_option maxHeartbeats 400000 in
theorem rising_any (b n c : Nat) (zs : List Int) (w : World) (hlim : n ≤ 1048576) 
    (hc : ∀ j, j < n → w.cell? ⟨b, j, none⟩ = some (.int .i64 (zs.getD j 0))) :
    Calls Tryf.prog 10 #[.slice (some ⟨b, 0, none⟩) n c] w fun e w' => (∃ r : Bool, e = .returned (.bool r) ∧ (r = true → ∀ j, j + 1 < n → zs.getD j 0 < zs.getD (j + 1) 0)) ∧ ∃ q, w' = w.drewN q := by
  go_enter Tryf.func10, Tryf.ntmps10
  go_wp2
  go_loopw [3] (fun i wr => ∃ k : Nat, 1 ≤ k ∧ (k ≤ n ∨ k = 1) ∧ i = .int .i64 k ∧ (∃ q, wr = w.drewN q) ∧ Hid (∀ j, j + 1 < k → zs.getD j 0 < zs.getD (j + 1) 0)) (fun i _ => n + 1 - (intOf i).toNat)
  case atStart => exact ⟨1, Nat.le_refl _, Or.inr rfl, rfl, ⟨0, rfl⟩, fun j hj => by omega⟩
  case round =>
    obtain ⟨k, hk1, hk, rfl, ⟨q, rfl⟩, HS⟩ := hrel
    by_cases hlt : k < n
    · obtain ⟨m, rfl⟩ : ∃ m, k = m + 1 := ⟨k - 1, by omega⟩
      have h0 := hc m (by omega)
      have h1 := hc (m + 1) hlt
      clear hc
      generalize hx : zs.getD m 0 = x at h0
      generalize hy : zs.getD (m + 1) 0 = y at h1
      have HX : Hid (zs.getD m 0 = x) := hx
      have HY : Hid (zs.getD (m + 1) 0 = y) := hy
      clear hx hy
      have b1 : (0 : Int) ≤ (m : Int) := by omega
      have b2 : (m : Int) < (n : Int) := by omega
      have b3 : (m : Int) + 1 < (n : Int) := by omega
      by_cases hxy : y ≤ x
      · go_wp2
        go_quiet (fail)
        go_wp2
        go_ret
        exact ⟨⟨false, rfl, fun h => by cases h⟩, q + nq, by simp⟩
      · go_wp2
        go_quiet (fail)
        go_wp2
        go_roundw
        case rel =>
          refine ⟨m + 2, by omega, by omega, by go_num, ⟨_, rfl⟩, fun j hj => ?_⟩
          by_cases e : j = m
          · subst e; rw [HX.out, HY.out]; exact hxy
          · exact HS.out j (by omega)
        case measure => simp [intOf]; omega
    · go_wp2
      go_ret
      refine ⟨⟨true, rfl, fun _ j hj => HS.out j (by omega)⟩, ⟨_, rfl⟩⟩
end Go.Proofs.Qxb6001696aFmt
