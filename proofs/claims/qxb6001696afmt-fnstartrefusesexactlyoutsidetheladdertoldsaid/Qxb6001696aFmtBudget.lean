import Derived.Test.Qxb6001696aFmtClone
namespace Go.Proofs.Qxb6001696aFmt
open Go.RowKit

theorem Tryf.info38 : (Tryf.prog.info? 38).map (fun i => (i.zero, i.size, i.bytes)) = some (some (.agg #[.string ⟨#[]⟩, .int .i64 0]), 2, 24) := by kernel_rfl

def tierCell (zs : List Int) (i : Nat) : Value := if i % 2 = 0 then .string ⟨#[]⟩ else .int .i64 (zs.getD (i / 2) 0)

theorem make_tiers (n : Nat) (hlim : n ≤ 1048576) (w : World) :
    (Instr.makeSlice 25 (.int .i64 (n : Int)) (.int .i64 (n : Int))).run Tryf.prog w = .ok (.slice (some ⟨w.heap.size, 0, none⟩) n n) (w.alloc (.cells (madeCells #[.string ⟨#[]⟩, .int .i64 0] (n * 2)) 38)) := by
  obtain ⟨i, hi, hzz⟩ := Option.map_eq_some_iff.1 Tryf.info38
  simp only [Prod.mk.injEq] at hzz
  obtain ⟨hz, hs, hb⟩ := hzz
  have hr := run_make (P := Tryf.prog) w 25 38 i _ Tryf.underlying25 hi hz .i64 .i64 n n (by omega) (Int.le_refl _) (by rw [hb]; omega) (by omega)
  simp only [Int.toNat_natCast, hs] at hr
  exact hr

theorem made_tiers (w : World) (n : Nat) : (w.alloc (.cells (madeCells #[.string ⟨#[]⟩, .int .i64 0] (n * 2)) 38)).rowIs w.heap.size 38 (n * 2) (fun i => if i % 2 = 0 then .string ⟨#[]⟩ else .int .i64 0) :=
  ⟨_, Go.Deep.blk_alloc_new _ _, size_madeCells _ _, fun i hi => by
    simp [madeCells, hi]
    rcases Nat.mod_two_eq_zero_or_one i with h | h <;> simp [h]⟩

set_option maxHeartbeats 400000 in
theorem budget_any (b n : Nat) (zs : List Int) (w : World) (hlim : n ≤ 1048576) (hb : b < w.heap.size)
    (hc : ∀ j, j < n → w.cell? ⟨b, j, none⟩ = some (.int .i64 (zs.getD j 0))) :
    Calls Tryf.prog 8 #[.slice (some ⟨b, 0, none⟩) n n] w fun e w' => e = .returned (.agg #[.int .i64 0, .int .i64 0, .int .i64 0, .slice (some ⟨w.heap.size + 1, 0, none⟩) n n]) ∧
      w'.rowIs (w.heap.size + 1) 38 (n * 2) (tierCell zs) ∧ Below w.heap.size w w' ∧ w'.heap.size = w.heap.size + 2 := by
  have hmk := make_tiers n hlim
  go_enter Tryf.func8, Tryf.ntmps8
  go_wp2
  go_loopw [4] (fun i wr => ∃ k : Nat, k ≤ n ∧ i = .int .i64 k ∧ wr.rowIs (w.heap.size + 1) 38 (n * 2) (fun j => if j < k * 2 then tierCell zs j else if j % 2 = 0 then .string ⟨#[]⟩ else .int .i64 0) ∧ Hid (Below w.heap.size w wr) ∧ wr.heap.size = w.heap.size + 2 ∧ Hid (wr.rowIs w.heap.size 27 4 (fun i => if i = 3 then .slice none 0 0 else .int .i64 0))) (fun i _ => n - (intOf i).toNat)
  case atStart =>
    refine ⟨0, Nat.zero_le _, rfl, ?_, (((Below.refl _ _).alloc (Nat.le_refl _) _).alloc (by simp) _), by simp, ?_⟩
    · have := made_tiers (w.alloc (.cells #[.int .i64 0, .int .i64 0, .int .i64 0, .slice none 0 0] 27)) n
      simp only [World.size_alloc] at this
      exact this.congr (fun j _ => by simp)
    · refine World.rowIs.alloc ?_ _
      exact World.rowIs_alloc w #[.int .i64 0, .int .i64 0, .int .i64 0, .slice none 0 0] 27 _ (fun i hi => by
        match i, hi with
        | 0, _ => rfl
        | 1, _ => rfl
        | 2, _ => rfl
        | 3, _ => rfl)
  case round =>
    obtain ⟨k, hk, rfl, hrow, HB, hsz, HR0⟩ := hrel
    by_cases hlt : k < n
    · have hx : wr.cell? ⟨b, k, none⟩ = some (.int .i64 (zs.getD k 0)) := (HB.out.cell (p := ⟨b, k, none⟩) hb).trans (hc k hlt)
      have hfz := hrow.frozen (k * 2)
      have hfz1 := hrow.frozen (k * 2 + 1)
      have hcl := hrow.cell (i := k * 2) (by omega)
      have hcl1 := hrow.cell (i := k * 2 + 1) (by omega)
      have HR : Hid (wr.rowIs (w.heap.size + 1) 38 (n * 2) (fun j => if j < k * 2 then tierCell zs j else if j % 2 = 0 then .string ⟨#[]⟩ else .int .i64 0)) := hrow
      have HZ : Hid (wr.heap.size = w.heap.size + 2) := hsz
      clear hc hmk hrow hsz
      go_wp2
      go_roundw
      case rel =>
        refine ⟨k + 1, by omega, by go_num, ?_, (HB.out.setCell (by simp) _).setCell (by simp) _, by have := HZ.out; simpa using this, (HR0.out.setOther (by simp) _).setOther (by simp) _⟩
        refine ((HR.out.set (k * 2) _).set (k * 2 + 1) _).congr (fun j _ => ?_)
        by_cases e1 : j = k * 2 + 1
        · subst e1
          have h1 : k * 2 + 1 < (k + 1) * 2 := by omega
          have h2 : (k * 2 + 1) % 2 = 1 := by omega
          have h3 : (k * 2 + 1) / 2 = k := by omega
          simp [h1, tierCell, h2, h3]
        · by_cases e2 : j = k * 2
          · subst e2
            have h1 : k * 2 < (k + 1) * 2 := by omega
            simp [h1, tierCell]
          · have h1 : (j < (k + 1) * 2) ↔ (j < k * 2) := by omega
            simp [e1, e2, h1]
      case measure => simp [intOf]; omega
    · have hkn : k = n := by omega
      subst hkn
      have hc0 : ∀ i, i < 4 → wr.cell? ⟨w.heap.size, i, none⟩ = _ := fun i hi => HR0.out.cell hi
      have g0 := hc0 0 (by omega)
      have g1 := hc0 1 (by omega)
      have g2 := hc0 2 (by omega)
      have g3 := hc0 3 (by omega)
      have f0 := HR0.out.frozen 0
      have f1 := HR0.out.frozen 1
      have f2 := HR0.out.frozen 2
      have f3 := HR0.out.frozen 3
      clear hc0
      go_wp2
      refine bodyPost_ret (v := .agg #[.int .i64 0, .int .i64 0, .int .i64 0, .slice (some ⟨w.heap.size + 1, 0, none⟩) k k]) (by simp [results, Tryf.results8, go_sem, g0, g1, g2, g3]) rfl ⟨rfl, ?_, ?_, ?_⟩
      · exact ((((hrow.congr (g := tierCell zs) (fun j hj => by simp [hj])).setOther (by simp) _).setOther (by simp) _).setOther (by simp) _).setOther (by simp) _
      · exact (((HB.out.setCell (by simp) _).setCell (by simp) _).setCell (by simp) _).setCell (by simp) _
      · simpa using hsz
end Go.Proofs.Qxb6001696aFmt
