import Derived.Test.Qxb6001696aFmtBudget
namespace Go.Proofs.Qxb6001696aFmt
open Go.RowKit

set_option maxHeartbeats 400000 in
theorem maxc_any (g n : Nat) (zs : List Int) (w : World) (hlim : n ≤ 1048576) (h1 : 1 ≤ n) (hrow : w.rowIs g 38 (n * 2) (tierCell zs)) :
    Calls Tryf.prog 13 #[.agg #[.int .i64 0, .int .i64 0, .int .i64 0, .slice (some ⟨g, 0, none⟩) n n]] w fun e w' => e = .returned (.int .i64 (zs.getD (n - 1) 0)) ∧ w' = w.alloc (.cells #[.int .i64 0, .int .i64 0, .int .i64 0, .slice (some ⟨g, 0, none⟩) n n] 27) := by
  obtain ⟨m, rfl⟩ : ∃ m, n = m + 1 := ⟨n - 1, by omega⟩
  have hcl := hrow.cell (i := m * 2 + 1) (by omega)
  have hlt := hrow.lt
  rw [show tierCell zs (m * 2 + 1) = .int .i64 (zs.getD m 0) from by simp only [tierCell]; rw [if_neg (by omega), show (m * 2 + 1) / 2 = m from by omega]] at hcl
  clear hrow
  go_enter Tryf.func13, Tryf.ntmps13
  go_wp2
  go_ret
  exact ⟨rfl, rfl⟩

set_option maxHeartbeats 400000 in
theorem onl_any (g n : Nat) (t : Int) (w : World) (hlim : n ≤ 1048576) (h1 : 1 ≤ n) :
    Calls Tryf.prog 15 #[.agg #[.int .i64 0, .int .i64 0, .int .i64 0, .slice (some ⟨g, 0, none⟩) n n], .int .i64 t] w fun e w' => e = .returned (.int .i64 (min t ((n : Int) - 1))) ∧ w' = w.alloc (.cells #[.int .i64 0, .int .i64 0, .int .i64 0, .slice (some ⟨g, 0, none⟩) n n] 27) := by
  go_enter Tryf.func15, Tryf.ntmps15
  go_wp2
  all_goals (go_ret; exact ⟨congrArg (fun x => Ending.returned (.int .i64 x)) (by omega), rfl⟩)

set_option maxHeartbeats 400000 in
theorem pred_any (m c : Int) (s : ByteArray) (B : Nat) (w : World) (hB : B < w.heap.size) (hcell : w.cell? ⟨B, 0, none⟩ = some (.int .i64 c)) :
    Calls Tryf.prog 17 #[.agg #[.string s, .int .i64 m], .pointer (some ⟨B, 0, none⟩)] w fun e w' => e = .returned (.bool (decide (c ≤ m))) ∧ w' = w.alloc (.cells #[.string s, .int .i64 m] 38) := by
  have hne : B ≠ w.heap.size := by omega
  go_enter Tryf.func17, Tryf.ntmps17
  go_wp2
  all_goals (go_ret; exact ⟨by simp_all, rfl⟩)

/-- the first place from k on that takes c, or -1 -/
def firstAt (zs : List Int) (c : Int) (n : Nat) : Nat → Int
  | 0 => -1
  | d + 1 => if c ≤ zs.getD (n - (d + 1)) 0 then ((n - (d + 1) : Nat) : Int) else firstAt zs c n d

set_option maxHeartbeats 400000 in
theorem idx_any (g n B : Nat) (zs : List Int) (c : Int) (w : World) (hlim : n ≤ 1048576) (hrow : w.rowIs g 38 (n * 2) (tierCell zs)) (hB : B < w.heap.size) (hcell : w.cell? ⟨B, 0, none⟩ = some (.int .i64 c)) :
    Calls Tryf.prog 16 #[.slice (some ⟨g, 0, none⟩) n n, .func (.func 17) #[] #[.pointer (some ⟨B, 0, none⟩)]] w fun e w' => e = .returned (.int .i64 (firstAt zs c n n)) ∧ Below w.heap.size w w' := by
  have hgl := hrow.lt
  go_enter Tryf.func16, Tryf.ntmps16
  go_wp2
  go_loopw [5, 8] (fun _ i wr => ∃ k : Nat, k ≤ n ∧ i = .int .i64 k ∧ Hid (Below w.heap.size w wr) ∧ Hid (firstAt zs c n (n - k) = firstAt zs c n n)) (fun _ i _ => n - (intOf i).toNat)
  case atStart => exact ⟨0, Nat.zero_le _, rfl, Below.refl _ _, rfl⟩
  case round =>
    obtain ⟨k, hk, rfl, HB, HF⟩ := hrel
    by_cases hlt : k < n
    · have c0 : wr.cell? ⟨g, k * 2, none⟩ = some (.string ⟨#[]⟩) := by
        rw [HB.out.cell (p := ⟨g, k * 2, none⟩) hgl, hrow.cell (by omega)]; simp [tierCell]
      have c1 : wr.cell? ⟨g, k * 2 + 1, none⟩ = some (.int .i64 (zs.getD k 0)) := by
        rw [HB.out.cell (p := ⟨g, k * 2 + 1, none⟩) hgl, hrow.cell (by omega)]; simp only [tierCell]; rw [if_neg (by omega), show (k * 2 + 1) / 2 = k from by omega]
      have cB : wr.cell? ⟨B, 0, none⟩ = some (.int .i64 c) := (HB.out.cell (p := ⟨B, 0, none⟩) hB).trans hcell
      have hBW : B < wr.heap.size := Nat.lt_of_lt_of_le hB HB.out.size
      obtain ⟨d, hd⟩ : ∃ d, n - k = d + 1 := ⟨n - k - 1, by omega⟩
      have hf2 : firstAt zs c n (n - k) = if c ≤ zs.getD k 0 then (k : Int) else firstAt zs c n d := by
        rw [hd]; simp only [firstAt]; rw [show n - (d + 1) = k from by omega]
      have HF2 : Hid (firstAt zs c n n = if c ≤ zs.getD k 0 then (k : Int) else firstAt zs c n d) := by rw [← HF.out]; exact hf2
      have HD : Hid (n - k = d + 1) := hd
      clear hrow hcell hf2 hd
      generalize hz : zs.getD k 0 = z at c1
      have HZ : Hid (zs.getD k 0 = z) := hz
      clear hz
      have hcall := pred_any z c ⟨#[]⟩ B wr hBW cB
      go_wp2_with (go_at_call 17; refine hcall.mono ?_; rintro e w' ⟨rfl, rfl⟩)
      · go_ret
        refine ⟨?_, HB.out.alloc HB.out.size _⟩
        rw [HF2.out, HZ.out, if_pos (by omega)]
        rfl
      · go_roundw
        case rel =>
          refine ⟨k + 1, by omega, by go_num, HB.out.alloc HB.out.size _, ?_⟩
          show firstAt zs c n (n - (k + 1)) = firstAt zs c n n
          rw [HF2.out, HZ.out, if_neg (by omega)]
          have := HD.out
          rw [show n - (k + 1) = d from by omega]
        case measure => simp [intOf]; omega
    · have hkn : k = n := by omega
      subst hkn
      go_wp2
      go_ret
      refine ⟨?_, HB.out⟩
      rw [← HF.out]; simp [firstAt]
end Go.Proofs.Qxb6001696aFmt
