import Derived.Test.Qxb6001696aFmtPlain
import Derived.Test.Qxb6001696aFmtStart4
namespace Go.Proofs.Qxb6001696aFmt
open Go.RowKit Go.Extern.Stop Go.Stop Go.Extern

theorem rising_le (zs : List Int) (n : Nat) (h : ∀ j, j + 1 < n → zs.getD j 0 < zs.getD (j + 1) 0) (i : Nat) : ∀ k, i ≤ k → k < n → zs.getD i 0 ≤ zs.getD k 0
  | 0, hk, _ => by rw [show i = 0 from by omega]; exact Int.le_refl _
  | k + 1, hk, hn => by
    by_cases e : i = k + 1
    · subst e; exact Int.le_refl _
    · have := rising_le zs n h i k (by omega) (by omega)
      have := h k hn
      omega

/-- the four ways of an accepted start -/
theorem start_ways (zs : List Int) (n : Nat) (t c f : Int) (h1 : 1 ≤ n) (hc1 : c ≤ zs.getD (n - 1) 0) :
    ∃ k : Nat, k < n ∧ tierTo zs n t c = k ∧ ((∀ j, j + 1 < n → zs.getD j 0 < zs.getD (j + 1) 0) → c ≤ zs.getD k 0) ∧
      (((n : Int) ≤ t ∧ k + 1 = n ∧ failTo zs n t c f = f) ∨ (0 ≤ t ∧ t < n ∧ t < k ∧ failTo zs n t c f = 0) ∨ (t = k ∧ failTo zs n t c f = f) ∨ (t < 0 ∧ failTo zs n t c f = 0)) := by
  obtain ⟨r, e, hr, hz, hj⟩ := first_in zs c n h1 hc1
  by_cases hm : min t ((n : Int) - 1) < (r : Int)
  · refine ⟨r, hr, ?_, fun _ => hz, ?_⟩
    · simp only [tierTo, e]; omega
    · simp only [failTo, e]; omega
  · refine ⟨(min t ((n : Int) - 1)).toNat, by omega, ?_, fun h => ?_, ?_⟩
    · simp only [tierTo, e]; omega
    · have := rising_le zs n h r (min t ((n : Int) - 1)).toNat (by omega) (by omega)
      omega
    · simp only [failTo, e]; omega

set_option maxRecDepth 100000 in
set_option maxHeartbeats 400000 in
theorem refuse_empty (p : Option Addr) (n c : Nat) (at_ f t same a : Int) (fp : ByteArray) (w : World) (hn : n ≤ 9223372036854775807) (hm : fp.size ≤ 9223372036854775807)
    (h : n = 0 ∨ 131072 < n ∨ 1048576 < fp.size ∨ 1048576 < 8 * n + fp.size) :
    Calls Tryf.prog 3 #[.slice p n c, .int .i64 at_, .int .i64 f, .int .i64 t, .string fp, .int .i64 same, .int .i64 a] w fun e w' => e = .returned (.bool true) ∧ w' = w := by
  have hb := bytes6 p n c at_ f t same a fp w hn hm
  by_cases h0 : n + fp.size ≤ 1048576
  · rw [decide_eq_true h0] at hb
    go_enter Tryf.func3, Tryf.ntmps3
    go_wp2_with (go_at_call 6; refine hb.mono ?_; rintro e w' ⟨rfl, rfl⟩)
    all_goals (go_ret; exact ⟨rfl, rfl⟩)
  · rw [decide_eq_false h0] at hb
    go_enter Tryf.func3, Tryf.ntmps3
    go_wp2_with (go_at_call 6; refine hb.mono ?_; rintro e w' ⟨rfl, rfl⟩)
    go_ret
    exact ⟨rfl, rfl⟩

set_option maxRecDepth 100000 in
set_option maxHeartbeats 1000000 in
theorem refuse_neg (F : Interp) (bk off n c : Nat) (zs : List Int) (at_ f t same a : Int) (fp : ByteArray) (w : World) (h1 : 1 ≤ n) (hn : n ≤ 131072) (hm : fp.size ≤ 1048576) (hs : 8 * n + fp.size ≤ 1048576) (hbk : bk < w.heap.size)
    (hc : ∀ j, j < n → w.cell? ⟨bk, off + j, none⟩ = some (.int .i64 (zs.getD j 0))) (hF0 : F.answers w.tape) (ha0 : a < 0) :
    Calls Tryf.prog 3 #[.slice (some ⟨bk, off, none⟩) n c, .int .i64 at_, .int .i64 f, .int .i64 t, .string fp, .int .i64 same, .int .i64 a] w fun e w' => e = .returned (.bool true) ∧ Below w.heap.size w w' := by
  have hby := bytes6 (some ⟨bk, off, none⟩) n c at_ f t same a fp w (by omega) (by omega)
  rw [decide_eq_true (by omega)] at hby
  have hcl := clone_any bk off n c zs w (by omega) hbk hc
  have hbud := fun b W hb hc => budget_any b n zs W (by omega) hb hc
  have hA := fun g W hr (hF : F.answers W.tape) => start_neg F g n zs at_ f t same a fp W hF (by omega) h1 hr ha0
  clear hc
  obtain ⟨m, hnm⟩ : ∃ m : Nat, (n : Int) - 1 = m := ⟨n - 1, by omega⟩
  have hmn : m < n := by omega
  have HCL := hide hcl
  have HBY := hide hby
  have HBud := hide hbud
  clear hcl hby hbud
  have d1 : decide ((131072 : Int) < (n : Int)) = false := decide_eq_false (by omega)
  have d2 : decide ((1048576 : Int) < (fp.size : Int)) = false := decide_eq_false (by omega)
  have d3 : decide ((1048576 : Int) < 8 * (n : Int) + (fp.size : Int)) = false := decide_eq_false (by omega)
  generalize htop : zs.getD m 0 = top
  have HTOP := hide htop
  clear htop
  have HA := hide hA
  clear hA
  go_enter Tryf.func3, Tryf.ntmps3
  go_wp2_with (first | (go_at_call 6; refine (unhide HBY).mono ?_; rintro e w' ⟨rfl, hw⟩; subst w') | fail)
  refine (unhide HCL).mono ?_
  rintro e w1 ⟨rfl, hr1, hB1, hz1⟩
  have hx1 := hr1.cell (i := m) (by omega)
  rw [HTOP.out] at hx1
  have HR1 := hide hr1
  have HB1 := hide hB1
  have HZ1 := hide hz1
  clear hr1 hB1 hz1
  go_wp2_with fail
  refine ((unhide HBud) _ _ (by have := HZ1.out; omega) (fun j hj => (unhide HR1).cell hj)).mono ?_
  rintro e w2 ⟨rfl, hr2, hB2, hz2⟩
  have HR2 := hide hr2
  have HB2 := hide hB2
  have HZ2 := hide hz2
  have HW2 : Hid (Below w.heap.size w w2) := HB1.out.trans (hB2.mono (by have := HZ1.out; omega))
  have HRC2 : Hid (w2.rowIs w.heap.size 3 n (fun j => .int .i64 (zs.getD j 0))) := row_below HR1.out hB2
  have hlw2 : w.heap.size ≤ w2.heap.size := HW2.out.size
  clear hr2 hB2 hz2 HBud HCL HBY HR1 HZ1 HB1 HB2 HZ2 hx1
  generalize w1.heap.size + 1 = G at HR2 ⊢
  go_wp2_with fail
  refine ((unhide HA) _ _ (((unhide HR2).alloc _).alloc _) (by have ht := HW2.out.tape; exact fun i name reading k range => by show w2.tape _ _ = _; rw [ht]; exact hF0 i name reading k range)).mono ?_
  rintro e w3 ⟨⟨ae, rfl⟩, hB3⟩
  have HW3 : Hid (Below w.heap.size w w3) := ((HW2.out.alloc hlw2 _).alloc (by simp; omega) _).trans (hB3.mono (by simp; omega))
  have hlw3 : w.heap.size ≤ w3.heap.size := HW3.out.size
  clear hB3 HW2 HR2
  go_wp2_with fail
  all_goals
    go_ret
    exact ⟨rfl, HW3.out.alloc hlw3 _⟩

set_option maxRecDepth 100000 in
set_option maxHeartbeats 1000000 in
theorem refuse_over (F : Interp) (bk off n c : Nat) (zs : List Int) (at_ f t same a : Int) (fp : ByteArray) (w : World) (h1 : 1 ≤ n) (hn : n ≤ 131072) (hm : fp.size ≤ 1048576) (hs : 8 * n + fp.size ≤ 1048576) (hbk : bk < w.heap.size)
    (hc : ∀ j, j < n → w.cell? ⟨bk, off + j, none⟩ = some (.int .i64 (zs.getD j 0))) (hF0 : F.answers w.tape) (ha0 : 0 ≤ a) (ha1 : zs.getD (n - 1) 0 < a) :
    Calls Tryf.prog 3 #[.slice (some ⟨bk, off, none⟩) n c, .int .i64 at_, .int .i64 f, .int .i64 t, .string fp, .int .i64 same, .int .i64 a] w fun e w' => e = .returned (.bool true) ∧ Below w.heap.size w w' := by
  have hby := bytes6 (some ⟨bk, off, none⟩) n c at_ f t same a fp w (by omega) (by omega)
  rw [decide_eq_true (by omega)] at hby
  have hcl := clone_any bk off n c zs w (by omega) hbk hc
  have hbud := fun b W hb hc => budget_any b n zs W (by omega) hb hc
  have hA := fun g W hr (hF : F.answers W.tape) => start_over F g n zs at_ f t same a fp W hF (by omega) h1 hr ha0 ha1
  clear hc
  obtain ⟨m, hnm⟩ : ∃ m : Nat, (n : Int) - 1 = m := ⟨n - 1, by omega⟩
  have hmn : m < n := by omega
  rw [show n - 1 = m from by omega] at ha1
  have HCL := hide hcl
  have HBY := hide hby
  have HBud := hide hbud
  clear hcl hby hbud
  have d1 : decide ((131072 : Int) < (n : Int)) = false := decide_eq_false (by omega)
  have d2 : decide ((1048576 : Int) < (fp.size : Int)) = false := decide_eq_false (by omega)
  have d3 : decide ((1048576 : Int) < 8 * (n : Int) + (fp.size : Int)) = false := decide_eq_false (by omega)
  generalize htop : zs.getD m 0 = top at ha1
  have HTOP := hide htop
  clear htop
  have HA := hide hA
  clear hA
  go_enter Tryf.func3, Tryf.ntmps3
  go_wp2_with (first | (go_at_call 6; refine (unhide HBY).mono ?_; rintro e w' ⟨rfl, hw⟩; subst w') | fail)
  refine (unhide HCL).mono ?_
  rintro e w1 ⟨rfl, hr1, hB1, hz1⟩
  have hx1 := hr1.cell (i := m) (by omega)
  rw [HTOP.out] at hx1
  have HR1 := hide hr1
  have HB1 := hide hB1
  have HZ1 := hide hz1
  clear hr1 hB1 hz1
  go_wp2_with fail
  refine ((unhide HBud) _ _ (by have := HZ1.out; omega) (fun j hj => (unhide HR1).cell hj)).mono ?_
  rintro e w2 ⟨rfl, hr2, hB2, hz2⟩
  have HR2 := hide hr2
  have HB2 := hide hB2
  have HZ2 := hide hz2
  have HW2 : Hid (Below w.heap.size w w2) := HB1.out.trans (hB2.mono (by have := HZ1.out; omega))
  have HRC2 : Hid (w2.rowIs w.heap.size 3 n (fun j => .int .i64 (zs.getD j 0))) := row_below HR1.out hB2
  have hlw2 : w.heap.size ≤ w2.heap.size := HW2.out.size
  clear hr2 hB2 hz2 HBud HCL HBY HR1 HZ1 HB1 HB2 HZ2 hx1
  generalize w1.heap.size + 1 = G at HR2 ⊢
  go_wp2_with fail
  refine ((unhide HA) _ _ (((unhide HR2).alloc _).alloc _) (by have ht := HW2.out.tape; exact fun i name reading k range => by show w2.tape _ _ = _; rw [ht]; exact hF0 i name reading k range)).mono ?_
  rintro e w3 ⟨⟨ae, rfl⟩, hB3⟩
  have HW3 : Hid (Below w.heap.size w w3) := ((HW2.out.alloc hlw2 _).alloc (by simp; omega) _).trans (hB3.mono (by simp; omega))
  have hlw3 : w.heap.size ≤ w3.heap.size := HW3.out.size
  clear hB3 HW2 HR2
  go_wp2_with fail
  all_goals
    go_ret
    exact ⟨rfl, HW3.out.alloc hlw3 _⟩

end Go.Proofs.Qxb6001696aFmt
