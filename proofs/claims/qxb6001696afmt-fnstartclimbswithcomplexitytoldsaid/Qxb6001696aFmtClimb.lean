import Derived.Test.Qxb6001696aFmtPlain
namespace Go.Proofs.Qxb6001696aFmt
open Go.RowKit Go.Extern.Stop Go.Stop Go.Extern

theorem tier_mono (zs : List Int) (n : Nat) (t a b : Int) (h1 : 1 ≤ n) (hab : a ≤ b) (hb : b ≤ zs.getD (n - 1) 0) : tierTo zs n t a ≤ tierTo zs n t b := by
  obtain ⟨ra, ea, la, za, ja⟩ := first_in zs a n h1 (by omega)
  obtain ⟨rb, eb, lb, zb, jb⟩ := first_in zs b n h1 hb
  have hr : ra ≤ rb := by
    rcases Nat.lt_or_ge rb ra with h | h
    · have := ja rb h; omega
    · exact h
  simp only [tierTo, ea, eb]
  omega

theorem fresh_tier (zs : List Int) (n : Nat) (a : Int) (h1 : 1 ≤ n) (ha : a ≤ zs.getD (n - 1) 0) :
    ∃ r : Nat, r < n ∧ tierTo zs n 0 a = r ∧ failTo zs n 0 a 0 = 0 ∧ a ≤ zs.getD r 0 ∧ ∀ j, j < r → zs.getD j 0 < a := by
  obtain ⟨r, e, l, z, j⟩ := first_in zs a n h1 ha
  refine ⟨r, l, ?_, ?_, z, j⟩
  · simp only [tierTo, e]; omega
  · simp only [failTo]; split <;> rfl

set_option maxRecDepth 100000 in
set_option maxHeartbeats 400000 in
theorem climb_empty (p : Option Addr) (n c : Nat) (at_ f t same a b : Int) (fp : ByteArray) (w : World) (hn : n ≤ 9223372036854775807) (hm : fp.size ≤ 9223372036854775807)
    (h : n = 0 ∨ 131072 < n ∨ 1048576 < fp.size ∨ 1048576 < 8 * n + fp.size) :
    Calls Tryf.prog 5 #[.slice p n c, .int .i64 at_, .int .i64 f, .int .i64 t, .string fp, .int .i64 same, .int .i64 a, .int .i64 b] w fun e w' => e = .returned (.bool true) ∧ w' = w := by
  have hb := bytes12 p n c at_ f t same a b fp w hn hm
  by_cases h0 : n + fp.size ≤ 1048576
  · rw [decide_eq_true h0] at hb
    go_enter Tryf.func5, Tryf.ntmps5
    go_wp2_with (go_at_call 12; refine hb.mono ?_; rintro e w' ⟨rfl, rfl⟩)
    all_goals (go_ret; exact ⟨rfl, rfl⟩)
  · rw [decide_eq_false h0] at hb
    go_enter Tryf.func5, Tryf.ntmps5
    go_wp2_with (go_at_call 12; refine hb.mono ?_; rintro e w' ⟨rfl, rfl⟩)
    go_ret
    exact ⟨rfl, rfl⟩

set_option maxRecDepth 100000 in
set_option maxHeartbeats 1000000 in
theorem climb_out (bk off n c : Nat) (zs : List Int) (at_ f t same a b : Int) (fp : ByteArray) (w : World) (h1 : 1 ≤ n) (hn : n ≤ 131072) (hm : fp.size ≤ 1048576) (hs : 8 * n + fp.size ≤ 1048576) (hbk : bk < w.heap.size)
    (hc : ∀ j, j < n → w.cell? ⟨bk, off + j, none⟩ = some (.int .i64 (zs.getD j 0))) (ho : a < 0 ∨ zs.getD (n - 1) 0 < a ∨ b < 0 ∨ zs.getD (n - 1) 0 < b) :
    Calls Tryf.prog 5 #[.slice (some ⟨bk, off, none⟩) n c, .int .i64 at_, .int .i64 f, .int .i64 t, .string fp, .int .i64 same, .int .i64 a, .int .i64 b] w fun e w' => e = .returned (.bool true) ∧ Below w.heap.size w w' := by
  have hby := bytes12 (some ⟨bk, off, none⟩) n c at_ f t same a b fp w (by omega) (by omega)
  rw [decide_eq_true (by omega)] at hby
  have hcl := clone_any bk off n c zs w (by omega) hbk hc
  clear hc
  obtain ⟨m, hnm⟩ : ∃ m : Nat, (n : Int) - 1 = m := ⟨n - 1, by omega⟩
  have hmn : m < n := by omega
  rw [show n - 1 = m from by omega] at ho
  have HCL := hide hcl
  have HBY := hide hby
  clear hcl hby
  have d1 : decide ((131072 : Int) < (n : Int)) = false := decide_eq_false (by omega)
  have d2 : decide ((1048576 : Int) < (fp.size : Int)) = false := decide_eq_false (by omega)
  have d3 : decide ((1048576 : Int) < 8 * (n : Int) + (fp.size : Int)) = false := decide_eq_false (by omega)
  generalize htop : zs.getD m 0 = top at ho
  have HTOP := hide htop
  clear htop
  have ho' : (a < 0) ∨ (0 ≤ a ∧ top < a) ∨ (0 ≤ a ∧ a ≤ top ∧ b < 0) ∨ (0 ≤ a ∧ a ≤ top ∧ 0 ≤ b ∧ top < b) := by omega
  clear ho
  rcases ho' with g1 | ⟨g1, g2⟩ | ⟨g1, g2, g3⟩ | ⟨g1, g2, g3, g4⟩
  all_goals
    go_enter Tryf.func5, Tryf.ntmps5
    go_wp2_with (first | (go_at_call 12; refine (unhide HBY).mono ?_; rintro e w' ⟨rfl, hw⟩; subst w') | fail)
    refine (unhide HCL).mono ?_
    rintro e w1 ⟨rfl, hr1, hB1, hz1⟩
    have hx1 := hr1.cell (i := m) (by omega)
    rw [HTOP.out] at hx1
    have HB1 := hide hB1
    clear hr1 hB1 hz1
    go_wp2_with fail
    go_ret
    exact ⟨rfl, HB1.out⟩

end Go.Proofs.Qxb6001696aFmt
