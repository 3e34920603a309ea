import Derived.Test.Qxb6001696aFmtIdem
namespace Go.Proofs.Qxb6001696aFmt
open Go.RowKit Go.Extern.Stop Go.Stop Go.Extern

set_option maxRecDepth 100000 in
set_option maxHeartbeats 1000000 in
theorem idem_out (bk off n c : Nat) (zs : List Int) (at_ f t same a b : Int) (fp : ByteArray) (w : World) (h1 : 1 ≤ n) (hn : n ≤ 131072) (hm : fp.size ≤ 1048576) (hs : 8 * n + fp.size ≤ 1048576) (hbk : bk < w.heap.size)
    (hc : ∀ j, j < n → w.cell? ⟨bk, off + j, none⟩ = some (.int .i64 (zs.getD j 0))) (ho : a < 0 ∨ zs.getD (n - 1) 0 < a ∨ b < 0 ∨ zs.getD (n - 1) 0 < b) :
    Calls Tryf.prog 4 #[.slice (some ⟨bk, off, none⟩) n c, .int .i64 at_, .int .i64 f, .int .i64 t, .string fp, .int .i64 same, .int .i64 a, .int .i64 b] w fun e w' => e = .returned (.bool true) ∧ Below w.heap.size w w' := by
  have hby := bytes11 (some ⟨bk, off, none⟩) n c at_ f t same a b fp w (by omega) (by omega)
  rw [decide_eq_true (by omega)] at hby
  have hcl := clone_any bk off n c zs w (by omega) hbk hc
  clear hc
  obtain ⟨m, hnm⟩ : ∃ m : Nat, (n : Int) - 1 = m := ⟨n - 1, by omega⟩
  have hmn : m < n := by omega
  rw [show n - 1 = m from by omega] at ho
  have HCL := hide hcl
  have HBY := hide hby
  clear hcl hby
  have d1 : decide ((131072 : Int) < (n : Int)) = false := decide_eq_false (by omega)
  have d2 : decide ((1048576 : Int) < (fp.size : Int)) = false := decide_eq_false (by omega)
  have d3 : decide ((1048576 : Int) < 8 * (n : Int) + (fp.size : Int)) = false := decide_eq_false (by omega)
  generalize htop : zs.getD m 0 = top at ho
  have HTOP := hide htop
  clear htop
  have ho' : (a < 0) ∨ (0 ≤ a ∧ top < a) ∨ (0 ≤ a ∧ a ≤ top ∧ b < 0) ∨ (0 ≤ a ∧ a ≤ top ∧ 0 ≤ b ∧ top < b) := by omega
  clear ho
  rcases ho' with g1 | ⟨g1, g2⟩ | ⟨g1, g2, g3⟩ | ⟨g1, g2, g3, g4⟩
  all_goals
    go_enter Tryf.func4, Tryf.ntmps4
    go_wp2_with (first | (go_at_call 11; refine (unhide HBY).mono ?_; rintro e w' ⟨rfl, hw⟩; subst w') | fail)
    refine (unhide HCL).mono ?_
    rintro e w1 ⟨rfl, hr1, hB1, hz1⟩
    have hx1 := hr1.cell (i := m) (by omega)
    rw [HTOP.out] at hx1
    have HB1 := hide hB1
    clear hr1 hB1 hz1
    go_wp2_with fail
    go_ret
    exact ⟨rfl, HB1.out⟩

/-- every input -/
theorem idem_any (bk off n c : Nat) (zs : List Int) (at_ f t same a b : Int) (fp : ByteArray) (w : World) (hn : n ≤ 9223372036854775807) (hm : fp.size ≤ 9223372036854775807) (hbk : 1 ≤ n → bk < w.heap.size)
    (hc : ∀ j, j < n → w.cell? ⟨bk, off + j, none⟩ = some (.int .i64 (zs.getD j 0))) :
    Calls Tryf.prog 4 #[.slice (some ⟨bk, off, none⟩) n c, .int .i64 at_, .int .i64 f, .int .i64 t, .string fp, .int .i64 same, .int .i64 a, .int .i64 b] w fun e w' => e = .returned (.bool true) ∧ Below w.heap.size w w' := by
  by_cases h : n = 0 ∨ 131072 < n ∨ 1048576 < fp.size ∨ 1048576 < 8 * n + fp.size
  · exact (idem_empty _ n c at_ f t same a b fp w hn hm h).mono fun e w' ⟨h1, h2⟩ => ⟨h1, by rw [h2]; exact Below.refl _ _⟩
  · by_cases ho : a < 0 ∨ zs.getD (n - 1) 0 < a ∨ b < 0 ∨ zs.getD (n - 1) 0 < b
    · exact idem_out bk off n c zs at_ f t same a b fp w (by omega) (by omega) (by omega) (by omega) (hbk (by omega)) hc ho
    · exact idem_main bk off n c zs at_ f t same a b fp w (by omega) (by omega) (by omega) (by omega) (hbk (by omega)) hc (by omega) (by omega) (by omega) (by omega)
end Go.Proofs.Qxb6001696aFmt
