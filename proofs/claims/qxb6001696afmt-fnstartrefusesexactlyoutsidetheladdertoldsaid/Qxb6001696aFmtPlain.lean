import Derived.Test.Qxb6001696aFmtStart2
namespace Go.Proofs.Qxb6001696aFmt
open Go.RowKit

theorem firstAt_spec (zs : List Int) (c : Int) (n : Nat) : ∀ d, d ≤ n →
    (firstAt zs c n d = -1 ∧ ∀ j, n - d ≤ j → j < n → zs.getD j 0 < c) ∨
    (∃ r : Nat, firstAt zs c n d = r ∧ n - d ≤ r ∧ r < n ∧ c ≤ zs.getD r 0 ∧ ∀ j, n - d ≤ j → j < r → zs.getD j 0 < c)
  | 0, _ => Or.inl ⟨rfl, fun j h1 h2 => by omega⟩
  | d + 1, hd => by
    simp only [firstAt]
    by_cases h : c ≤ zs.getD (n - (d + 1)) 0
    · rw [if_pos h]
      exact Or.inr ⟨n - (d + 1), rfl, Nat.le_refl _, by omega, h, fun j h1 h2 => by omega⟩
    · rw [if_neg h]
      rcases firstAt_spec zs c n d (by omega) with ⟨h1, h2⟩ | ⟨r, h1, h2, h3, h4, h5⟩
      · refine Or.inl ⟨h1, fun j g1 g2 => ?_⟩
        by_cases e : j = n - (d + 1)
        · subst e; omega
        · exact h2 j (by omega) g2
      · refine Or.inr ⟨r, h1, by omega, h3, h4, fun j g1 g2 => ?_⟩
        by_cases e : j = n - (d + 1)
        · subst e; omega
        · exact h5 j (by omega) g2

theorem first_in (zs : List Int) (c : Int) (n : Nat) (h1 : 1 ≤ n) (hc : c ≤ zs.getD (n - 1) 0) :
    ∃ r : Nat, firstAt zs c n n = r ∧ r < n ∧ c ≤ zs.getD r 0 ∧ ∀ j, j < r → zs.getD j 0 < c := by
  rcases firstAt_spec zs c n n (Nat.le_refl _) with ⟨_, h2⟩ | ⟨r, g1, g2, g3, g4, g5⟩
  · have := h2 (n - 1) (by omega) (by omega); omega
  · exact ⟨r, g1, g3, g4, fun j hj => g5 j (by omega) hj⟩

theorem tier_comm (zs : List Int) (n : Nat) (t a b : Int) (h1 : 1 ≤ n) (ha : a ≤ zs.getD (n - 1) 0) (hb : b ≤ zs.getD (n - 1) 0) :
    tierTo zs n (tierTo zs n t a) b = tierTo zs n (tierTo zs n t b) a := by
  obtain ⟨ra, ea, la, _, _⟩ := first_in zs a n h1 ha
  obtain ⟨rb, eb, lb, _, _⟩ := first_in zs b n h1 hb
  simp only [tierTo, ea, eb]
  omega

theorem fail_comm (zs : List Int) (n : Nat) (t a b f : Int) (h1 : 1 ≤ n) (ha : a ≤ zs.getD (n - 1) 0) (hb : b ≤ zs.getD (n - 1) 0) :
    failTo zs n (tierTo zs n t a) b (failTo zs n t a f) = failTo zs n (tierTo zs n t b) a (failTo zs n t b f) := by
  obtain ⟨ra, ea, la, _, _⟩ := first_in zs a n h1 ha
  obtain ⟨rb, eb, lb, _, _⟩ := first_in zs b n h1 hb
  simp only [tierTo, failTo, ea, eb]
  omega

theorem tier_idem (zs : List Int) (n : Nat) (t a : Int) (h1 : 1 ≤ n) (ha : a ≤ zs.getD (n - 1) 0) : tierTo zs n (tierTo zs n t a) a = tierTo zs n t a := by
  obtain ⟨ra, ea, la, _, _⟩ := first_in zs a n h1 ha
  simp only [tierTo, ea]
  omega

theorem fail_idem (zs : List Int) (n : Nat) (t a f : Int) (h1 : 1 ≤ n) (ha : a ≤ zs.getD (n - 1) 0) : failTo zs n (tierTo zs n t a) a (failTo zs n t a f) = failTo zs n t a f := by
  obtain ⟨ra, ea, la, _, _⟩ := first_in zs a n h1 ha
  simp only [tierTo, failTo, ea]
  omega

def St (at_ f t : Int) (fp : ByteArray) (same : Int) : Value := .agg #[.int .i64 at_, .int .i64 f, .int .i64 t, .string fp, .int .i64 same]

theorem eq_run (at_ f t same : Int) (fp : ByteArray) (w : World) : (binOp .eql 30 (.agg #[.int .i64 at_, .int .i64 f, .int .i64 t, .string fp, .int .i64 same]) (.agg #[.int .i64 at_, .int .i64 f, .int .i64 t, .string fp, .int .i64 same])).run Tryf.prog w = .ok (.bool true) w := by
  have u3 := Tryf.underlying3
  have a3 := Tryf.isAgg3
  have z3 := Tryf.sizeOf3
  have u9 := Tryf.underlying9
  have a9 := Tryf.isAgg9
  have z9 := Tryf.sizeOf9
  have hS : Tryf.prog.underlying 30 = some (.struct (Tryf.prog.fieldsOf 30)) := by kernel_rfl
  have hp : Tryf.prog.stoodInHeld 30 = false := by kernel_rfl
  rw [run_eql_struct, show (10000 : Nat) = 9999 + 1 from rfl, run_equalIn_agg w 9999 30 _ _ hS hp]
  simp only [Program.fieldsOf, Tryf.underlying30]
  go_simp

theorem neq_run (at_ f t same : Int) (fp : ByteArray) (w : World) : (binOp .neq 30 (.agg #[.int .i64 at_, .int .i64 f, .int .i64 t, .string fp, .int .i64 same]) (.agg #[.int .i64 at_, .int .i64 f, .int .i64 t, .string fp, .int .i64 same])).run Tryf.prog w = .ok (.bool false) w := by
  have h := eq_run at_ f t same fp w
  rw [run_eql_struct] at h
  rw [run_neq_struct]
  revert h
  generalize (Op.equalIn 10000 30 _ _).run Tryf.prog w = r
  cases r with
  | ok b w1 => intro h; simp [Result.andThen] at h ⊢; exact h
  | halt x w1 => intro h; simp [Result.andThen] at h

set_option maxHeartbeats 400000 in
theorem bytes6 (p : Option Addr) (n c : Nat) (i1 i2 i3 i5 i6 : Int) (fp : ByteArray) (w : World) (hn : n ≤ 9223372036854775807) (hm : fp.size ≤ 9223372036854775807) :
    Calls Tryf.prog 6 #[.slice p n c, .int .i64 i1, .int .i64 i2, .int .i64 i3, .string fp, .int .i64 i5, .int .i64 i6] w fun e w' => e = .returned (.bool (decide (n + fp.size ≤ 1048576))) ∧ w' = w := by
  go_enter Tryf.func6, Tryf.ntmps6
  go_wp2
  all_goals (go_ret; exact ⟨congrArg (fun b => Ending.returned (.bool b)) (by simp; omega), rfl⟩)

set_option maxHeartbeats 400000 in
theorem bytes11 (p : Option Addr) (n c : Nat) (i1 i2 i3 i5 i6 i7 : Int) (fp : ByteArray) (w : World) (hn : n ≤ 9223372036854775807) (hm : fp.size ≤ 9223372036854775807) :
    Calls Tryf.prog 11 #[.slice p n c, .int .i64 i1, .int .i64 i2, .int .i64 i3, .string fp, .int .i64 i5, .int .i64 i6, .int .i64 i7] w fun e w' => e = .returned (.bool (decide (n + fp.size ≤ 1048576))) ∧ w' = w := by
  go_enter Tryf.func11, Tryf.ntmps11
  go_wp2
  all_goals (go_ret; exact ⟨congrArg (fun b => Ending.returned (.bool b)) (by simp; omega), rfl⟩)

set_option maxHeartbeats 400000 in
theorem bytes12 (p : Option Addr) (n c : Nat) (i1 i2 i3 i5 i6 i7 : Int) (fp : ByteArray) (w : World) (hn : n ≤ 9223372036854775807) (hm : fp.size ≤ 9223372036854775807) :
    Calls Tryf.prog 12 #[.slice p n c, .int .i64 i1, .int .i64 i2, .int .i64 i3, .string fp, .int .i64 i5, .int .i64 i6, .int .i64 i7] w fun e w' => e = .returned (.bool (decide (n + fp.size ≤ 1048576))) ∧ w' = w := by
  go_enter Tryf.func12, Tryf.ntmps12
  go_wp2
  all_goals (go_ret; exact ⟨congrArg (fun b => Ending.returned (.bool b)) (by simp; omega), rfl⟩)

/-- block N of W holds cs (at its head), whatever else -/
def Blk (W : World) (N : Nat) (cs : List Value) : Prop := N < W.heap.size ∧ ∀ i v, cs[i]? = some v → W.cell? ⟨N, i, none⟩ = some v

theorem Blk.below {W W' : World} {N : Nat} {cs : List Value} (h : Blk W N cs) (hb : Below W.heap.size W W') : Blk W' N cs :=
  ⟨Nat.lt_of_lt_of_le h.1 hb.size, fun i v hi => (hb.cell (p := ⟨N, i, none⟩) h.1).trans (h.2 i v hi)⟩
theorem Blk.alloc {W : World} {N : Nat} {cs : List Value} (h : Blk W N cs) (o : Obj) : Blk (W.alloc o) N cs :=
  h.below ((Below.refl _ _).alloc (Nat.le_refl _) _)
theorem Blk.new (W : World) (cs : List Value) (t : TypeId) : Blk (W.alloc (.cells cs.toArray t)) W.heap.size cs :=
  ⟨by simp, fun i v hi => by
    have h : (W.alloc (.cells cs.toArray t)).heap[W.heap.size]? = some (.cells cs.toArray t) := Go.Deep.blk_alloc_new _ _
    simp only [World.cell?, h]
    simpa using hi⟩
theorem Blk.c4 {W : World} {N : Nat} {a b c d : Value} (h : Blk W N [a, b, c, d]) : N < W.heap.size ∧ W.cell? ⟨N, 0, none⟩ = some a ∧ W.cell? ⟨N, 1, none⟩ = some b ∧ W.cell? ⟨N, 2, none⟩ = some c ∧ W.cell? ⟨N, 3, none⟩ = some d :=
  ⟨h.1, h.2 0 _ rfl, h.2 1 _ rfl, h.2 2 _ rfl, h.2 3 _ rfl⟩
theorem Blk.c5 {W : World} {N : Nat} {a b c d e : Value} (h : Blk W N [a, b, c, d, e]) : N < W.heap.size ∧ W.cell? ⟨N, 0, none⟩ = some a ∧ W.cell? ⟨N, 1, none⟩ = some b ∧ W.cell? ⟨N, 2, none⟩ = some c ∧ W.cell? ⟨N, 3, none⟩ = some d ∧ W.cell? ⟨N, 4, none⟩ = some e :=
  ⟨h.1, h.2 0 _ rfl, h.2 1 _ rfl, h.2 2 _ rfl, h.2 3 _ rfl, h.2 4 _ rfl⟩
theorem row_below {W W' : World} {g t n : Nat} {f : Nat → Value} (h : W.rowIs g t n f) (hb : Below W.heap.size W W') : W'.rowIs g t n f := h.of_block (hb.block g h.lt)
end Go.Proofs.Qxb6001696aFmt
