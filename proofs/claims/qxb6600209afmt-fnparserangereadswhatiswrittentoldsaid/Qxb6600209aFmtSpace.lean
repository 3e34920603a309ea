import Derived.Test.Qxb6600209aFmtRange
import Derived.Test.Qxb6600209aFmtTok
import Derived.Deep.Light
namespace Go.Proofs.Qxb6600209aFmt
open Go.RowKit Go.Extern.Stop Go.Stop Go.Extern

theorem ret_int {k : IntKind} {a b : Int} (h : a = b) : Ending.returned (.int k a) = .returned (.int k b) := by rw [h]

set_option maxRecDepth 100000 in
set_option maxHeartbeats 1000000 in
theorem space3 (g n cp i : Nat) (c d e : Int) (w : World) (hn : n ≤ 1048576) (hi : i + 3 ≤ n) (h0 : w.cell? ⟨g, i, none⟩ = some (.int .u8 c)) (h1 : w.cell? ⟨g, i + 1, none⟩ = some (.int .u8 d)) (h2 : w.cell? ⟨g, i + 2, none⟩ = some (.int .u8 e)) :
    Calls Tryf.prog 15 #[.slice (some ⟨g, 0, none⟩) n cp, .int .i64 i] w fun e' w' => e' = .returned (.int .i64 (spw (n - i) c d e)) ∧ w' = w := by
  have b0 : (i : Int) < (n : Int) := by omega
  have b1 : (i : Int) + 1 < (n : Int) := by omega
  have b2 : (i : Int) + 2 < (n : Int) := by omega
  have b3 : ¬ ((n : Int) - (i : Int) < 3) := by omega
  have b4 : (2 : Int) ≤ (n : Int) - (i : Int) := by omega
  go_enter Tryf.func15, Tryf.ntmps15
  go_wp2
  all_goals
    go_ret
    refine ⟨ret_int ?_, rfl⟩
    go_light
    try simp only [beq_iff_eq, beq_eq_false_iff_ne, ne_eq] at *
    unfold spw
    repeat' split
    all_goals omega

set_option maxRecDepth 100000 in
set_option maxHeartbeats 1000000 in
theorem space2 (g n cp i : Nat) (c d e : Int) (w : World) (hn : n ≤ 1048576) (hi : i + 2 = n) (h0 : w.cell? ⟨g, i, none⟩ = some (.int .u8 c)) (h1 : w.cell? ⟨g, i + 1, none⟩ = some (.int .u8 d)) :
    Calls Tryf.prog 15 #[.slice (some ⟨g, 0, none⟩) n cp, .int .i64 i] w fun e' w' => e' = .returned (.int .i64 (spw (n - i) c d e)) ∧ w' = w := by
  have b0 : (i : Int) < (n : Int) := by omega
  have b1 : (i : Int) + 1 < (n : Int) := by omega
  have b3 : (n : Int) - (i : Int) < 3 := by omega
  have b4 : (2 : Int) ≤ (n : Int) - (i : Int) := by omega
  have HI := hide hi
  clear hi
  go_enter Tryf.func15, Tryf.ntmps15
  go_wp2
  all_goals
    go_ret
    refine ⟨ret_int ?_, rfl⟩
    have hi := unhide HI
    go_light
    try simp only [beq_iff_eq, beq_eq_false_iff_ne, ne_eq] at *
    unfold spw
    repeat' split
    all_goals omega

set_option maxRecDepth 100000 in
set_option maxHeartbeats 1000000 in
theorem space1 (g n cp i : Nat) (c d e : Int) (w : World) (_hn : n ≤ 1048576) (hi : i + 1 = n) (h0 : w.cell? ⟨g, i, none⟩ = some (.int .u8 c)) :
    Calls Tryf.prog 15 #[.slice (some ⟨g, 0, none⟩) n cp, .int .i64 i] w fun e' w' => e' = .returned (.int .i64 (spw (n - i) c d e)) ∧ w' = w := by
  have b0 : (i : Int) < (n : Int) := by omega
  have b3 : (n : Int) - (i : Int) < 3 := by omega
  have b4 : decide ((2 : Int) ≤ (n : Int) - (i : Int)) = false := decide_eq_false (by omega)
  have HI := hide hi
  clear hi
  go_enter Tryf.func15, Tryf.ntmps15
  go_wp2
  all_goals
    go_ret
    refine ⟨ret_int ?_, rfl⟩
    have hi := unhide HI
    go_light
    try simp only [beq_iff_eq, beq_eq_false_iff_ne, ne_eq] at *
    unfold spw
    repeat' split
    all_goals omega

theorem bts_at {w : World} {g : Nat} {l : List UInt8} (h : Bts w g l) (i : Nat) (hi : i < l.length) : w.cell? ⟨g, i, none⟩ = some (.int .u8 ((l.getD i 0).toNat : Int)) := by
  rw [h i hi]
  simp [List.getElem?_eq_getElem hi]

/-- zzSpaceWidthAt -/
theorem space_any (g cp i : Nat) (l : List UInt8) (w : World) (hn : l.length ≤ 1048576) (hi : i < l.length) (hB : Bts w g l) :
    Calls Tryf.prog 15 #[.slice (some ⟨g, 0, none⟩) l.length cp, .int .i64 i] w fun e' w' => e' = .returned (.int .i64 (Lib.headSpace (l.drop i) : Nat)) ∧ w' = w := by
  have h0 := bts_at hB i hi
  have e0 : l.drop i = l.getD i 0 :: l.drop (i + 1) := by
    rw [drop_cons l i hi]; simp [List.getElem?_eq_getElem hi]
  by_cases h1 : i + 1 < l.length
  · have g1 := bts_at hB (i + 1) h1
    have e1 : l.drop (i + 1) = l.getD (i + 1) 0 :: l.drop (i + 2) := by
      rw [drop_cons l (i + 1) h1]; simp [List.getElem?_eq_getElem h1]
    by_cases h2 : i + 2 < l.length
    · have g2 := bts_at hB (i + 2) h2
      have e2 : l.drop (i + 2) = l.getD (i + 2) 0 :: l.drop (i + 3) := by
        rw [drop_cons l (i + 2) h2]; simp [List.getElem?_eq_getElem h2]
      rw [e0, e1, e2, head_spw3 _ _ _ _ (l.length - i) (by omega)]
      exact space3 g l.length cp i _ _ _ w hn (by omega) h0 g1 g2
    · have e2 : l.drop (i + 2) = [] := List.drop_eq_nil_of_le (by omega)
      rw [e0, e1, e2, head_spw2 _ _ 0 (l.length - i) (by omega)]
      exact space2 g l.length cp i _ _ _ w hn (by omega) h0 g1
  · have e1 : l.drop (i + 1) = [] := List.drop_eq_nil_of_le (by omega)
    rw [e0, e1, head_spw1 _ 0 0 (l.length - i) (by omega)]
    exact space1 g l.length cp i _ _ _ w hn (by omega) h0
end Go.Proofs.Qxb6600209aFmt
