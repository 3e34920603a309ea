import Derived.Test.Qxb6600233aBytes
namespace Go.Proofs.Qxb6600233a
open Go.RowKit
set_option linter.unusedVariables false

theorem Try.info46 : (Try.prog.info? 46).map (fun i => (i.zero, i.size, i.bytes)) = some (some (.agg #[.string ⟨#[]⟩, .string ⟨#[]⟩, .bool false]), 3, 40) := by kernel_rfl
theorem Try.info53 : (Try.prog.info? 53).map (fun i => (i.zero, i.size, i.bytes)) = some (some (.agg #[.string ⟨#[]⟩, .string ⟨#[]⟩]), 2, 32) := by kernel_rfl

def stD : St := ⟨⟨#[]⟩, ⟨#[]⟩, false⟩
def ovD : Ov := ⟨⟨#[]⟩, ⟨#[]⟩⟩
def stV (s : St) (r : Nat) : Value := if r = 0 then .string s.nm else if r = 1 then .string s.vl else .bool s.sk
def ovV (s : Ov) (r : Nat) : Value := if r = 0 then .string s.nm else .string s.vl
/-- cell i of a row of settings, of which the first k are written -/
def stCell (ss : List St) (k i : Nat) : Value := stV (if i < k * 3 then ss.getD (i / 3) stD else stD) (i % 3)
def ovCell (ss : List Ov) (k i : Nat) : Value := ovV (if i < k * 2 then ss.getD (i / 2) ovD else ovD) (i % 2)

theorem make_sets (n : Nat) (hlim : n ≤ 1048576) (w : World) :
    (Instr.makeSlice 30 (.int .i64 (n : Int)) (.int .i64 (n : Int))).run Try.prog w = .ok (.slice (some ⟨w.heap.size, 0, none⟩) n n) (w.alloc (.cells (madeCells #[.string ⟨#[]⟩, .string ⟨#[]⟩, .bool false] (n * 3)) 46)) := by
  obtain ⟨i, hi, hzz⟩ := Option.map_eq_some_iff.1 Try.info46
  simp only [Prod.mk.injEq] at hzz
  obtain ⟨hz, hs, hb⟩ := hzz
  have hr := run_make (P := Try.prog) w 30 46 i _ Try.underlying30 hi hz .i64 .i64 n n (by omega) (Int.le_refl _) (by rw [hb]; omega) (by omega)
  simp only [Int.toNat_natCast, hs] at hr
  exact hr

theorem make_ovs (n : Nat) (hlim : n ≤ 1048576) (w : World) :
    (Instr.makeSlice 37 (.int .i64 (n : Int)) (.int .i64 (n : Int))).run Try.prog w = .ok (.slice (some ⟨w.heap.size, 0, none⟩) n n) (w.alloc (.cells (madeCells #[.string ⟨#[]⟩, .string ⟨#[]⟩] (n * 2)) 53)) := by
  obtain ⟨i, hi, hzz⟩ := Option.map_eq_some_iff.1 Try.info53
  simp only [Prod.mk.injEq] at hzz
  obtain ⟨hz, hs, hb⟩ := hzz
  have hr := run_make (P := Try.prog) w 37 53 i _ Try.underlying37 hi hz .i64 .i64 n n (by omega) (Int.le_refl _) (by rw [hb]; omega) (by omega)
  simp only [Int.toNat_natCast, hs] at hr
  exact hr

theorem made_sets (w : World) (n : Nat) (ss : List St) : (w.alloc (.cells (madeCells #[.string ⟨#[]⟩, .string ⟨#[]⟩, .bool false] (n * 3)) 46)).rowIs w.heap.size 46 (n * 3) (stCell ss 0) :=
  ⟨_, Go.Deep.blk_alloc_new _ _, size_madeCells _ _, fun i hi => by
    have h3 : i % 3 < 3 := Nat.mod_lt _ (by decide)
    rcases (show i % 3 = 0 ∨ i % 3 = 1 ∨ i % 3 = 2 by omega) with h | h | h
    all_goals simp [madeCells, hi, h, stCell, stV, stD]⟩

theorem made_ovs (w : World) (n : Nat) (ss : List Ov) : (w.alloc (.cells (madeCells #[.string ⟨#[]⟩, .string ⟨#[]⟩] (n * 2)) 53)).rowIs w.heap.size 53 (n * 2) (ovCell ss 0) :=
  ⟨_, Go.Deep.blk_alloc_new _ _, size_madeCells _ _, fun i hi => by
    rcases (show i % 2 = 0 ∨ i % 2 = 1 by omega) with h | h
    all_goals simp [madeCells, hi, h, ovCell, ovV, ovD]⟩

theorem row_sets {w : World} {g n : Nat} {ss : List St} (hl : ss.length = n) (h : w.rowIs g 46 (n * 3) (stCell ss n)) : SetsAt w (some ⟨g, 0, none⟩) ss := by
  intro k s hk
  have hlt : k < ss.length := by
    rcases Nat.lt_or_ge k ss.length with h | h
    · exact h
    · rw [List.getElem?_eq_none h] at hk; cases hk
  have hd : ss.getD k stD = s := by rw [List.getD_eq_getElem?_getD, hk]; rfl
  refine ⟨g, 0, rfl, ?_, ?_, ?_⟩
  · rw [Nat.zero_add, h.cell (by omega), stCell, if_pos (by omega), show k * 3 / 3 = k by omega, show k * 3 % 3 = 0 by omega, hd]; rfl
  · rw [Nat.zero_add, h.cell (by omega), stCell, if_pos (by omega), show (k * 3 + 1) / 3 = k by omega, show (k * 3 + 1) % 3 = 1 by omega, hd]; rfl
  · rw [Nat.zero_add, h.cell (by omega), stCell, if_pos (by omega), show (k * 3 + 2) / 3 = k by omega, show (k * 3 + 2) % 3 = 2 by omega, hd]; rfl

theorem row_ovs {w : World} {g n : Nat} {ss : List Ov} (hl : ss.length = n) (h : w.rowIs g 53 (n * 2) (ovCell ss n)) : OvsAt w (some ⟨g, 0, none⟩) ss := by
  intro k s hk
  have hlt : k < ss.length := by
    rcases Nat.lt_or_ge k ss.length with h | h
    · exact h
    · rw [List.getElem?_eq_none h] at hk; cases hk
  have hd : ss.getD k ovD = s := by rw [List.getD_eq_getElem?_getD, hk]; rfl
  refine ⟨g, 0, rfl, ?_, ?_⟩
  · rw [Nat.zero_add, h.cell (by omega), ovCell, if_pos (by omega), show k * 2 / 2 = k by omega, show k * 2 % 2 = 0 by omega, hd]; rfl
  · rw [Nat.zero_add, h.cell (by omega), ovCell, if_pos (by omega), show (k * 2 + 1) / 2 = k by omega, show (k * 2 + 1) % 2 = 1 by omega, hd]; rfl

theorem set_step {w : World} {g n k : Nat} {ss : List St} {s : St} (hk : ss[k]? = some s) (h : w.rowIs g 46 (n * 3) (stCell ss k)) :
    (((w.setCell ⟨g, k * 3, none⟩ (.string s.nm)).setCell ⟨g, k * 3 + 1, none⟩ (.string s.vl)).setCell ⟨g, k * 3 + 2, none⟩ (.bool s.sk)).rowIs g 46 (n * 3) (stCell ss (k + 1)) := by
  have hd : ss.getD k stD = s := by rw [List.getD_eq_getElem?_getD, hk]; rfl
  refine (((h.set (k * 3) _).set (k * 3 + 1) _).set (k * 3 + 2) _).congr (fun j _ => ?_)
  unfold stCell
  by_cases e2 : j = k * 3 + 2
  · subst e2
    rw [if_pos rfl, if_pos (by omega), show (k * 3 + 2) / 3 = k by omega, show (k * 3 + 2) % 3 = 2 by omega, hd]; rfl
  · rw [if_neg e2]
    by_cases e1 : j = k * 3 + 1
    · subst e1
      rw [if_pos rfl, if_pos (by omega), show (k * 3 + 1) / 3 = k by omega, show (k * 3 + 1) % 3 = 1 by omega, hd]; rfl
    · rw [if_neg e1]
      by_cases e0 : j = k * 3
      · subst e0
        rw [if_pos rfl, if_pos (by omega), show k * 3 / 3 = k by omega, show k * 3 % 3 = 0 by omega, hd]; rfl
      · rw [if_neg e0]
        by_cases hj : j < k * 3
        · rw [if_pos hj, if_pos (by omega)]
        · rw [if_neg hj, if_neg (by omega)]

theorem ov_step {w : World} {g n k : Nat} {ss : List Ov} {s : Ov} (hk : ss[k]? = some s) (h : w.rowIs g 53 (n * 2) (ovCell ss k)) :
    ((w.setCell ⟨g, k * 2, none⟩ (.string s.nm)).setCell ⟨g, k * 2 + 1, none⟩ (.string s.vl)).rowIs g 53 (n * 2) (ovCell ss (k + 1)) := by
  have hd : ss.getD k ovD = s := by rw [List.getD_eq_getElem?_getD, hk]; rfl
  refine ((h.set (k * 2) _).set (k * 2 + 1) _).congr (fun j _ => ?_)
  unfold ovCell
  by_cases e1 : j = k * 2 + 1
  · subst e1
    rw [if_pos rfl, if_pos (by omega), show (k * 2 + 1) / 2 = k by omega, show (k * 2 + 1) % 2 = 1 by omega, hd]; rfl
  · rw [if_neg e1]
    by_cases e0 : j = k * 2
    · subst e0
      rw [if_pos rfl, if_pos (by omega), show k * 2 / 2 = k by omega, show k * 2 % 2 = 0 by omega, hd]; rfl
    · rw [if_neg e0]
      by_cases hj : j < k * 2
      · rw [if_pos hj, if_pos (by omega)]
      · rw [if_neg hj, if_neg (by omega)]

theorem eql_slice_nil (P : Program) (t e : TypeId) (a : Option Addr) (l c : Nat) (h : P.underlying t = some (.slice e)) (w : World) : (binOp .eql t (.slice a l c) (.slice none 0 0)).run P w = .ok (.bool a.isNone) w := by
  simp only [binOp]
  simp [run_equal_slice_nil w t e a l c h]

set_option maxRecDepth 100000 in
set_option maxHeartbeats 2000000 in
theorem to11 (a : Addr) (ss : List St) (c : Nat) (w : World) (hn : ss.length ≤ 1048576) (hS : SetsAt w (some a) ss) :
    Calls Try.prog 11 #[.slice (some a) ss.length c, .bool true] w fun e w' => e = .returned (.slice (some ⟨w.heap.size, 0, none⟩) ss.length ss.length) ∧ SetsAt w' (some ⟨w.heap.size, 0, none⟩) ss ∧ Below w.heap.size w w' := by
  have HS := hide hS
  have hmk := make_sets ss.length hn
  have hnil := eql_slice_nil Try.prog 22 41 (some a) ss.length c Try.underlying22
  clear hS
  go_enter Try.func11, Try.ntmps11
  go_wp2
  go_loopw [6] (fun i wr => ∃ k : Nat, k ≤ ss.length ∧ i = .int .i64 k ∧ Hid (wr.rowIs w.heap.size 46 (ss.length * 3) (stCell ss k)) ∧ Hid (Below w.heap.size w wr)) (fun i _ => ss.length - (intOf i).toNat)
  case atStart => exact ⟨0, Nat.zero_le _, rfl, made_sets w ss.length ss, (Below.refl _ _).alloc (Nat.le_refl _) _⟩
  case round =>
    obtain ⟨k, hk, rfl, HR, HB⟩ := hrel
    by_cases hlt : k < ss.length
    · have hget : ss[k]? = some ss[k] := List.getElem?_eq_getElem hlt
      obtain ⟨b, off, hab, c0, c1, c2⟩ := (HS.out.below (w' := w) (Below.refl _ _)) k ss[k] hget
      injection hab with hab
      subst hab
      have d0 := (HB.out.cell (cell_lt c0)).trans c0
      have d1 := (HB.out.cell (cell_lt c1)).trans c1
      have d2 := (HB.out.cell (cell_lt c2)).trans c2
      have hbl : b < w.heap.size := cell_lt c0
      have hne : b ≠ w.heap.size := by omega
      have HG := hide hget
      generalize ss[k] = s at d0 d1 d2 HG
      have f0 := HR.out.frozen (k * 3)
      have f1 := HR.out.frozen (k * 3 + 1)
      have f2 := HR.out.frozen (k * 3 + 2)
      have e0 := HR.out.cell (i := k * 3) (by omega)
      have e1 := HR.out.cell (i := k * 3 + 1) (by omega)
      have e2 := HR.out.cell (i := k * 3 + 2) (by omega)
      clear hget c0 c1 c2 hmk hnil
      go_wp2_with fail
      go_region
      go_wp2
      go_roundw
      case rel => exact ⟨k + 1, by omega, by go_num, (set_step HG.out HR.out).drew, (((HB.out.setCell (by exact Nat.le_refl _) _).setCell (by exact Nat.le_refl _) _).setCell (by exact Nat.le_refl _) _).drew⟩
      case measure => simp [intOf]; omega
    · obtain rfl : k = ss.length := by omega
      clear hmk hnil
      go_wp2
      go_ret
      exact ⟨rfl, row_sets rfl HR.out, HB.out⟩
set_option maxRecDepth 100000 in
set_option maxHeartbeats 2000000 in
theorem to16 (a : Addr) (ss : List Ov) (c : Nat) (w : World) (hn : ss.length ≤ 1048576) (hS : OvsAt w (some a) ss) :
    Calls Try.prog 16 #[.slice (some a) ss.length c, .bool true] w fun e w' => e = .returned (.slice (some ⟨w.heap.size, 0, none⟩) ss.length ss.length) ∧ OvsAt w' (some ⟨w.heap.size, 0, none⟩) ss ∧ Below w.heap.size w w' := by
  have HS := hide hS
  have hmk := make_ovs ss.length hn
  have hnil := eql_slice_nil Try.prog 33 43 (some a) ss.length c Try.underlying33
  clear hS
  go_enter Try.func16, Try.ntmps16
  go_wp2
  go_loopw [6] (fun i wr => ∃ k : Nat, k ≤ ss.length ∧ i = .int .i64 k ∧ Hid (wr.rowIs w.heap.size 53 (ss.length * 2) (ovCell ss k)) ∧ Hid (Below w.heap.size w wr)) (fun i _ => ss.length - (intOf i).toNat)
  case atStart => exact ⟨0, Nat.zero_le _, rfl, made_ovs w ss.length ss, (Below.refl _ _).alloc (Nat.le_refl _) _⟩
  case round =>
    obtain ⟨k, hk, rfl, HR, HB⟩ := hrel
    by_cases hlt : k < ss.length
    · have hget : ss[k]? = some ss[k] := List.getElem?_eq_getElem hlt
      obtain ⟨b, off, hab, c0, c1⟩ := (HS.out.below (w' := w) (Below.refl _ _)) k ss[k] hget
      injection hab with hab
      subst hab
      have d0 := (HB.out.cell (cell_lt c0)).trans c0
      have d1 := (HB.out.cell (cell_lt c1)).trans c1
      have hbl : b < w.heap.size := cell_lt c0
      have hne : b ≠ w.heap.size := by omega
      have HG := hide hget
      generalize ss[k] = s at d0 d1 HG
      have f0 := HR.out.frozen (k * 2)
      have f1 := HR.out.frozen (k * 2 + 1)
      have e0 := HR.out.cell (i := k * 2) (by omega)
      have e1 := HR.out.cell (i := k * 2 + 1) (by omega)
      clear hget c0 c1 hmk hnil
      go_wp2
      go_roundw
      case rel => exact ⟨k + 1, by omega, by go_num, ov_step HG.out HR.out, (HB.out.setCell (by exact Nat.le_refl _) _).setCell (by exact Nat.le_refl _) _⟩
      case measure => simp [intOf]; omega
    · obtain rfl : k = ss.length := by omega
      clear hmk hnil
      go_wp2
      go_ret
      exact ⟨rfl, row_ovs rfl HR.out, HB.out⟩
theorem to11_nil (w : World) : Calls Try.prog 11 #[.slice none 0 0, .bool true] w fun e w' => e = .returned (.slice none 0 0) ∧ w' = w := by
  have hnil := eql_slice_nil Try.prog 22 41 none 0 0 Try.underlying22
  go_enter Try.func11, Try.ntmps11
  go_wp2
  go_ret
  exact ⟨rfl, rfl⟩

theorem to16_nil (w : World) : Calls Try.prog 16 #[.slice none 0 0, .bool true] w fun e w' => e = .returned (.slice none 0 0) ∧ w' = w := by
  have hnil := eql_slice_nil Try.prog 33 43 none 0 0 Try.underlying33
  go_enter Try.func16, Try.ntmps16
  go_wp2
  go_ret
  exact ⟨rfl, rfl⟩

/-- nil or not: a slice with the same settings -/
theorem sets11 (p : Option Addr) (ss : List St) (c : Nat) (w : World) (hp : p = none → ss.length = 0 ∧ c = 0) (hn : ss.length ≤ 1048576) (hS : SetsAt w p ss) :
    Calls Try.prog 11 #[.slice p ss.length c, .bool true] w fun e w' => ∃ p' c', e = .returned (.slice p' ss.length c') ∧ SetsAt w' p' ss ∧ Below w.heap.size w w' := by
  match p, hp, hS with
  | none, hp, hS =>
    obtain ⟨h1, h2⟩ := hp rfl
    rw [h1, h2]
    refine (to11_nil w).mono ?_
    rintro e w' ⟨he, hw⟩
    subst hw
    exact ⟨none, 0, he, hS, Below.refl _ _⟩
  | some a, _, hS =>
    refine (to11 a ss c w hn hS).mono ?_
    rintro e w' ⟨he, hs, hb⟩
    exact ⟨_, _, he, hs, hb⟩

theorem ovs16 (p : Option Addr) (ss : List Ov) (c : Nat) (w : World) (hp : p = none → ss.length = 0 ∧ c = 0) (hn : ss.length ≤ 1048576) (hS : OvsAt w p ss) :
    Calls Try.prog 16 #[.slice p ss.length c, .bool true] w fun e w' => ∃ p' c', e = .returned (.slice p' ss.length c') ∧ OvsAt w' p' ss ∧ Below w.heap.size w w' := by
  match p, hp, hS with
  | none, hp, hS =>
    obtain ⟨h1, h2⟩ := hp rfl
    rw [h1, h2]
    refine (to16_nil w).mono ?_
    rintro e w' ⟨he, hw⟩
    subst hw
    exact ⟨none, 0, he, hS, Below.refl _ _⟩
  | some a, _, hS =>
    refine (to16 a ss c w hn hS).mono ?_
    rintro e w' ⟨he, hs, hb⟩
    exact ⟨_, _, he, hs, hb⟩
end Go.Proofs.Qxb6600233a
