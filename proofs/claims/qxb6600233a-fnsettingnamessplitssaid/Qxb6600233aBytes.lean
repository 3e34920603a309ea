import Derived.Test.Qxb6600233aRows
import Derived.WalkKit
import Derived.WalkSpells
import Derived.WalkLawsBesides
import Derived.Deep.QuietTactic
import Derived.BigQuiet
import Derived.Below
import Derived.Deep.OwnRows
namespace Go.Proofs.Qxb6600233a
open Go.RowKit
set_option linter.unusedVariables false

theorem hide {p : Prop} (h : p) : Hid p := h
theorem unhide {p : Prop} (h : Hid p) : p := h

/-- a setting, as the law draws it -/
structure St where
  nm : ByteArray
  vl : ByteArray
  sk : Bool
/-- an overridden setting -/
structure Ov where
  nm : ByteArray
  vl : ByteArray

def SetAt (w : World) (p : Option Addr) (k : Nat) (s : St) : Prop :=
  ∃ b off, p = some ⟨b, off, none⟩ ∧ w.cell? ⟨b, off + k * 3, none⟩ = some (.string s.nm) ∧ w.cell? ⟨b, off + k * 3 + 1, none⟩ = some (.string s.vl) ∧ w.cell? ⟨b, off + k * 3 + 2, none⟩ = some (.bool s.sk)
def SetsAt (w : World) (p : Option Addr) (ss : List St) : Prop := ∀ k s, ss[k]? = some s → SetAt w p k s
def OvAt (w : World) (p : Option Addr) (k : Nat) (s : Ov) : Prop :=
  ∃ b off, p = some ⟨b, off, none⟩ ∧ w.cell? ⟨b, off + k * 2, none⟩ = some (.string s.nm) ∧ w.cell? ⟨b, off + k * 2 + 1, none⟩ = some (.string s.vl)
def OvsAt (w : World) (p : Option Addr) (os : List Ov) : Prop := ∀ k s, os[k]? = some s → OvAt w p k s

def big : Nat := 9223372036854775807
def SzS (ss : List St) : Prop := ∀ s ∈ ss, s.nm.size ≤ 9223372036854775807 ∧ s.vl.size ≤ 9223372036854775807
def SzO (os : List Ov) : Prop := ∀ s ∈ os, s.nm.size ≤ 9223372036854775807 ∧ s.vl.size ≤ 9223372036854775807

theorem cell_lt {w : World} {a : Addr} {v : Value} (hc : w.cell? a = some v) : a.block < w.heap.size := by
  rcases Nat.lt_or_ge a.block w.heap.size with h | h
  · exact h
  · simp [World.cell?, Array.getElem?_eq_none h] at hc

theorem SetsAt.below {w w' : World} {p : Option Addr} {ss : List St} (h : SetsAt w p ss) (hb : Below w.heap.size w w') : SetsAt w' p ss := by
  intro k s hk
  obtain ⟨b, off, hp, h0, h1, h2⟩ := h k s hk
  exact ⟨b, off, hp, (hb.cell (cell_lt h0)).trans h0, (hb.cell (cell_lt h1)).trans h1, (hb.cell (cell_lt h2)).trans h2⟩

theorem OvsAt.below {w w' : World} {p : Option Addr} {ss : List Ov} (h : OvsAt w p ss) (hb : Below w.heap.size w w') : OvsAt w' p ss := by
  intro k s hk
  obtain ⟨b, off, hp, h0, h1⟩ := h k s hk
  exact ⟨b, off, hp, (hb.cell (cell_lt h0)).trans h0, (hb.cell (cell_lt h1)).trans h1⟩

theorem drewN_below {B : Nat} {a w : World} (h : Below B a w) (n : Nat) : Below B a (w.drewN n) := h.trans ⟨rfl, rfl, rfl, Nat.le_refl _, fun _ _ => rfl⟩

theorem drewN_drewN (w : World) (a b : Nat) : (w.drewN a).drewN b = w.drewN (a + b) := by
  unfold World.drewN
  simp [Nat.add_assoc]

def costS (s : St) : Nat := 40 + s.nm.size + s.vl.size
def costO (s : Ov) : Nat := 32 + s.nm.size + s.vl.size
def totS (ss : List St) : Nat := (ss.map costS).sum
def totO (ss : List Ov) : Nat := (ss.map costO).sum

theorem totS_step (ss : List St) (k : Nat) (s : St) (h : ss[k]? = some s) : totS (ss.take (k + 1)) = totS (ss.take k) + costS s := by
  unfold totS
  rw [List.take_add_one, h]
  simp
theorem totO_step (ss : List Ov) (k : Nat) (s : Ov) (h : ss[k]? = some s) : totO (ss.take (k + 1)) = totO (ss.take k) + costO s := by
  unfold totO
  rw [List.take_add_one, h]
  simp

set_option maxRecDepth 100000 in
set_option maxHeartbeats 2000000 in
theorem sets8 (p : Option Addr) (ss : List St) (c : Nat) (w : World) (hn : ss.length ≤ 1048576) (hS : SetsAt w p ss) (hz : SzS ss) :
    Calls Try.prog 8 #[.slice p ss.length c] w fun e w' => (∃ n : Nat, e = .returned (.int .i64 n) ∧ n ≤ 4194304 ∧ (n ≤ 1048576 → n = totS ss)) ∧ ∃ q, w' = w.drewN q := by
  have HS := hide hS
  have HZ := hide hz
  clear hS hz
  go_enter Try.func8, Try.ntmps8
  go_wp2
  go_loopw [3, 4] (fun n i wr => ∃ k m : Nat, k ≤ ss.length ∧ i = .int .i64 k ∧ n = .int .i64 m ∧ m ≤ 1048576 ∧ Hid (m = totS (ss.take k)) ∧ ∃ q, wr = w.drewN q) (fun _ i _ => ss.length - (intOf i).toNat)
  case atStart => exact ⟨0, 0, Nat.zero_le _, rfl, rfl, Nat.zero_le _, rfl, 0, rfl⟩
  case round =>
    obtain ⟨k, m, hk, rfl, rfl, hm, HM, q, rfl⟩ := hrel
    by_cases hlt : k < ss.length
    · have hget : ss[k]? = some ss[k] := List.getElem?_eq_getElem hlt
      obtain ⟨hz1, hz2⟩ := HZ.out ss[k] (List.getElem_mem hlt)
      obtain ⟨b, off, rfl, c0, c1, c2⟩ := HS.out k ss[k] hget
      have HT := hide (totS_step ss k ss[k] hget)
      have HC : Hid (costS ss[k] = 40 + ss[k].nm.size + ss[k].vl.size) := rfl
      have HG := hide hget
      generalize ss[k] = s at hz1 hz2 c0 c1 c2 HT HC HG
      generalize hx : s.nm = x at hz1 c0 HC
      generalize hy : s.vl = y at hz2 c1 HC
      clear hget hx hy c2
      by_cases hx1 : (1048576 : Int) < (x.size : Int)
      · go_wp2
        go_ret
        exact ⟨⟨1048577, rfl, by omega, fun h => by omega⟩, q, rfl⟩
      · by_cases hy1 : (1048576 : Int) < (y.size : Int)
        · go_wp2
          go_ret
          exact ⟨⟨1048577, rfl, by omega, fun h => by omega⟩, q, rfl⟩
        · go_wp2_with fail
          go_quiet (fail)
          rw [drewN_drewN]
          have em : ((m : Int) + (40 + (x.size : Int) + (y.size : Int))) = ((m + (40 + x.size + y.size) : Nat) : Int) := by push_cast; rfl
          rw [em]
          have HM2 : Hid (m + (40 + x.size + y.size) = totS (ss.take (k + 1))) := by rw [HT.out, ← HM.out, HC.out]; exact rfl
          have hm2 : m + (40 + x.size + y.size) ≤ 4194304 := by omega
          generalize m + (40 + x.size + y.size) = m2 at HM2 hm2 ⊢
          clear em
          by_cases hs1 : (1048576 : Int) < (m2 : Int)
          · go_wp2
            go_ret
            exact ⟨⟨m2, rfl, hm2, fun h => by omega⟩, _, rfl⟩
          · go_wp2
            go_roundw
            case rel => exact ⟨k + 1, m2, by omega, by go_num, rfl, by omega, HM2, _, rfl⟩
            case measure => simp [intOf]; omega
    · have hkt : ss.take k = ss := List.take_of_length_le (by omega)
      have HE : Hid (m = totS ss) := by rw [HM.out, hkt]; exact rfl
      clear hkt
      go_wp2
      go_ret
      exact ⟨⟨m, rfl, by omega, fun _ => HE.out⟩, q, rfl⟩
set_option maxRecDepth 100000 in
set_option maxHeartbeats 2000000 in
theorem overs14 (p : Option Addr) (ss : List Ov) (c : Nat) (w : World) (hn : ss.length ≤ 1048576) (hS : OvsAt w p ss) (hz : SzO ss) :
    Calls Try.prog 14 #[.slice p ss.length c] w fun e w' => (∃ n : Nat, e = .returned (.int .i64 n) ∧ n ≤ 4194304 ∧ (n ≤ 1048576 → n = totO ss)) ∧ ∃ q, w' = w.drewN q := by
  have HS := hide hS
  have HZ := hide hz
  clear hS hz
  go_enter Try.func14, Try.ntmps14
  go_wp2
  go_loopw [3, 4] (fun n i wr => ∃ k m : Nat, k ≤ ss.length ∧ i = .int .i64 k ∧ n = .int .i64 m ∧ m ≤ 1048576 ∧ Hid (m = totO (ss.take k)) ∧ ∃ q, wr = w.drewN q) (fun _ i _ => ss.length - (intOf i).toNat)
  case atStart => exact ⟨0, 0, Nat.zero_le _, rfl, rfl, Nat.zero_le _, rfl, 0, rfl⟩
  case round =>
    obtain ⟨k, m, hk, rfl, rfl, hm, HM, q, rfl⟩ := hrel
    by_cases hlt : k < ss.length
    · have hget : ss[k]? = some ss[k] := List.getElem?_eq_getElem hlt
      obtain ⟨hz1, hz2⟩ := HZ.out ss[k] (List.getElem_mem hlt)
      obtain ⟨b, off, rfl, c0, c1⟩ := HS.out k ss[k] hget
      have HT := hide (totO_step ss k ss[k] hget)
      have HC : Hid (costO ss[k] = 32 + ss[k].nm.size + ss[k].vl.size) := rfl
      have HG := hide hget
      generalize ss[k] = s at hz1 hz2 c0 c1 HT HC HG
      generalize hx : s.nm = x at hz1 c0 HC
      generalize hy : s.vl = y at hz2 c1 HC
      clear hget hx hy
      by_cases hx1 : (1048576 : Int) < (x.size : Int)
      · go_wp2
        go_ret
        exact ⟨⟨1048577, rfl, by omega, fun h => by omega⟩, q, rfl⟩
      · by_cases hy1 : (1048576 : Int) < (y.size : Int)
        · go_wp2
          go_ret
          exact ⟨⟨1048577, rfl, by omega, fun h => by omega⟩, q, rfl⟩
        · go_wp2_with fail
          go_quiet (fail)
          rw [drewN_drewN]
          have em : ((m : Int) + (32 + (x.size : Int) + (y.size : Int))) = ((m + (32 + x.size + y.size) : Nat) : Int) := by push_cast; rfl
          rw [em]
          have HM2 : Hid (m + (32 + x.size + y.size) = totO (ss.take (k + 1))) := by rw [HT.out, ← HM.out, HC.out]; exact rfl
          have hm2 : m + (32 + x.size + y.size) ≤ 4194304 := by omega
          generalize m + (32 + x.size + y.size) = m2 at HM2 hm2 ⊢
          clear em
          by_cases hs1 : (1048576 : Int) < (m2 : Int)
          · go_wp2
            go_ret
            exact ⟨⟨m2, rfl, hm2, fun h => by omega⟩, _, rfl⟩
          · go_wp2
            go_roundw
            case rel => exact ⟨k + 1, m2, by omega, by go_num, rfl, by omega, HM2, _, rfl⟩
            case measure => simp [intOf]; omega
    · have hkt : ss.take k = ss := List.take_of_length_le (by omega)
      have HE : Hid (m = totO ss) := by rw [HM.out, hkt]; exact rfl
      clear hkt
      go_wp2
      go_ret
      exact ⟨⟨m, rfl, by omega, fun _ => HE.out⟩, q, rfl⟩
end Go.Proofs.Qxb6600233a
