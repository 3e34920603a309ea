import Derived.Test.Qxb6600233aBytes
import Derived.ProofKit
import Derived.Deep.Slices
import Derived.Deep.Strs
import Derived.ChangeOld
namespace Go.Proofs.Qxb6600233a
open Go.ChangeShapes Go.WideShapes Go.ChangeAt Go.RowKit Go.Deep
set_option linter.unusedVariables false

theorem Try.cells41 : Try.prog.cellsOf 41 = 3 := by kernel_rfl
theorem Try.cells43 : Try.prog.cellsOf 43 = 2 := by kernel_rfl
theorem Try.cells9 : Try.prog.cellsOf 9 = 1 := by kernel_rfl
theorem Try.cells4 : Try.prog.cellsOf 4 = 1 := by kernel_rfl

instance : Inhabited St := ⟨⟨⟨#[]⟩, ⟨#[]⟩, false⟩⟩
instance : Inhabited Ov := ⟨⟨⟨#[]⟩, ⟨#[]⟩⟩⟩

theorem addr_none {w : World} {base n : Nat} {a : Addr} {cs : List Value} (h : w.cells? base (a.add (0 * n)) n = some cs) (hn : 0 < n) : ∃ b off, a = ⟨b, off, none⟩ := by
  obtain ⟨_, hl, hc⟩ := World.cells?_some h
  have h0 := hc 0 hn
  rw [List.getElem?_eq_getElem (by omega), Nat.zero_mul] at h0
  have hs := World.cell?_spot h0
  obtain ⟨b, off, spot⟩ := a
  have : spot = none := by simpa [Addr.add] using hs
  subst this
  exact ⟨b, off, rfl⟩

theorem add_two (b off i j : Nat) : (((⟨b, off, none⟩ : Addr).add i).add j) = ⟨b, off + i + j, none⟩ := by
  rw [add_add, add_plain, Nat.add_assoc]

section
variable {H : Type} {enc : TypeId × Value → H} {W : World} {base : Nat} {sp : Nat → Bool} {held : Bool}

theorem open_sets {a0 : Option Addr} {len cap : Nat} {d : DataW H} {p : List MemPlace} (h : DataW.Trod enc Try.prog W base sp held 22 (.slice a0 len cap) d p) :
    ∃ ss : List St, ss.length = len ∧ SetsAt W a0 ss ∧ SzS ss ∧ (a0 = none → len = 0 ∧ cap = 0) ∧ len ≤ maxLen := by
  obtain ⟨fuel, hf⟩ := h
  rcases open_slice Try.underlying22 hf with ⟨hcs, _⟩ | ⟨a, len', cap', m, n, D, Pl, hcs, _, hl, hm, hmm, _, hel⟩
  · simp [Value.cells] at hcs
    obtain ⟨rfl, rfl, rfl⟩ := hcs
    exact ⟨[], rfl, (fun k s hk => (by simp at hk)), (fun s hs => (by cases hs)), fun _ => ⟨rfl, rfl⟩, Nat.zero_le _⟩
  · simp [Value.cells] at hcs
    obtain ⟨rfl, rfl, rfl⟩ := hcs
    have hle : len ≤ m := by rw [hmm]; split <;> omega
    have key : ∀ i, i < len → ∃ s : St, SetAt W (some a) i s ∧ s.nm.size ≤ 9223372036854775807 ∧ s.vl.size ≤ 9223372036854775807 := by
      intro i hi
      obtain ⟨cs0, hc0, _⟩ := hel 0 (by omega)
      obtain ⟨cs', hc, ht⟩ := hel i (by omega)
      rw [Try.cells41] at hc hc0
      obtain ⟨bk, off, rfl⟩ := addr_none hc0 (by decide)
      obtain ⟨_, hcl, hcell⟩ := World.cells?_some hc
      obtain ⟨y0, y1, y2, k, _, _, g0, g1, g2⟩ := trod_struct3 Try.underlying41 ht
      match cs', hcl with
      | [u0, u1, u2], _ =>
        have e0 : DataW.trod enc Try.prog W base sp held k 9 (([u0, u1, u2].drop 0).take (Try.prog.cellsOf 9)) = some y0 := g0
        have e1 : DataW.trod enc Try.prog W base sp held k 9 (([u0, u1, u2].drop 1).take (Try.prog.cellsOf 9)) = some y1 := g1
        have e2 : DataW.trod enc Try.prog W base sp held k 4 (([u0, u1, u2].drop 2).take (Try.prog.cellsOf 4)) = some y2 := g2
        rw [Try.cells9] at e0 e1
        rw [Try.cells4] at e2
        obtain ⟨x, hx, _, hxs⟩ := DataW.trod_string Try.underlying9 e0
        obtain ⟨y, hy, _, hys⟩ := DataW.trod_string Try.underlying9 e1
        obtain ⟨b, hb, _⟩ := DataW.trod_bool Try.underlying4 e2
        simp at hx hy hb
        subst hx hy hb
        have c0 := hcell 0 (by omega)
        have c1 := hcell 1 (by omega)
        have c2 := hcell 2 (by omega)
        simp only [List.getElem?_cons_zero, List.getElem?_cons_succ] at c0 c1 c2
        unfold maxLen at hxs hys
        rw [add_two] at c0 c1 c2
        exact ⟨⟨x, y, b⟩, ⟨bk, off, rfl, c0, c1, c2⟩, by omega, by omega⟩
    obtain ⟨f, hfn⟩ := choose_lt key
    refine ⟨(List.range len).map f, by simp, ?_, ?_, (fun h => by cases h), by unfold maxLen at hm ⊢; omega⟩
    · intro k s hk
      have hlt : k < len := by
        rcases Nat.lt_or_ge k len with h | h
        · exact h
        · rw [List.getElem?_eq_none (by simpa using h)] at hk; cases hk
      rw [List.getElem?_map, List.getElem?_range hlt] at hk
      simp at hk
      subst hk
      exact (hfn k hlt).1
    · intro s hs
      obtain ⟨k, hk, rfl⟩ := List.mem_map.1 hs
      exact (hfn k (List.mem_range.1 hk)).2

theorem open_ovs {a0 : Option Addr} {len cap : Nat} {d : DataW H} {p : List MemPlace} (h : DataW.Trod enc Try.prog W base sp held 33 (.slice a0 len cap) d p) :
    ∃ ss : List Ov, ss.length = len ∧ OvsAt W a0 ss ∧ SzO ss ∧ (a0 = none → len = 0 ∧ cap = 0) ∧ len ≤ maxLen := by
  obtain ⟨fuel, hf⟩ := h
  rcases open_slice Try.underlying33 hf with ⟨hcs, _⟩ | ⟨a, len', cap', m, n, D, Pl, hcs, _, hl, hm, hmm, _, hel⟩
  · simp [Value.cells] at hcs
    obtain ⟨rfl, rfl, rfl⟩ := hcs
    exact ⟨[], rfl, (fun k s hk => (by simp at hk)), (fun s hs => (by cases hs)), fun _ => ⟨rfl, rfl⟩, Nat.zero_le _⟩
  · simp [Value.cells] at hcs
    obtain ⟨rfl, rfl, rfl⟩ := hcs
    have hle : len ≤ m := by rw [hmm]; split <;> omega
    have key : ∀ i, i < len → ∃ s : Ov, OvAt W (some a) i s ∧ s.nm.size ≤ 9223372036854775807 ∧ s.vl.size ≤ 9223372036854775807 := by
      intro i hi
      obtain ⟨cs0, hc0, _⟩ := hel 0 (by omega)
      obtain ⟨cs', hc, ht⟩ := hel i (by omega)
      rw [Try.cells43] at hc hc0
      obtain ⟨bk, off, rfl⟩ := addr_none hc0 (by decide)
      obtain ⟨_, hcl, hcell⟩ := World.cells?_some hc
      obtain ⟨y0, y1, k, _, _, g0, g1⟩ := trod_struct2 Try.underlying43 ht
      match cs', hcl with
      | [u0, u1], _ =>
        have e0 : DataW.trod enc Try.prog W base sp held k 9 (([u0, u1].drop 0).take (Try.prog.cellsOf 9)) = some y0 := g0
        have e1 : DataW.trod enc Try.prog W base sp held k 9 (([u0, u1].drop 1).take (Try.prog.cellsOf 9)) = some y1 := g1
        rw [Try.cells9] at e0 e1
        obtain ⟨x, hx, _, hxs⟩ := DataW.trod_string Try.underlying9 e0
        obtain ⟨y, hy, _, hys⟩ := DataW.trod_string Try.underlying9 e1
        simp at hx hy
        subst hx hy
        have c0 := hcell 0 (by omega)
        have c1 := hcell 1 (by omega)
        simp only [List.getElem?_cons_zero, List.getElem?_cons_succ] at c0 c1
        unfold maxLen at hxs hys
        rw [add_two] at c0 c1
        exact ⟨⟨x, y⟩, ⟨bk, off, rfl, c0, c1⟩, by omega, by omega⟩
    obtain ⟨f, hfn⟩ := choose_lt key
    refine ⟨(List.range len).map f, by simp, ?_, ?_, (fun h => by cases h), by unfold maxLen at hm ⊢; omega⟩
    · intro k s hk
      have hlt : k < len := by
        rcases Nat.lt_or_ge k len with h | h
        · exact h
        · rw [List.getElem?_eq_none (by simpa using h)] at hk; cases hk
      rw [List.getElem?_map, List.getElem?_range hlt] at hk
      simp at hk
      subst hk
      exact (hfn k hlt).1
    · intro s hs
      obtain ⟨k, hk, rfl⟩ := List.mem_map.1 hs
      exact (hfn k (List.mem_range.1 hk)).2
end
end Go.Proofs.Qxb6600233a
