import Derived.Test.Qxb6600233aNames
namespace Go.Proofs.Qxb6600233a
open Go.RowKit
set_option linter.unusedVariables false

def sufA : ByteArray := ⟨#[32, 40, 115, 116, 105, 99, 107, 121, 44, 32, 111, 118, 101, 114, 114, 105, 100, 101, 115, 32, 116, 104, 101, 32, 114, 101, 108, 101, 97, 115, 101, 39, 115, 41]⟩
def sufB : ByteArray := ⟨#[32, 40, 115, 116, 105, 99, 107, 121, 41]⟩
/-- what stands behind the name -/
def sfx (os : List Ov) (s : St) : ByteArray := if s.sk then (if hasName os s.nm then sufA else sufB) else ⟨#[]⟩
def nameOf (os : List Ov) (s : St) : ByteArray := if s.sk then (if hasName os s.nm then s.nm ++ sufA else s.nm ++ sufB) else s.nm

def strV (x : ByteArray) : Value := .string x

theorem own_below {w w' : World} {N k n : Nat} {vs : List Value} (h : w.ownsRow N 9 1 (.slice (some ⟨N, 0, none⟩) k n) k vs) (hb : Below w.heap.size w w') : w'.ownsRow N 9 1 (.slice (some ⟨N, 0, none⟩) k n) k vs :=
  World.ownsRow.kept (row := none) h ⟨hb.os, hb.tape, hb.output, hb.size, fun j hj _ => hb.block j hj⟩ (Or.inr (by simp [Value.ownBlock]))

/-- the text of the settings -/
def joined (ss : List St) (os : List Ov) : ByteArray := ⟨(Lib.join ((ss.map (nameOf os)).map (·.data.toList)) [44, 32]).toArray⟩

theorem join_call {ss : List St} {os : List Ov} {N : Nat} {w : World} (h : w.ownsRow N 9 1 (.slice (some ⟨N, 0, none⟩) ss.length ss.length) ss.length ((ss.map (nameOf os)).map strV))
    (hlen : (Lib.join ((ss.map (nameOf os)).map (·.data.toList)) [44, 32]).length ≤ 140737488355328) (hn : ss.length ≤ 1048576) :
    Calls Try.prog 26 #[.slice (some ⟨N, 0, none⟩) ss.length ss.length, .string ⟨#[44, 32]⟩] w fun e w' => e = .returned (.string (joined ss os)) ∧ Below w.heap.size w w' := by
  have hl := (World.ownsRow.lt h N rfl).2
  have := Try.strings_Join N 0 ss.length (ss.map (nameOf os)) ⟨#[44, 32]⟩ w (fun j x hj => by
    have := World.ownsRow.cells h (g := N) rfl j (strV x) (by rw [List.getElem?_map, hj]; rfl)
    have hadd : (⟨N, 0, none⟩ : Addr).add j = ⟨N, 0 + j, none⟩ := by unfold Addr.add; split <;> simp_all
    rw [hadd] at this
    exact this) hl (by rw [List.length_map]; omega) (by rw [List.length_map]; exact Nat.le_refl _) hlen
  rw [List.length_map] at this
  exact this

theorem names_snoc {ss : List St} {os : List Ov} {k : Nat} {s : St} {v : ByteArray} (hk : ss[k]? = some s) (hv : v = nameOf os s) :
    ((ss.take (k + 1)).map (nameOf os)).map strV = ((ss.take k).map (nameOf os)).map strV ++ [strV v] := by
  rw [List.take_add_one, hk, hv]
  simp

set_option maxRecDepth 100000 in
set_option maxHeartbeats 2000000 in
theorem names21 (p p2 : Option Addr) (ss : List St) (os : List Ov) (c c2 : Nat) (w : World) (hn : ss.length ≤ 1048576) (hn2 : os.length ≤ 1048576) (hS : SetsAt w p ss) (hO : OvsAt w p2 os) (hz : ∀ s ∈ ss, s.nm.size ≤ 1048576)
    (hlen : (Lib.join ((ss.map (nameOf os)).map (·.data.toList)) [44, 32]).length ≤ 140737488355328) :
    Calls Try.prog 21 #[.slice p ss.length c, .slice p2 os.length c2] w fun e w' => e = .returned (.string (joined ss os)) ∧ Below w.heap.size w w' := by
  have HS := hide hS
  have HO := hide hO
  have HZ := hide hz
  have HL := hide hlen
  obtain ⟨i0, hi, hz0, hz1, hz2⟩ := info_parts Try.info9
  clear hS hO hz hlen
  go_enter Try.func21, Try.ntmps21
  go_wp2_with (first | (at_make; refine wpList_make_own _ rfl _ _ 23 rfl w.heap.size 9 i0 (.string ⟨#[]⟩) 1 Try.underlying23 hi hz0 hz1 .i64 .i64 ss.length ss.length rfl rfl rfl (by rw [hz2]; omega) (by unfold maxLen; omega) (by simp) ?_; intro w1 hown hgrow) | fail)
  have HW : Hid (w1.ownsRow w.heap.size 9 1 (.slice (some ⟨w.heap.size, 0, none⟩) 0 ss.length) 0 []) := hown
  have HB0 : Hid (Below w.heap.size w w1) := (Below.refl _ _).grown hgrow (Nat.le_refl _) (fun k hk => by cases hk)
  clear hown hgrow
  go_loopw [5, 15] (fun o i wr => ∃ k : Nat, k ≤ ss.length ∧ i = .int .i64 k ∧ o = .slice (some ⟨w.heap.size, 0, none⟩) k ss.length ∧ Hid (wr.ownsRow w.heap.size 9 1 (.slice (some ⟨w.heap.size, 0, none⟩) k ss.length) k (((ss.take k).map (nameOf os)).map strV)) ∧ Hid (Below w.heap.size w wr)) (fun _ i _ => ss.length - (intOf i).toNat)
  case atStart => exact ⟨0, Nat.zero_le _, rfl, rfl, HW, HB0⟩
  case round =>
    clear HW HB0
    obtain ⟨k, hk, rfl, rfl, HR, HB⟩ := hrel
    by_cases hlt : k < ss.length
    · have hget : ss[k]? = some ss[k] := List.getElem?_eq_getElem hlt
      have hzn := HZ.out ss[k] (List.getElem_mem hlt)
      obtain ⟨b, off, rfl, c0, c1, cs⟩ := (HS.out.below HB.out) k ss[k] hget
      generalize ss[k] = s at c0 c1 cs hget hzn
      have HG := hide hget
      clear hget
      go_wp2_with fail
      have hA0 : (wr.alloc (.cells #[.string s.nm, .string s.vl, .bool s.sk] 46)).cell? ⟨wr.heap.size, 0, none⟩ = some (.string s.nm) := by
        rw [cell_of_row _ wr.heap.size 0 _ _ (0, 0) (heap_alloc_new wr _)]; rfl
      have hA2 : (wr.alloc (.cells #[.string s.nm, .string s.vl, .bool s.sk] 46)).cell? ⟨wr.heap.size, 2, none⟩ = some (.bool s.sk) := by
        rw [cell_of_row _ wr.heap.size 2 _ _ (0, 0) (heap_alloc_new wr _)]; rfl
      have hlA : wr.heap.size < (wr.alloc (.cells #[.string s.nm, .string s.vl, .bool s.sk] 46)).heap.size := by simp
      have HRA : Hid ((wr.alloc (.cells #[.string s.nm, .string s.vl, .bool s.sk] 46)).ownsRow w.heap.size 9 1 (.slice (some ⟨w.heap.size, 0, none⟩) k ss.length) k (((ss.take k).map (nameOf os)).map strV)) := World.ownsRow.alloc HR.out _
      have HBA : Hid (Below w.heap.size w (wr.alloc (.cells #[.string s.nm, .string s.vl, .bool s.sk] 46))) := HB.out.alloc HB.out.size _
      generalize wr.alloc (.cells #[.string s.nm, .string s.vl, .bool s.sk] 46) = wa at hA0 hA2 hlA HRA HBA ⊢
      generalize wr.heap.size = B at hA0 hA2 hlA ⊢
      refine (has24 p2 os _ B s.nm wa hn2 (HO.out.below HBA.out) hlA hA0).mono ?_
      rintro e w2 ⟨rfl, hb2⟩
      have d0 := (hb2.cell (p := ⟨B, 0, none⟩) hlA).trans hA0
      have d2 := (hb2.cell (p := ⟨B, 2, none⟩) hlA).trans hA2
      have hNa := (World.ownsRow.lt HRA.out w.heap.size rfl).2
      have HR2 : Hid (w2.ownsRow w.heap.size 9 1 (.slice (some ⟨w.heap.size, 0, none⟩) k ss.length) k (((ss.take k).map (nameOf os)).map strV)) := own_below HRA.out hb2
      have HB2 : Hid (Below w.heap.size w w2) := HBA.out.trans (hb2.mono HBA.out.size)
      have hN2 : w.heap.size < w2.heap.size := Nat.lt_of_lt_of_le hNa hb2.size
      have HK := hide hlt
      clear hA0 hA2 hb2 HRA HBA HR HB
      have HVN : Hid (nameOf os s = if s.sk then (if hasName os s.nm then s.nm ++ sufA else s.nm ++ sufB) else s.nm) := rfl
      generalize s.nm = x at hzn d0 c0 HVN ⊢
      clear c0 c1 cs
      rcases hsk : s.sk with _ | _
      · rw [hsk] at d2 HVN
        have HV : Hid (x = nameOf os s) := HVN.out.symm
        clear hsk HVN
        go_wp2_with (first | (at_builtin; refine wpList_append_own_spare _ rfl _ _ 23 rfl w.heap.size 9 i0 1 Try.underlying23 hi hz1 w.heap.size k ss.length _ rfl (World.ownsRow.alloc HR2.out _) ⟨w2.heap.size, 0, none⟩ 1 1 [strV (x)] rfl rfl (cell_one_new w2 _ _) (fun u hu => by rw [List.mem_singleton] at hu; subst hu; rfl) (by omega) ?_; intro w3 hown3 hgrow3) | fail)
        go_roundw
        case rel =>
          refine ⟨k + 1, by omega, by go_num, rfl, ?_, (HB2.out.alloc (by omega) _).grown hgrow3 (by simp; omega) (fun j hj => by cases hj; exact Nat.le_refl _)⟩
          rw [names_snoc HG.out HV.out]
          exact hown3
        case measure => simp [intOf]; omega
      · rw [hsk] at d2 HVN
        rcases hh : hasName os x with _ | _
        · rw [hh] at HVN
          have HV : Hid (x ++ sufB = nameOf os s) := HVN.out.symm
          clear hsk HVN hh
          go_wp2_with (first | (at_builtin; refine wpList_append_own_spare _ rfl _ _ 23 rfl w.heap.size 9 i0 1 Try.underlying23 hi hz1 w.heap.size k ss.length _ rfl (World.ownsRow.alloc HR2.out _) ⟨w2.heap.size, 0, none⟩ 1 1 [strV (x ++ sufB)] rfl rfl (cell_one_new w2 _ _) (fun u hu => by rw [List.mem_singleton] at hu; subst hu; rfl) (by omega) ?_; intro w3 hown3 hgrow3) | fail)
          go_roundw
          case rel =>
            refine ⟨k + 1, by omega, by go_num, rfl, ?_, (HB2.out.alloc (by omega) _).grown hgrow3 (by simp; omega) (fun j hj => by cases hj; exact Nat.le_refl _)⟩
            rw [names_snoc HG.out HV.out]
            exact hown3
          case measure => simp [intOf]; omega
        · rw [hh] at HVN
          have HV : Hid (x ++ sufA = nameOf os s) := HVN.out.symm
          clear hsk HVN hh
          go_wp2_with (first | (at_builtin; refine wpList_append_own_spare _ rfl _ _ 23 rfl w.heap.size 9 i0 1 Try.underlying23 hi hz1 w.heap.size k ss.length _ rfl (World.ownsRow.alloc HR2.out _) ⟨w2.heap.size, 0, none⟩ 1 1 [strV (x ++ sufA)] rfl rfl (cell_one_new w2 _ _) (fun u hu => by rw [List.mem_singleton] at hu; subst hu; rfl) (by omega) ?_; intro w3 hown3 hgrow3) | fail)
          go_roundw
          case rel =>
            refine ⟨k + 1, by omega, by go_num, rfl, ?_, (HB2.out.alloc (by omega) _).grown hgrow3 (by simp; omega) (fun j hj => by cases hj; exact Nat.le_refl _)⟩
            rw [names_snoc HG.out HV.out]
            exact hown3
          case measure => simp [intOf]; omega
    · obtain rfl : k = ss.length := by omega
      rw [List.take_length] at HR
      go_wp2_with fail
      refine (join_call HR.out HL.out hn).mono ?_
      rintro e w3 ⟨rfl, hb3⟩
      have HB3 : Hid (Below w.heap.size w w3) := HB.out.trans (hb3.mono HB.out.size)
      clear hb3
      go_wp2
      go_ret
      exact ⟨rfl, HB3.out⟩
end Go.Proofs.Qxb6600233a
