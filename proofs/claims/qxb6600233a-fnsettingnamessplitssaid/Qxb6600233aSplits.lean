import Derived.Test.Qxb6600233aSplitPlain
import Derived.Test.Qxb6600233aZz2
import Derived.Deep.RegionLaw
import Derived.BigRegion
namespace Go.Proofs.Qxb6600233a
open Go.RowKit
set_option linter.unusedVariables false

theorem make_ab (n m : Nat) (hn : n ≤ 65536) (hm : m ≤ 65536) (w : World) :
    (Instr.makeSlice 30 (.int .i64 0) (.int .i64 ((n : Int) + (m : Int)))).run Try.prog w = .ok (.slice (some ⟨w.heap.size, 0, none⟩) 0 (n + m)) (w.alloc (.cells (madeCells #[.string ⟨#[]⟩, .string ⟨#[]⟩, .bool false] ((n + m) * 3)) 46)) := by
  obtain ⟨i, hi, hzz⟩ := Option.map_eq_some_iff.1 Try.info46
  simp only [Prod.mk.injEq] at hzz
  obtain ⟨hz, hs, hb⟩ := hzz
  have hr := run_make (P := Try.prog) w 30 46 i _ Try.underlying30 hi hz .i64 .i64 0 ((n + m : Nat) : Int) (by omega) (by omega) (by rw [hb]; omega) (by omega)
  simp only [Int.toNat_natCast, hs] at hr
  push_cast at hr
  exact hr

theorem cells_new3 (w : World) (x y z : Value) : ∀ j u, [x, y, z][j]? = some u → (w.alloc (.cells #[x, y, z] 46)).cell? ((⟨w.heap.size, 0, none⟩ : Addr).add j) = some u := by
  intro j u hj
  have hadd : (⟨w.heap.size, 0, none⟩ : Addr).add j = ⟨w.heap.size, j, none⟩ := by unfold Addr.add; split <;> simp_all
  rw [hadd, cell_of_row _ w.heap.size j _ 46 (0, 0) (heap_alloc_new w _)]
  simpa using hj

theorem one_cell3 {x y : ByteArray} {b : Bool} : ∀ u ∈ [Value.string x, .string y, .bool b], u.oneCell' = true := by
  intro u hu
  simp at hu
  rcases hu with rfl | rfl | rfl <;> rfl

theorem spare3 {w : World} {N cp k : Nat} {ss : List St} {o : Obj} {x y z : Value} (h : w.rowIs N 46 (cp * 3) (stCell ss k)) (hk : k < cp) : ∀ j, j < [x, y, z].length → (((w.drew).alloc o).cell? ⟨N, 0 + k * 3 + j, none⟩).isSome = true ∧ ((w.drew).alloc o).frozen? ⟨N, 0 + k * 3 + j, none⟩ = false := by
  intro j hj
  have h2 : ((w.drew).alloc o).rowIs N 46 (cp * 3) (stCell ss k) := h.drew.alloc o
  have hj3 : j < 3 := hj
  refine ⟨?_, h2.frozen _⟩
  rw [h2.cell (by omega)]
  rfl

theorem ab_step {w : World} {N cp k : Nat} {ss : List St} {s : St} (hk : ss[k]? = some s) (h : w.rowIs N 46 (cp * 3) (stCell ss k)) :
    ((w.alloc (.cells #[.string s.nm, .string s.vl, .bool s.sk] 46)).drew.setCells N (k * 3) [.string s.nm, .string s.vl, .bool s.sk]).rowIs N 46 (cp * 3) (stCell ss (k + 1)) :=
  set_step hk ((h.alloc _).drew)

theorem ab_below {w wr : World} {o : Obj} (h : Below w.heap.size w wr) (k : Nat) (vs : List Value) : Below w.heap.size w ((wr.alloc o).drew.setCells w.heap.size k vs) := by
  have h1 : Below w.heap.size w (wr.alloc o).drew := (h.alloc h.size o).drew
  generalize (wr.alloc o).drew = wx at h1
  induction vs generalizing k wx with
  | nil => exact h1
  | cons v r ih => exact ih (k + 1) _ (h1.setCell (Nat.le_refl _) v)

set_option maxRecDepth 100000 in
set_option maxHeartbeats 8000000 in
theorem splits6 (p p1 p2 : Option Addr) (sa sb : List St) (os : List Ov) (c c1 c2 : Nat) (w : World) (hl0 : sa.length ≤ 9223372036854775807) (hl1 : sb.length ≤ 9223372036854775807) (hl2 : os.length ≤ 9223372036854775807)
    (hp : p = none → sa.length = 0 ∧ c = 0) (hp1 : p1 = none → sb.length = 0 ∧ c1 = 0) (hp2 : p2 = none → os.length = 0 ∧ c2 = 0)
    (hS : SetsAt w p sa) (hz : SzS sa) (hS1 : SetsAt w p1 sb) (hz1 : SzS sb) (hO : OvsAt w p2 os) (hzo : SzO os) :
    Calls Try.prog 6 #[.slice p sa.length c, .slice p1 sb.length c1, .slice p2 os.length c2] w fun e w' => e = .returned (.bool true) ∧ Below w.heap.size w w' := by
  have HS := hide hS
  have HZ := hide hz
  have HS1 := hide hS1
  have HZ1 := hide hz1
  have HO := hide hO
  have HZO := hide hzo
  have HP := hide hp
  have HP1 := hide hp1
  have HP2 := hide hp2
  clear hS hz hS1 hz1 hO hzo hp hp1 hp2
  go_enter Try.func6, Try.ntmps6
  go_wp2_with fail
  refine (zz19 p p1 p2 sa sb os c c1 c2 w hl0 hl1 hl2 HS.out HZ.out HS1.out HZ1.out HO.out HZO.out).mono ?_
  rintro e w1 ⟨⟨bz, rfl⟩, hw1⟩
  subst w1
  cases bz
  · go_wp2
    go_ret
    exact ⟨rfl, Below.refl _ _⟩
  · by_cases hL1 : (65536 : Int) < (sa.length : Int)
    · go_wp2
      go_ret
      exact ⟨rfl, Below.refl _ _⟩
    · by_cases hL2 : (65536 : Int) < (sb.length : Int)
      · go_wp2
        go_ret
        exact ⟨rfl, Below.refl _ _⟩
      · by_cases hL3 : (65536 : Int) < (os.length : Int)
        · go_wp2
          go_ret
          exact ⟨rfl, Below.refl _ _⟩
        · go_wp2_with fail
          refine (sets8 p sa c w (by omega) HS.out HZ.out).mono ?_
          rintro e w1 ⟨⟨n1, rfl, hn1, ht1⟩, q1, rfl⟩
          go_wp2_with fail
          refine (sets8 p1 sb c1 (w.drewN q1) (by omega) HS1.out HZ1.out).mono ?_
          rintro e w1 ⟨⟨n2, rfl, hn2, ht2⟩, q2, rfl⟩
          rw [drewN_drewN]
          go_wp2_with fail
          refine (overs14 p2 os c2 (w.drewN (q1 + q2)) (by omega) HO.out HZO.out).mono ?_
          rintro e w1 ⟨⟨n3, rfl, hn3, ht3⟩, q3, rfl⟩
          rw [drewN_drewN]
          by_cases hT : (1048576 : Int) < (n1 : Int) + (n2 : Int) + (n3 : Int)
          · go_wp2
            go_ret
            exact ⟨rfl, drewN_below (Below.refl _ _) _⟩
          · have htot : totS sa + totS sb ≤ 1048576 := by have := ht1 (by omega); have := ht2 (by omega); omega
            have hmk := make_ab sa.length sb.length (by omega) (by omega)
            clear ht1 ht2 ht3
            go_wp2_with fail
            have HR0 : Hid (((w.drewN (q1 + q2 + q3)).alloc (.cells (madeCells #[.string ⟨#[]⟩, .string ⟨#[]⟩, .bool false] ((sa.length + sb.length) * 3)) 46)).rowIs w.heap.size 46 ((sa.length + sb.length) * 3) (stCell (sa ++ sb) 0)) := made_sets (w.drewN (q1 + q2 + q3)) _ _
            have HB0 : Hid (Below w.heap.size w ((w.drewN (q1 + q2 + q3)).alloc (.cells (madeCells #[.string ⟨#[]⟩, .string ⟨#[]⟩, .bool false] ((sa.length + sb.length) * 3)) 46))) := (drewN_below (Below.refl _ w) _).alloc (Nat.le_refl _) _
            generalize (w.drewN (q1 + q2 + q3)).alloc (.cells (madeCells #[.string ⟨#[]⟩, .string ⟨#[]⟩, .bool false] ((sa.length + sb.length) * 3)) 46) = wm at HR0 HB0 ⊢
            obtain ⟨cp, hcp⟩ : ∃ cp, sa.length + sb.length = cp := ⟨_, rfl⟩
            rw [hcp] at HR0 ⊢
            obtain ⟨i0, hi, hz0, hz1, hz2⟩ := info_parts Try.info46
            clear hmk
            go_loopw [7, 8] (fun o i wr => ∃ k : Nat, k ≤ sa.length ∧ i = .int .i64 k ∧ o = .slice (some ⟨w.heap.size, 0, none⟩) k cp ∧ Hid (wr.rowIs w.heap.size 46 (cp * 3) (stCell (sa ++ sb) k)) ∧ Hid (Below w.heap.size w wr)) (fun _ i _ => sa.length - (intOf i).toNat)
            case atStart => exact ⟨0, Nat.zero_le _, rfl, rfl, HR0, HB0⟩
            case round =>
              clear HR0 HB0
              obtain ⟨k, hk, rfl, rfl, HR, HB⟩ := hrel
              by_cases hlt : k < sa.length
              · have hget : sa[k]? = some sa[k] := List.getElem?_eq_getElem hlt
                obtain ⟨b, off, rfl, c0, cv, cs⟩ := (HS.out.below HB.out) k sa[k] hget
                have hg2 : (sa ++ sb)[k]? = some sa[k] := by rw [List.getElem?_append_left hlt, hget]
                generalize sa[k] = s at c0 cv cs hget hg2
                have HG := hide hg2
                have hNw := HR.out.lt
                clear hget hg2
                go_wp2_with fail
                go_region_law (refine step_append_room rfl (.tmp 54) (.tmp 71) 30 rfl 46 i0 3 Try.underlying30 hi hz1 w.heap.size 0 k cp (by simp [Act.eval]) ⟨wr.heap.size, 0, none⟩ 1 1 [.string s.nm, .string s.vl, .bool s.sk] (by simp [Act.eval]) rfl (cells_new3 _ _ _ _) one_cell3 (by omega) (spare3 HR.out (by omega)) ?_)
                all_goals
                  go_wp2
                  go_roundw
                  case rel => exact ⟨k + 1, by omega, by go_num, rfl, ab_step HG.out HR.out, ab_below HB.out _ _⟩
                  case measure => simp [intOf]; omega
              · obtain rfl : k = sa.length := by omega
                go_wp2
                go_loopw [7, 9] (fun o i wr => ∃ k : Nat, k ≤ sb.length ∧ i = .int .i64 k ∧ o = .slice (some ⟨w.heap.size, 0, none⟩) (sa.length + k) cp ∧ Hid (wr.rowIs w.heap.size 46 (cp * 3) (stCell (sa ++ sb) (sa.length + k))) ∧ Hid (Below w.heap.size w wr)) (fun _ i _ => sb.length - (intOf i).toNat)
                case atStart => exact ⟨0, Nat.zero_le _, rfl, rfl, HR, HB⟩
                case round =>
                  clear HR HB
                  obtain ⟨k, hk, rfl, rfl, HR, HB⟩ := hrel
                  by_cases hlt : k < sb.length
                  · have hget : sb[k]? = some sb[k] := List.getElem?_eq_getElem hlt
                    obtain ⟨b, off, rfl, c0, cv, cs⟩ := (HS1.out.below HB.out) k sb[k] hget
                    have hg2 : (sa ++ sb)[sa.length + k]? = some sb[k] := by rw [List.getElem?_append_right (by omega), Nat.add_sub_cancel_left, hget]
                    generalize sb[k] = s at c0 cv cs hget hg2
                    have HG := hide hg2
                    have hNw := HR.out.lt
                    clear hget hg2
                    have HSK : Hid (sa.length + (k + 1) = sa.length + k + 1) := rfl
                    generalize hsk : sa.length + k = k2 at HR HG HSK ⊢
                    have HS2 := hide hsk
                    have hk2 : k2 < cp := by omega
                    clear hsk
                    go_wp2_with fail
                    go_region_law (refine step_append_room rfl (.tmp 79) (.tmp 96) 30 rfl 46 i0 3 Try.underlying30 hi hz1 w.heap.size 0 k2 cp (by simp [Act.eval]) ⟨wr.heap.size, 0, none⟩ 1 1 [.string s.nm, .string s.vl, .bool s.sk] (by simp [Act.eval]) rfl (cells_new3 _ _ _ _) one_cell3 (by omega) (spare3 HR.out (by omega)) ?_)
                    all_goals
                      go_wp2
                      go_roundw
                      case rel => exact ⟨k + 1, by omega, by go_num, by rw [HSK.out], by rw [HSK.out]; exact ab_step HG.out HR.out, ab_below HB.out _ _⟩
                      case measure => simp [intOf]; omega
                  · obtain rfl : k = sb.length := by omega
                    rw [hcp] at HR ⊢
                    have HSA : Hid (SetsAt wr (some ⟨w.heap.size, 0, none⟩) (sa ++ sb)) := row_sets (by rw [List.length_append]; exact hcp) HR.out
                    go_wp2_with fail
                    have hcl : (sa ++ sb).length = cp := by rw [List.length_append]; exact hcp
                    refine (ovs16 p2 os c2 wr HP2.out (by omega) (HO.out.below HB.out)).mono ?_
                    rintro e w4 ⟨p4, c4, rfl, hs4, hb4⟩
                    have HB4 : Hid (Below w.heap.size w w4) := HB.out.trans (hb4.mono HB.out.size)
                    have HSA4 : Hid (SetsAt w4 (some ⟨w.heap.size, 0, none⟩) (sa ++ sb)) := HSA.out.below hb4
                    have HO4 := hide hs4
                    clear hs4 hb4 HSA HR HB
                    go_wp2_with fail
                    have hcall := zn15 _ _ _ _ _ _ _ _ _ (names21 (some ⟨w.heap.size, 0, none⟩) p4 (sa ++ sb) os cp c4 w4 (by omega) (by omega) HSA4.out HO4.out (fun s hs => Nat.le_trans (nm_le _ s hs) (by rw [totS_append]; exact htot)) (joined_len _ _ (by rw [totS_append]; exact htot)))
                    rw [hcl] at hcall
                    refine hcall.mono ?_
                    clear hcall
                    rintro e w5 ⟨rfl, hb5⟩
                    have HB5 : Hid (Below w.heap.size w w5) := HB4.out.trans (hb5.mono HB4.out.size)
                    have HE1 : Hid (sa.length = 0 → joined (sa ++ sb) os = joined sb os) := fun h => joined_left sa sb os h
                    have HE2 : Hid (sb.length = 0 → joined (sa ++ sb) os = joined sa os) := fun h => joined_right sa sb os h
                    have HE3 : Hid (sa.length ≠ 0 → sb.length ≠ 0 → joined (sa ++ sb) os = joined sa os ++ sepB ++ joined sb os) := fun h h' => joined_append sa sb os h h'
                    generalize joined (sa ++ sb) os = Wh at HE1 HE2 HE3 ⊢
                    clear hb5 HSA4 HO4 HB4
                    go_wp2_with fail
                    refine (sets11 p sa c w5 HP.out (by omega) (HS.out.below HB5.out)).mono ?_
                    rintro e w6 ⟨p6, c6, rfl, hs6, hb6⟩
                    have HB6 : Hid (Below w.heap.size w w6) := HB5.out.trans (hb6.mono HB5.out.size)
                    have HS6 := hide hs6
                    clear hs6 hb6 HB5
                    go_wp2_with fail
                    refine (ovs16 p2 os c2 w6 HP2.out (by omega) (HO.out.below HB6.out)).mono ?_
                    rintro e w7 ⟨p7, c7, rfl, hs7, hb7⟩
                    have HB7 : Hid (Below w.heap.size w w7) := HB6.out.trans (hb7.mono HB6.out.size)
                    have HS7 : Hid (SetsAt w7 p6 sa) := HS6.out.below hb7
                    have HO7 := hide hs7
                    clear hs7 hb7 HB6 HS6
                    go_wp2_with fail
                    refine (zn15 _ _ _ _ _ _ _ _ _ (names21 p6 p7 sa os c6 c7 w7 (by omega) (by omega) HS7.out HO7.out (fun s hs => Nat.le_trans (nm_le _ s hs) (by omega)) (joined_len _ _ (by omega)))).mono ?_
                    rintro e w8 ⟨rfl, hb8⟩
                    have HB8 : Hid (Below w.heap.size w w8) := HB7.out.trans (hb8.mono HB7.out.size)
                    have hLs : (joined sa os).size ≤ 1048576 := Nat.le_trans (joined_le sa os) (by omega)
                    generalize joined sa os = Lf at HE1 HE2 HE3 hLs ⊢
                    clear hb8 HS7 HO7 HB7
                    go_wp2_with fail
                    refine (sets11 p1 sb c1 w8 HP1.out (by omega) (HS1.out.below HB8.out)).mono ?_
                    rintro e w9 ⟨p9, c9, rfl, hs9, hb9⟩
                    have HB9 : Hid (Below w.heap.size w w9) := HB8.out.trans (hb9.mono HB8.out.size)
                    have HS9 := hide hs9
                    clear hs9 hb9 HB8
                    go_wp2_with fail
                    refine (ovs16 p2 os c2 w9 HP2.out (by omega) (HO.out.below HB9.out)).mono ?_
                    rintro e wA ⟨pA, cA, rfl, hsA, hbA⟩
                    have HBA : Hid (Below w.heap.size w wA) := HB9.out.trans (hbA.mono HB9.out.size)
                    have HSB : Hid (SetsAt wA p9 sb) := HS9.out.below hbA
                    have HOA := hide hsA
                    clear hsA hbA HB9 HS9
                    go_wp2_with fail
                    refine (zn15 _ _ _ _ _ _ _ _ _ (names21 p9 pA sb os c9 cA wA (by omega) (by omega) HSB.out HOA.out (fun s hs => Nat.le_trans (nm_le _ s hs) (by omega)) (joined_len _ _ (by omega)))).mono ?_
                    rintro e wB ⟨rfl, hbB⟩
                    have HBB : Hid (Below w.heap.size w wB) := HBA.out.trans (hbB.mono HBA.out.size)
                    have hRs : (joined sb os).size ≤ 1048576 := Nat.le_trans (joined_le sb os) (by omega)
                    generalize joined sb os = Rt at HE1 HE2 HE3 hRs ⊢
                    clear hbB HSB HOA HBA
                    by_cases h0 : sa.length = 0
                    · have hz : ((sa.length : Int) == 0) = true := by rw [h0]; rfl
                      have hW := HE1.out h0
                      have heq : (Wh.toList == Rt.toList) = true := by rw [hW]; simp
                      clear h0 hW
                      go_wp2
                      go_ret
                      refine ⟨?_, HBB.out⟩
                      first | rfl | exact congrArg (fun b => Ending.returned (.bool b)) heq
                    · have hz : ((sa.length : Int) == 0) = false := by rw [beq_eq_false_iff_ne]; omega
                      by_cases h1 : sb.length = 0
                      · have hz1 : ((sb.length : Int) == 0) = true := by rw [h1]; rfl
                        have hW := HE2.out h1
                        have heq : (Wh.toList == Lf.toList) = true := by rw [hW]; simp
                        clear h1 hW h0
                        go_wp2
                        go_ret
                        refine ⟨?_, HBB.out⟩
                        first | rfl | exact congrArg (fun b => Ending.returned (.bool b)) heq
                      · have hz1 : ((sb.length : Int) == 0) = false := by rw [beq_eq_false_iff_ne]; omega
                        have hW := HE3.out h0 h1
                        have heq : (Wh.toList == (Lf ++ ⟨#[44, 32]⟩ ++ Rt).toList) = true := by rw [hW]; simp [sepB]
                        have HEQ := hide heq
                        clear h1 hW h0 heq
                        go_wp2
                        go_ret
                        refine ⟨?_, HBB.out⟩
                        first | rfl | exact congrArg (fun b => Ending.returned (.bool b)) HEQ.out
end Go.Proofs.Qxb6600233a
