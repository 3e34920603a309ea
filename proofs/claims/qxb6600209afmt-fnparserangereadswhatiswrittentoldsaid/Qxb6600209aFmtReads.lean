import Derived.Test.Qxb6600209aFmtReadsPlain
namespace Go.Proofs.Qxb6600209aFmt
open Go.RowKit Go.Extern.Stop Go.Stop Go.Extern
set_option linter.unusedVariables false

theorem Out.bts {w : World} {g : Nat} {l : List UInt8} (h : Out w g l) : Bts w g l := by
  intro i hi
  have := World.ownsRow.cells h (g := g) rfl i (.int .u8 ((l.map fun b => (b.toNat : Int)).getD i 0)) (by simp [List.getElem?_eq_getElem hi, bv, List.getD_eq_getElem?_getD])
  have hadd : (⟨g, 0, none⟩ : Addr).add i = ⟨g, i, none⟩ := by unfold Addr.add; split <;> simp_all
  rw [hadd] at this
  exact this

theorem and4f : ∀ s : Fin 256, bits .and .i64 ((s.val : Int) / 4) 3 = ((s.val / 4 % 4 : Nat) : Int) := by decide +kernel
theorem and16f : ∀ s : Fin 256, bits .and .i64 ((s.val : Int) / 16) 3 = ((s.val / 16 % 4 : Nat) : Int) := by decide +kernel
theorem and4 (s : Nat) (hs : s < 256) : bits .and .i64 ((s : Int) / 4) 3 = ((s / 4 % 4 : Nat) : Int) := and4f ⟨s, hs⟩
theorem and16 (s : Nat) (hs : s < 256) : bits .and .i64 ((s : Int) / 16) 3 = ((s / 16 % 4 : Nat) : Int) := and16f ⟨s, hs⟩

set_option maxRecDepth 100000 in
set_option maxHeartbeats 4000000 in
theorem reads_any (a b : Int) (x y t s : Nat) (w : World) (a1 : -9223372036854775808 ≤ a) (a2 : a ≤ 9223372036854775807) (b1 : -9223372036854775808 ≤ b) (b2 : b ≤ 9223372036854775807)
    (hx : x < 4294967296) (hy : y < 4294967296) (ht : t < 4294967296) (hs : s < 256) (hV : Vars w) :
    Calls Tryf.prog 4 #[.int .i64 a, .int .i64 b, .int .u32 x, .int .u32 y, .int .u32 t, .int .u8 s] w fun e w' => e = .returned (.bool true) ∧ Below w.heap.size w w' := by
  obtain ⟨i0, hi, hz0, hz1, hz2⟩ := info_parts Tryf.info5
  have HV := hide hV
  clear hV
  go_enter Tryf.func4, Tryf.ntmps4
  go_wp2_with (first | (at_make; refine wpList_make_own _ rfl _ _ 22 rfl w.heap.size 5 i0 (.int .u8 0) 1 Tryf.underlying22 hi hz0 hz1 .i64 .i64 96 96 rfl rfl rfl (by rw [hz2]; decide) (by unfold maxLen; decide) (by simp) ?_; intro w1 hown hgrow) | fail)
  have HO1 : Hid (Out w1 w.heap.size []) := hown
  have HB1 : Hid (Below w.heap.size w w1) := (Below.refl _ _).grown hgrow (Nat.le_refl _) (fun k hk => by cases hk)
  clear hown hgrow
  refine (pad11 w.heap.size [] x 0 w1 hx (by omega) HO1.out (by simp)).mono ?_
  rintro e w2 ⟨k1, hk1, rfl, ho2, hb2⟩
  rw [List.nil_append] at ho2 ⊢
  have HZ4 := hide (and4 s hs)
  have HZ16 := hide (and16 s hs)
  have hp1 := pads_len k1
  have HO2 := hide ho2
  have HB2 : Hid (Below w.heap.size w w2) := HB1.out.trans hb2
  have hl1 : (pads k1).length ≤ 9 := by omega
  generalize hT1 : pads k1 = t1 at HO2 hl1 ⊢
  have HT1 := hide hT1
  clear ho2 hb2 hp1 hT1 hk1
  go_wp2_with fail
  rw [HZ4.out]
  refine (int12 w.heap.size t1 a (s / 4 % 4) _ w2 a1 a2 (by omega) HO2.out (by omega)).mono ?_
  rintro e w3 ⟨n1, hn1, rfl, ho3, hb3⟩
  have HN1 := hide hn1
  have HO3 := hide ho3
  have HB3 : Hid (Below w.heap.size w w3) := HB2.out.trans hb3
  have hl3 : (t1 ++ n1).length ≤ 33 := by have := hn1.2.2.1; rw [List.length_append]; omega
  generalize hT3 : t1 ++ n1 = t3 at HO3 hl3 ⊢
  have HT3 := hide hT3
  clear ho3 hb3 hn1 hT3 HO2 HB2 HO1 HB1 hl1
  go_wp2_with fail
  refine (pad11 w.heap.size t3 y 1 w3 hy (by omega) HO3.out (by omega)).mono ?_
  rintro e w4 ⟨k2, hk2, rfl, ho4, hb4⟩
  have HK2 : Hid (k2 ≠ []) := by intro h; rw [h] at hk2; simp at hk2
  have hp2 := pads_len k2
  have HO4 := hide ho4
  have HB4 : Hid (Below w.heap.size w w4) := HB3.out.trans hb4
  have hl4 : (t3 ++ pads k2).length ≤ 45 := by rw [List.length_append]; omega
  generalize hT4 : t3 ++ pads k2 = t4 at HO4 hl4 ⊢
  have HT4 := hide hT4
  clear ho4 hb4 hp2 hT4 hk2 HO3 HB3 hl3
  go_wp2_with fail
  rw [HZ16.out]
  refine (int12 w.heap.size t4 b (s / 16 % 4) _ w4 b1 b2 (by omega) HO4.out (by omega)).mono ?_
  rintro e w5 ⟨n2, hn2, rfl, ho5, hb5⟩
  have HN2 := hide hn2
  have HO5 := hide ho5
  have HB5 : Hid (Below w.heap.size w w5) := HB4.out.trans hb5
  have hl5 : (t4 ++ n2).length ≤ 69 := by have := hn2.2.2.1; rw [List.length_append]; omega
  generalize hT5 : t4 ++ n2 = t5 at HO5 hl5 ⊢
  have HT5 := hide hT5
  clear ho5 hb5 hn2 hT5 HO4 HB4 hl4
  go_wp2_with fail
  refine (pad11 w.heap.size t5 t 0 w5 ht (by omega) HO5.out (by omega)).mono ?_
  rintro e w6 ⟨k3, hk3, rfl, ho6, hb6⟩
  have hp3 := pads_len k3
  have HO6 := hide ho6
  have HB6 : Hid (Below w.heap.size w w6) := HB5.out.trans hb6
  have hl6 : (t5 ++ pads k3).length ≤ 78 := by rw [List.length_append]; omega
  generalize hT6 : t5 ++ pads k3 = t6 at HO6 hl6 ⊢
  have HT6 := hide hT6
  have HF : Hid (Lib.fieldsU t6 = [n1, n2]) := by
    have := fields_two k1 k2 k3 n1 n2 HK2.out HN1.out.2.1 HN2.out.2.1 HN1.out.2.2.2 HN2.out.2.2.2
    rw [← List.append_assoc, HT1.out, HT3.out, ← List.append_assoc, HT4.out, ← List.append_assoc, HT5.out, HT6.out] at this
    exact this
  clear ho6 hb6 hp3 hT6 hk3 HO5 HB5 hl5
  go_wp2_with fail
  refine (zz_of _ _ _ _ _ _ _ _ (range_ok w.heap.size 96 t6 n1 n2 a b w6 (by omega) HF.out (by have := HN1.out.2.2.1; omega) (by have := HN2.out.2.2.1; omega) HN1.out.1 HN2.out.1 HO6.out.bts (HV.out.below HB6.out))).mono ?_
  rintro e w7 ⟨rfl, hb7⟩
  have HB7 : Hid (Below w.heap.size w w7) := HB6.out.trans (hb7.mono HB6.out.size)
  clear hb7
  have ha : (a == a) = true := by simp
  have hb : (b == b) = true := by simp
  go_wp2
  go_ret
  exact ⟨rfl, HB7.out⟩
end Go.Proofs.Qxb6600209aFmt
