import Derived.Test.Qxb6600209aFmtTokens
import Derived.Test.Qxb6600209aFmtReadPlain
namespace Go.Proofs.Qxb6600209aFmt
open Go.RowKit Go.Extern.Stop Go.Stop Go.Extern

/-- how zzReadInt ends on the text t -/
def ReadEnd (t : List UInt8) (e : Ending) : Prop :=
  ∃ v ok, e = .returned (.tuple #[.int .i64 v, .bool ok]) ∧ (ok = true → Lib.atoiAll t = .ok v) ∧ (ok = false → v = 0 ∧ ∀ v, Lib.atoiAll t ≠ .ok v)
theorem read_end_bad {t : List UInt8} (h : ∀ v, Lib.atoiAll t ≠ .ok v) : ReadEnd t (.returned (.tuple #[.int .i64 0, .bool false])) :=
  ⟨0, false, rfl, fun h => (by cases h), fun _ => ⟨rfl, h⟩⟩
theorem read_end_ok {t : List UInt8} {v : Int} (h : Lib.atoiAll t = .ok v) : ReadEnd t (.returned (.tuple #[.int .i64 v, .bool true])) :=
  ⟨v, true, rfl, fun _ => h, fun h => (by cases h)⟩

set_option maxRecDepth 100000 in
set_option maxHeartbeats 4000000 in
theorem read_neg (g cp s e : Nat) (l : List UInt8) (c0 : UInt8) (w : World) (hn : l.length ≤ 1048576) (hse : s < e) (he : e ≤ l.length) (hc0 : l.getD s 0 = c0) (hc45 : c0.toNat = 45) (hB : Bts w g l) :
    Calls Tryf.prog 10 #[.slice (some ⟨g, 0, none⟩) l.length cp, .int .i64 s, .int .i64 e] w fun e' w' => ReadEnd (sl l s e) e' ∧ w' = w := by
  have HS : Hid (sl l s e = c0 :: sl l (s + 1) e) := by
    show sl l s e = c0 :: sl l (s + 1) e
    rw [sl_cons l s e hse he, hc0]
  have hx := bts_at hB s (by omega)
  rw [hc0] at hx
  clear hc0
  have HB := hide hB
  clear hB
  have hs0 : (s : Int) < (e : Int) := by omega
  have HX45 := hide hc45
  rw [show ((c0.toNat : Nat) : Int) = 45 from by omega] at hx
  have hm : (if c0.toNat = 43 ∨ c0.toNat = 45 then sl l (s + 1) e else c0 :: sl l (s + 1) e) = sl l (s + 1) e := by
    rw [if_pos (Or.inr hc45)]
  have HM := hide hm
  clear hm
  by_cases hie : s + 1 < e
  · have HNE : Hid (sl l (s + 1) e ≠ []) := by
      show sl l (s + 1) e ≠ []
      rw [sl_cons l (s + 1) e hie he]; simp
    have hiz : ((s + 1 : Nat) : Int) < (e : Int) := by omega
    go_enter Tryf.func10, Tryf.ntmps10
    go_wp2
    go_loopw [8, 10, 11, 12] (fun i a _ _ wr => ∃ I A : Nat, i = .int .i64 I ∧ a = .int .u64 A ∧ I ≤ e ∧ A ≤ 18446744073709551615 ∧ Hid (Lib.parseUint10 A (sl l I e) = Lib.parseUint10 0 (sl l (s + 1) e)) ∧ wr = w) (fun i _ _ _ _ => e - (intOf i).toNat)
    case atStart => exact ⟨s + 1, 0, by go_num, rfl, by omega, by omega, rfl, rfl⟩
    case round =>
      obtain ⟨I, A, rfl, rfl, hIe, hA, HP, rfl⟩ := hrel
      by_cases hlt : I < e
      · have hy := bts_at HB.out I (by omega)
        have hcons := sl_cons l I e hlt he
        have HCO : Hid (Lib.parseUint10 A (l.getD I 0 :: sl l (I + 1) e) = Lib.parseUint10 0 (sl l (s + 1) e)) := by
          show Lib.parseUint10 A (l.getD I 0 :: sl l (I + 1) e) = Lib.parseUint10 0 (sl l (s + 1) e)
          rw [← hcons]; exact HP.out
        clear hcons
        have hyb : (l.getD I 0).toNat < 256 := (l.getD I 0).toNat_lt
        generalize l.getD I 0 = cy at hy HCO hyb
        by_cases hd : 48 ≤ cy.toNat ∧ cy.toNat ≤ 57
        · obtain ⟨hd1, hd2⟩ := hd
          by_cases hov : A ≤ (18446744073709551615 - (cy.toNat - 48)) / 10
          · have HST := hide (pu_step A cy (sl l (I + 1) e) hd1 hd2 hov)
            have b1 : (48 : Int) ≤ (cy.toNat : Int) := by omega
            have b2 : (cy.toNat : Int) ≤ 57 := by omega
            have b3 : (A : Int) ≤ (18446744073709551615 - ((cy.toNat : Int) - 48)) / 10 := by omega
            have b4 : (A : Int) ≤ 1844674407370955161 := by omega
            go_wp2
            go_roundw
            case rel =>
              refine ⟨I + 1, A * 10 + (cy.toNat - 48), by go_num, ?_, by omega, by omega, ?_, by trivial⟩
              · exact congrArg (Value.int IntKind.u64) (by omega)
              · show Lib.parseUint10 (A * 10 + (cy.toNat - 48)) (sl l (I + 1) e) = Lib.parseUint10 0 (sl l (s + 1) e)
                rw [← HCO.out, HST.out]
            case measure => simp [intOf]; omega
          · have HBAD : Hid (∀ v, Lib.atoiAll (sl l s e) ≠ .ok v) := by
              show ∀ v, Lib.atoiAll (sl l s e) ≠ .ok v
              rw [HS.out]
              refine atoi_bad_of c0 _ _ HM.out (Or.inr (Or.inl fun u hu => ?_))
              rw [← HCO.out] at hu
              exact pu_over A cy _ hd1 hd2 (by omega) u hu
            have b1 : (48 : Int) ≤ (cy.toNat : Int) := by omega
            have b2 : (cy.toNat : Int) ≤ 57 := by omega
            have b3 : (18446744073709551615 - ((cy.toNat : Int) - 48)) / 10 < (A : Int) := by omega
            go_wp2
            go_ret2
            exact ⟨read_end_bad HBAD.out, rfl⟩
        · have HBAD : Hid (∀ v, Lib.atoiAll (sl l s e) ≠ .ok v) := by
            show ∀ v, Lib.atoiAll (sl l s e) ≠ .ok v
            rw [HS.out]
            refine atoi_bad_of c0 _ _ HM.out (Or.inr (Or.inl fun u hu => ?_))
            rw [← HCO.out] at hu
            exact pu_bad A cy _ (by omega) u hu
          by_cases hd1 : (cy.toNat : Int) < 48
          · go_wp2
            go_ret2
            exact ⟨read_end_bad HBAD.out, rfl⟩
          · have hd2 : (57 : Int) < (cy.toNat : Int) := by omega
            go_wp2
            go_ret2
            exact ⟨read_end_bad HBAD.out, rfl⟩
      · have hIe' : I = e := by omega
        have HOK : Hid (Lib.parseUint10 0 (sl l (s + 1) e) = .ok A) := by
          show Lib.parseUint10 0 (sl l (s + 1) e) = .ok A
          rw [← HP.out, hIe', sl_nil l e e (Nat.le_refl _)]
          rfl
        clear hIe'
        by_cases hu : A ≤ 9223372036854775808
        · have HV := hide (atoi_ok_of c0 (sl l (s + 1) e) _ A HM.out HNE.out HOK.out (fun _ => hu) (fun h => absurd hc45 h))
          by_cases hu1 : A = 9223372036854775808
          · have HU1 := hide hu1
            have k1 : ((A : Int) == 9223372036854775808) = true := by simp; omega
            have k2 : ¬ ((9223372036854775808 : Int) < (A : Int)) := by omega
            clear hu1
            go_wp2
            go_ret2
            refine ⟨read_end_ok (v := -9223372036854775808) ?_, rfl⟩
            rw [HS.out, HV.out, if_pos hc45, HU1.out]
            rfl
          · have k1 : ((A : Int) == 9223372036854775808) = false := by simp; omega
            have k2 : (A : Int) ≤ 9223372036854775807 := by omega
            go_wp2
            go_ret2
            refine ⟨read_end_ok (v := -(A : Int)) ?_, rfl⟩
            rw [HS.out, HV.out, if_pos hc45]
        · have HBAD : Hid (∀ v, Lib.atoiAll (sl l s e) ≠ .ok v) := by
            show ∀ v, Lib.atoiAll (sl l s e) ≠ .ok v
            rw [HS.out]
            exact atoi_bad_of c0 _ _ HM.out (Or.inr (Or.inr ⟨A, HOK.out, Or.inl ⟨hc45, by omega⟩⟩))
          have b1 : (9223372036854775808 : Int) < (A : Int) := by omega
          go_wp2
          go_ret2
          exact ⟨read_end_bad HBAD.out, rfl⟩
  · have HBAD : Hid (∀ v, Lib.atoiAll (sl l s e) ≠ .ok v) := by
      show ∀ v, Lib.atoiAll (sl l s e) ≠ .ok v
      rw [HS.out]
      exact atoi_bad_of c0 _ _ HM.out (Or.inl (sl_nil l _ e (by omega)))
    have hiz : ¬ (((s + 1 : Nat) : Int) < (e : Int)) := by omega
    go_enter Tryf.func10, Tryf.ntmps10
    go_wp2
    go_ret2
    exact ⟨read_end_bad HBAD.out, rfl⟩

set_option maxRecDepth 100000 in
set_option maxHeartbeats 4000000 in
theorem read_pos (g cp s e : Nat) (l : List UInt8) (c0 : UInt8) (w : World) (hn : l.length ≤ 1048576) (hse : s < e) (he : e ≤ l.length) (hc0 : l.getD s 0 = c0) (hc43 : c0.toNat = 43) (hB : Bts w g l) :
    Calls Tryf.prog 10 #[.slice (some ⟨g, 0, none⟩) l.length cp, .int .i64 s, .int .i64 e] w fun e' w' => ReadEnd (sl l s e) e' ∧ w' = w := by
  have HS : Hid (sl l s e = c0 :: sl l (s + 1) e) := by
    show sl l s e = c0 :: sl l (s + 1) e
    rw [sl_cons l s e hse he, hc0]
  have hx := bts_at hB s (by omega)
  rw [hc0] at hx
  clear hc0
  have HB := hide hB
  clear hB
  have hs0 : (s : Int) < (e : Int) := by omega
  have hc45 : c0.toNat ≠ 45 := by omega
  rw [show ((c0.toNat : Nat) : Int) = 43 from by omega] at hx
  have hm : (if c0.toNat = 43 ∨ c0.toNat = 45 then sl l (s + 1) e else c0 :: sl l (s + 1) e) = sl l (s + 1) e := by
    rw [if_pos (Or.inl hc43)]
  have HM := hide hm
  clear hm
  by_cases hie : s + 1 < e
  · have HNE : Hid (sl l (s + 1) e ≠ []) := by
      show sl l (s + 1) e ≠ []
      rw [sl_cons l (s + 1) e hie he]; simp
    have hiz : ((s + 1 : Nat) : Int) < (e : Int) := by omega
    go_enter Tryf.func10, Tryf.ntmps10
    go_wp2
    go_loopw [8, 10, 11, 12] (fun i a _ _ wr => ∃ I A : Nat, i = .int .i64 I ∧ a = .int .u64 A ∧ I ≤ e ∧ A ≤ 18446744073709551615 ∧ Hid (Lib.parseUint10 A (sl l I e) = Lib.parseUint10 0 (sl l (s + 1) e)) ∧ wr = w) (fun i _ _ _ _ => e - (intOf i).toNat)
    case atStart => exact ⟨s + 1, 0, by go_num, rfl, by omega, by omega, rfl, rfl⟩
    case round =>
      obtain ⟨I, A, rfl, rfl, hIe, hA, HP, rfl⟩ := hrel
      by_cases hlt : I < e
      · have hy := bts_at HB.out I (by omega)
        have hcons := sl_cons l I e hlt he
        have HCO : Hid (Lib.parseUint10 A (l.getD I 0 :: sl l (I + 1) e) = Lib.parseUint10 0 (sl l (s + 1) e)) := by
          show Lib.parseUint10 A (l.getD I 0 :: sl l (I + 1) e) = Lib.parseUint10 0 (sl l (s + 1) e)
          rw [← hcons]; exact HP.out
        clear hcons
        have hyb : (l.getD I 0).toNat < 256 := (l.getD I 0).toNat_lt
        generalize l.getD I 0 = cy at hy HCO hyb
        by_cases hd : 48 ≤ cy.toNat ∧ cy.toNat ≤ 57
        · obtain ⟨hd1, hd2⟩ := hd
          by_cases hov : A ≤ (18446744073709551615 - (cy.toNat - 48)) / 10
          · have HST := hide (pu_step A cy (sl l (I + 1) e) hd1 hd2 hov)
            have b1 : (48 : Int) ≤ (cy.toNat : Int) := by omega
            have b2 : (cy.toNat : Int) ≤ 57 := by omega
            have b3 : (A : Int) ≤ (18446744073709551615 - ((cy.toNat : Int) - 48)) / 10 := by omega
            have b4 : (A : Int) ≤ 1844674407370955161 := by omega
            go_wp2
            go_roundw
            case rel =>
              refine ⟨I + 1, A * 10 + (cy.toNat - 48), by go_num, ?_, by omega, by omega, ?_, by trivial⟩
              · exact congrArg (Value.int IntKind.u64) (by omega)
              · show Lib.parseUint10 (A * 10 + (cy.toNat - 48)) (sl l (I + 1) e) = Lib.parseUint10 0 (sl l (s + 1) e)
                rw [← HCO.out, HST.out]
            case measure => simp [intOf]; omega
          · have HBAD : Hid (∀ v, Lib.atoiAll (sl l s e) ≠ .ok v) := by
              show ∀ v, Lib.atoiAll (sl l s e) ≠ .ok v
              rw [HS.out]
              refine atoi_bad_of c0 _ _ HM.out (Or.inr (Or.inl fun u hu => ?_))
              rw [← HCO.out] at hu
              exact pu_over A cy _ hd1 hd2 (by omega) u hu
            have b1 : (48 : Int) ≤ (cy.toNat : Int) := by omega
            have b2 : (cy.toNat : Int) ≤ 57 := by omega
            have b3 : (18446744073709551615 - ((cy.toNat : Int) - 48)) / 10 < (A : Int) := by omega
            go_wp2
            go_ret2
            exact ⟨read_end_bad HBAD.out, rfl⟩
        · have HBAD : Hid (∀ v, Lib.atoiAll (sl l s e) ≠ .ok v) := by
            show ∀ v, Lib.atoiAll (sl l s e) ≠ .ok v
            rw [HS.out]
            refine atoi_bad_of c0 _ _ HM.out (Or.inr (Or.inl fun u hu => ?_))
            rw [← HCO.out] at hu
            exact pu_bad A cy _ (by omega) u hu
          by_cases hd1 : (cy.toNat : Int) < 48
          · go_wp2
            go_ret2
            exact ⟨read_end_bad HBAD.out, rfl⟩
          · have hd2 : (57 : Int) < (cy.toNat : Int) := by omega
            go_wp2
            go_ret2
            exact ⟨read_end_bad HBAD.out, rfl⟩
      · have hIe' : I = e := by omega
        have HOK : Hid (Lib.parseUint10 0 (sl l (s + 1) e) = .ok A) := by
          show Lib.parseUint10 0 (sl l (s + 1) e) = .ok A
          rw [← HP.out, hIe', sl_nil l e e (Nat.le_refl _)]
          rfl
        clear hIe'
        by_cases hu : A < 9223372036854775808
        · have HV := hide (atoi_ok_of c0 (sl l (s + 1) e) _ A HM.out HNE.out HOK.out (fun h => absurd h hc45) (fun _ => hu))
          have b1 : (A : Int) ≤ 9223372036854775807 := by omega
          go_wp2
          go_ret2
          refine ⟨read_end_ok (v := (A : Int)) ?_, rfl⟩
          rw [HS.out, HV.out, if_neg hc45]
        · have HBAD : Hid (∀ v, Lib.atoiAll (sl l s e) ≠ .ok v) := by
            show ∀ v, Lib.atoiAll (sl l s e) ≠ .ok v
            rw [HS.out]
            exact atoi_bad_of c0 _ _ HM.out (Or.inr (Or.inr ⟨A, HOK.out, Or.inr ⟨hc45, by omega⟩⟩))
          have b1 : (9223372036854775807 : Int) < (A : Int) := by omega
          go_wp2
          go_ret2
          exact ⟨read_end_bad HBAD.out, rfl⟩
  · have HBAD : Hid (∀ v, Lib.atoiAll (sl l s e) ≠ .ok v) := by
      show ∀ v, Lib.atoiAll (sl l s e) ≠ .ok v
      rw [HS.out]
      exact atoi_bad_of c0 _ _ HM.out (Or.inl (sl_nil l _ e (by omega)))
    have hiz : ¬ (((s + 1 : Nat) : Int) < (e : Int)) := by omega
    go_enter Tryf.func10, Tryf.ntmps10
    go_wp2
    go_ret2
    exact ⟨read_end_bad HBAD.out, rfl⟩

set_option maxRecDepth 100000 in
set_option maxHeartbeats 4000000 in
theorem read_bare (g cp s e : Nat) (l : List UInt8) (c0 : UInt8) (w : World) (hn : l.length ≤ 1048576) (hse : s < e) (he : e ≤ l.length) (hc0 : l.getD s 0 = c0) (hc : c0.toNat ≠ 43 ∧ c0.toNat ≠ 45) (hB : Bts w g l) :
    Calls Tryf.prog 10 #[.slice (some ⟨g, 0, none⟩) l.length cp, .int .i64 s, .int .i64 e] w fun e' w' => ReadEnd (sl l s e) e' ∧ w' = w := by
  have HS : Hid (sl l s e = c0 :: sl l (s + 1) e) := by
    show sl l s e = c0 :: sl l (s + 1) e
    rw [sl_cons l s e hse he, hc0]
  have hx := bts_at hB s (by omega)
  rw [hc0] at hx
  clear hc0
  have HB := hide hB
  clear hB
  have hs0 : (s : Int) < (e : Int) := by omega
  have hc45 : c0.toNat ≠ 45 := hc.2
  have k45 : ((c0.toNat : Int) == 45) = false := by simp; omega
  have k43 : ((c0.toNat : Int) == 43) = false := by simp; omega
  have hdz : decide (e ≤ s) = false := decide_eq_false (by omega)
  have hm : (if c0.toNat = 43 ∨ c0.toNat = 45 then sl l (s + 1) e else c0 :: sl l (s + 1) e) = sl l (s) e := by
    rw [if_neg (by omega), HS.out]
  have HM := hide hm
  clear hm
  by_cases hie : s < e
  · have HNE : Hid (sl l (s) e ≠ []) := by
      show sl l (s) e ≠ []
      rw [sl_cons l (s) e hie he]; simp
    have hiz : ((s : Nat) : Int) < (e : Int) := by omega
    go_enter Tryf.func10, Tryf.ntmps10
    go_wp2
    go_loopw [8, 10, 11, 12] (fun i a _ _ wr => ∃ I A : Nat, i = .int .i64 I ∧ a = .int .u64 A ∧ I ≤ e ∧ A ≤ 18446744073709551615 ∧ Hid (Lib.parseUint10 A (sl l I e) = Lib.parseUint10 0 (sl l (s) e)) ∧ wr = w) (fun i _ _ _ _ => e - (intOf i).toNat)
    case atStart => exact ⟨s, 0, by go_num, rfl, by omega, by omega, rfl, rfl⟩
    case round =>
      obtain ⟨I, A, rfl, rfl, hIe, hA, HP, rfl⟩ := hrel
      by_cases hlt : I < e
      · have hy := bts_at HB.out I (by omega)
        have hcons := sl_cons l I e hlt he
        have HCO : Hid (Lib.parseUint10 A (l.getD I 0 :: sl l (I + 1) e) = Lib.parseUint10 0 (sl l (s) e)) := by
          show Lib.parseUint10 A (l.getD I 0 :: sl l (I + 1) e) = Lib.parseUint10 0 (sl l (s) e)
          rw [← hcons]; exact HP.out
        clear hcons
        have hyb : (l.getD I 0).toNat < 256 := (l.getD I 0).toNat_lt
        generalize l.getD I 0 = cy at hy HCO hyb
        by_cases hd : 48 ≤ cy.toNat ∧ cy.toNat ≤ 57
        · obtain ⟨hd1, hd2⟩ := hd
          by_cases hov : A ≤ (18446744073709551615 - (cy.toNat - 48)) / 10
          · have HST := hide (pu_step A cy (sl l (I + 1) e) hd1 hd2 hov)
            have b1 : (48 : Int) ≤ (cy.toNat : Int) := by omega
            have b2 : (cy.toNat : Int) ≤ 57 := by omega
            have b3 : (A : Int) ≤ (18446744073709551615 - ((cy.toNat : Int) - 48)) / 10 := by omega
            have b4 : (A : Int) ≤ 1844674407370955161 := by omega
            go_wp2
            go_roundw
            case rel =>
              refine ⟨I + 1, A * 10 + (cy.toNat - 48), by go_num, ?_, by omega, by omega, ?_, by trivial⟩
              · exact congrArg (Value.int IntKind.u64) (by omega)
              · show Lib.parseUint10 (A * 10 + (cy.toNat - 48)) (sl l (I + 1) e) = Lib.parseUint10 0 (sl l (s) e)
                rw [← HCO.out, HST.out]
            case measure => simp [intOf]; omega
          · have HBAD : Hid (∀ v, Lib.atoiAll (sl l s e) ≠ .ok v) := by
              show ∀ v, Lib.atoiAll (sl l s e) ≠ .ok v
              rw [HS.out]
              refine atoi_bad_of c0 _ _ HM.out (Or.inr (Or.inl fun u hu => ?_))
              rw [← HCO.out] at hu
              exact pu_over A cy _ hd1 hd2 (by omega) u hu
            have b1 : (48 : Int) ≤ (cy.toNat : Int) := by omega
            have b2 : (cy.toNat : Int) ≤ 57 := by omega
            have b3 : (18446744073709551615 - ((cy.toNat : Int) - 48)) / 10 < (A : Int) := by omega
            go_wp2
            go_ret2
            exact ⟨read_end_bad HBAD.out, rfl⟩
        · have HBAD : Hid (∀ v, Lib.atoiAll (sl l s e) ≠ .ok v) := by
            show ∀ v, Lib.atoiAll (sl l s e) ≠ .ok v
            rw [HS.out]
            refine atoi_bad_of c0 _ _ HM.out (Or.inr (Or.inl fun u hu => ?_))
            rw [← HCO.out] at hu
            exact pu_bad A cy _ (by omega) u hu
          by_cases hd1 : (cy.toNat : Int) < 48
          · go_wp2
            go_ret2
            exact ⟨read_end_bad HBAD.out, rfl⟩
          · have hd2 : (57 : Int) < (cy.toNat : Int) := by omega
            go_wp2
            go_ret2
            exact ⟨read_end_bad HBAD.out, rfl⟩
      · have hIe' : I = e := by omega
        have HOK : Hid (Lib.parseUint10 0 (sl l (s) e) = .ok A) := by
          show Lib.parseUint10 0 (sl l (s) e) = .ok A
          rw [← HP.out, hIe', sl_nil l e e (Nat.le_refl _)]
          rfl
        clear hIe'
        by_cases hu : A < 9223372036854775808
        · have HV := hide (atoi_ok_of c0 (sl l (s + 1) e) _ A HM.out HNE.out HOK.out (fun h => absurd h hc45) (fun _ => hu))
          have b1 : (A : Int) ≤ 9223372036854775807 := by omega
          go_wp2
          go_ret2
          refine ⟨read_end_ok (v := (A : Int)) ?_, rfl⟩
          rw [HS.out, HV.out, if_neg hc45]
        · have HBAD : Hid (∀ v, Lib.atoiAll (sl l s e) ≠ .ok v) := by
            show ∀ v, Lib.atoiAll (sl l s e) ≠ .ok v
            rw [HS.out]
            exact atoi_bad_of c0 _ _ HM.out (Or.inr (Or.inr ⟨A, HOK.out, Or.inr ⟨hc45, by omega⟩⟩))
          have b1 : (9223372036854775807 : Int) < (A : Int) := by omega
          go_wp2
          go_ret2
          exact ⟨read_end_bad HBAD.out, rfl⟩
  · exact absurd hse hie

set_option maxRecDepth 100000 in
set_option maxHeartbeats 1000000 in
theorem read_empty (g cp n s e : Nat) (w : World) (hn : e ≤ s) :
    Calls Tryf.prog 10 #[.slice (some ⟨g, 0, none⟩) n cp, .int .i64 s, .int .i64 e] w fun e' w' => e' = .returned (.tuple #[.int .i64 0, .bool false]) ∧ w' = w := by
  have h1 : ¬ ((s : Int) < (e : Int)) := by omega
  go_enter Tryf.func10, Tryf.ntmps10
  go_wp2
  go_ret2
  exact ⟨rfl, rfl⟩

/-- zzReadInt on data[s:e] -/
theorem read_any (g cp s e : Nat) (l : List UInt8) (w : World) (hn : l.length ≤ 1048576) (he : e ≤ l.length) (hB : Bts w g l) :
    Calls Tryf.prog 10 #[.slice (some ⟨g, 0, none⟩) l.length cp, .int .i64 s, .int .i64 e] w fun e' w' => ReadEnd (sl l s e) e' ∧ w' = w := by
  by_cases hse : s < e
  · by_cases h45 : (l.getD s 0).toNat = 45
    · exact read_neg g cp s e l _ w hn hse he rfl h45 hB
    · by_cases h43 : (l.getD s 0).toNat = 43
      · exact read_pos g cp s e l _ w hn hse he rfl h43 hB
      · exact read_bare g cp s e l _ w hn hse he rfl ⟨h43, h45⟩ hB
  · refine (read_empty g cp l.length s e w (by omega)).mono fun e' w' ⟨h1, h2⟩ => ⟨?_, h2⟩
    rw [h1, sl_nil l s e (by omega)]
    exact read_end_bad atoi_nil
end Go.Proofs.Qxb6600209aFmt
