import Derived.Test.Qxb6600209aFmtSpace
namespace Go.Proofs.Qxb6600209aFmt
open Go.RowKit Go.Extern.Stop Go.Stop Go.Extern

set_option maxRecDepth 100000 in
set_option maxHeartbeats 4000000 in
theorem tokens_any (g cp : Nat) (l : List UInt8) (w : World) (hn : l.length ≤ 1048576) (hB : Bts w g l) :
    Calls Tryf.prog 9 #[.slice (some ⟨g, 0, none⟩) l.length cp] w fun e' w' => (∃ c s0 e0 s1 e1 : Nat, e' = .returned (.tuple #[.int .i64 c, .int .i64 s0, .int .i64 e0, .int .i64 s1, .int .i64 e1]) ∧ c ≤ 1048576 ∧
      (Lib.fieldsU l).length = c ∧ (c = 2 → Lib.fieldsU l = [sl l s0 e0, sl l s1 e1] ∧ s0 ≤ e0 ∧ e0 ≤ l.length ∧ s1 ≤ e1 ∧ e1 ≤ l.length)) ∧ w' = w := by
  have HSP := hide (fun i hi => space_any g cp i l w hn hi hB)
  have HB := hide hB
  clear hB
  go_enter Tryf.func9, Tryf.ntmps9
  go_wp2
  go_loopw [2, 3, 4, 5, 6, 7, 8, 9] (fun c s0 e0 s1 e1 b i _ wr => ∃ (C S0 E0 S1 E1 I : Nat) (bb : Bool), c = .int .i64 C ∧ s0 = .int .i64 S0 ∧ e0 = .int .i64 E0 ∧ s1 = .int .i64 S1 ∧ e1 = .int .i64 E1 ∧ b = .bool bb ∧ i = .int .i64 I ∧ Hid (Inv l I bb C S0 E0 S1 E1) ∧ wr = w) (fun _ _ _ _ _ _ i _ _ => l.length - (intOf i).toNat)
  case atStart => exact ⟨0, 0, 0, 0, 0, 0, false, rfl, rfl, rfl, rfl, rfl, rfl, rfl, inv_start l, rfl⟩
  case round =>
    obtain ⟨C, S0, E0, S1, E1, I, bb, rfl, rfl, rfl, rfl, rfl, rfl, rfl, HI, rfl⟩ := hrel
    have hle := HI.out.le
    have hci := HI.out.ci
    by_cases hlt : I < l.length
    · have hcall := (unhide HSP) I hlt
      have hhl := head_le (l.drop I)
      rw [List.length_drop] at hhl
      by_cases hz : Lib.headSpace (l.drop I) = 0
      · rw [hz] at hcall
        have HC := hide hcall
        have HZ := hide hz
        clear hcall hz hhl
        cases bb with
        | false =>
          have HN := hide (inv_begin HI.out hlt HZ.out)
          clear HI
          by_cases c0 : C = 0
          · subst c0
            go_wp2_with (go_at_call 15; refine (unhide HC).mono ?_; rintro e w' ⟨rfl, rfl⟩)
            go_roundw
            case rel => exact ⟨1, I, E0, S1, E1, I + 1, true, rfl, rfl, rfl, rfl, rfl, rfl, by go_num, HN.out, by trivial⟩
            case measure => simp [intOf]; omega
          · by_cases c1 : C = 1
            · subst c1
              go_wp2_with (go_at_call 15; refine (unhide HC).mono ?_; rintro e w' ⟨rfl, rfl⟩)
              go_roundw
              case rel => exact ⟨2, S0, E0, I, E1, I + 1, true, rfl, rfl, rfl, rfl, rfl, rfl, by go_num, HN.out, by trivial⟩
              case measure => simp [intOf]; omega
            · have k1 : ((C : Int) + 1 == 1) = false := by simp; omega
              have k2 : ((C : Int) + 1 == 2) = false := by simp; omega
              go_wp2_with (go_at_call 15; refine (unhide HC).mono ?_; rintro e w' ⟨rfl, rfl⟩)
              go_roundw
              case rel =>
                have h := HN.out
                rw [if_neg c0, if_neg c1] at h
                exact ⟨C + 1, S0, E0, S1, E1, I + 1, true, by go_num, rfl, rfl, rfl, rfl, rfl, by go_num, h, by trivial⟩
              case measure => simp [intOf]; omega
        | true =>
          have HN := hide (inv_cont HI.out hlt HZ.out)
          clear HI
          go_wp2_with (go_at_call 15; refine (unhide HC).mono ?_; rintro e w' ⟨rfl, rfl⟩)
          go_roundw
          case rel => exact ⟨C, S0, E0, S1, E1, I + 1, true, rfl, rfl, rfl, rfl, rfl, rfl, by go_num, HN.out, by trivial⟩
          case measure => simp [intOf]; omega
      · cases bb with
        | false =>
          have HN := hide (inv_skip HI.out hlt hz)
          clear HI
          generalize hk : Lib.headSpace (l.drop I) = k at hcall hz HN hhl
          have HC := hide hcall
          clear hcall hk
          have k0 : ((k : Int) == 0) = false := by simp; omega
          have k1 : 1 ≤ k := by omega
          clear hz
          go_wp2_with (go_at_call 15; refine (unhide HC).mono ?_; rintro e w' ⟨rfl, rfl⟩)
          go_roundw
          case rel => exact ⟨C, S0, E0, S1, E1, I + k, false, rfl, rfl, rfl, rfl, rfl, rfl, by go_num, HN.out, by trivial⟩
          case measure => simp [intOf]; omega
        | true =>
          have HN := hide (inv_end HI.out hlt hz)
          clear HI
          generalize hk : Lib.headSpace (l.drop I) = k at hcall hz HN hhl
          have HC := hide hcall
          clear hcall hk
          have k0 : ((k : Int) == 0) = false := by simp; omega
          have k1 : 1 ≤ k := by omega
          clear hz
          by_cases c0 : C = 1
          · subst c0
            go_wp2_with (go_at_call 15; refine (unhide HC).mono ?_; rintro e w' ⟨rfl, rfl⟩)
            go_roundw
            case rel => exact ⟨1, S0, I, S1, E1, I + k, false, rfl, rfl, rfl, rfl, rfl, rfl, by go_num, HN.out, by trivial⟩
            case measure => simp [intOf]; omega
          · by_cases c1 : C = 2
            · subst c1
              go_wp2_with (go_at_call 15; refine (unhide HC).mono ?_; rintro e w' ⟨rfl, rfl⟩)
              go_roundw
              case rel => exact ⟨2, S0, E0, S1, I, I + k, false, rfl, rfl, rfl, rfl, rfl, rfl, by go_num, HN.out, by trivial⟩
              case measure => simp [intOf]; omega
            · have k2 : ((C : Int) == 1) = false := by simp; omega
              have k3 : ((C : Int) == 2) = false := by simp; omega
              go_wp2_with (go_at_call 15; refine (unhide HC).mono ?_; rintro e w' ⟨rfl, rfl⟩)
              go_roundw
              case rel =>
                have h := HN.out
                rw [if_neg c0, if_neg c1] at h
                exact ⟨C, S0, E0, S1, E1, I + k, false, rfl, rfl, rfl, rfl, rfl, rfl, by go_num, h, by trivial⟩
              case measure => simp [intOf]; omega
    · have HFIN := hide (inv_fin HI.out hlt)
      cases bb with
      | false =>
        go_wp2
        refine bodyPost_ret (v := .tuple #[.int .i64 C, .int .i64 S0, .int .i64 E0, .int .i64 S1, .int .i64 E1]) (by simp [results, Tryf.results9, go_sem]) rfl ⟨⟨C, S0, E0, S1, E1, rfl, by omega, HFIN.out.1, fun h => ?_⟩, rfl⟩
        have := HFIN.out.2 h
        simpa using this
      | true =>
        by_cases c0 : C = 1
        · subst c0
          go_wp2
          refine bodyPost_ret (v := .tuple #[.int .i64 1, .int .i64 S0, .int .i64 l.length, .int .i64 S1, .int .i64 E1]) (by simp [results, Tryf.results9, go_sem]) rfl ⟨⟨1, S0, l.length, S1, E1, rfl, by omega, HFIN.out.1, fun h => by omega⟩, rfl⟩
        · by_cases c1 : C = 2
          · subst c1
            go_wp2
            refine bodyPost_ret (v := .tuple #[.int .i64 2, .int .i64 S0, .int .i64 E0, .int .i64 S1, .int .i64 l.length]) (by simp [results, Tryf.results9, go_sem]) rfl ⟨⟨2, S0, E0, S1, l.length, rfl, by omega, HFIN.out.1, fun _ => ?_⟩, rfl⟩
            have := HFIN.out.2 trivial
            simpa using this
          · have k2 : ((C : Int) == 1) = false := by simp; omega
            have k3 : ((C : Int) == 2) = false := by simp; omega
            go_wp2
            refine bodyPost_ret (v := .tuple #[.int .i64 C, .int .i64 S0, .int .i64 E0, .int .i64 S1, .int .i64 E1]) (by simp [results, Tryf.results9, go_sem]) rfl ⟨⟨C, S0, E0, S1, E1, rfl, by omega, HFIN.out.1, fun h => absurd h c1⟩, rfl⟩
end Go.Proofs.Qxb6600209aFmt
