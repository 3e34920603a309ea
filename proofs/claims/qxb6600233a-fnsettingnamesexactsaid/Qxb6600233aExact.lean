import Derived.Test.Qxb6600233aPlain
import Derived.Test.Qxb6600233aZz
namespace Go.Proofs.Qxb6600233a
open Go.RowKit
set_option linter.unusedVariables false

theorem pos0 {a n : Nat} (h : n = a + ByteArray.size ⟨#[]⟩) : (a : Int) = (n : Int) := by
  have : ByteArray.size ⟨#[]⟩ = 0 := rfl
  omega
theorem posA {a n : Nat} (h : n = a + sufA.size) : (a : Int) + 34 = (n : Int) := by
  have : sufA.size = 34 := rfl
  omega
theorem posB {a n : Nat} (h : n = a + sufB.size) : (a : Int) + 9 = (n : Int) := by
  have : sufB.size = 9 := rfl
  omega
theorem posA' {a n : Nat} (h : n = a + sufA.size) : (a : Int) + (sufA.size : Int) = (n : Int) := by omega
theorem posB' {a n : Nat} (h : n = a + sufB.size) : (a : Int) + (sufB.size : Int) = (n : Int) := by omega

set_option maxRecDepth 100000 in
set_option maxHeartbeats 4000000 in
theorem exact4 (p p2 : Option Addr) (ss : List St) (os : List Ov) (c c2 : Nat) (w : World) (hl1 : ss.length ≤ 9223372036854775807) (hl2 : os.length ≤ 9223372036854775807) (hp : p = none → ss.length = 0 ∧ c = 0) (hp2 : p2 = none → os.length = 0 ∧ c2 = 0)
    (hS : SetsAt w p ss) (hz : SzS ss) (hO : OvsAt w p2 os) (hzo : SzO os) :
    Calls Try.prog 4 #[.slice p ss.length c, .slice p2 os.length c2] w fun e w' => e = .returned (.bool true) ∧ Below w.heap.size w w' := by
  have HS := hide hS
  have HZ := hide hz
  have HO := hide hO
  have HZO := hide hzo
  have HP := hide hp
  have HP2 := hide hp2
  clear hS hz hO hzo hp hp2
  go_enter Try.func4, Try.ntmps4
  go_wp2_with fail
  refine (zz13 p p2 ss os c c2 w hl1 hl2 HS.out HZ.out HO.out HZO.out).mono ?_
  rintro e w1 ⟨⟨bz, rfl⟩, hw1⟩
  subst w1
  cases bz
  · go_wp2
    go_ret
    exact ⟨rfl, Below.refl _ _⟩
  · by_cases hL1 : (65536 : Int) < (ss.length : Int)
    · go_wp2
      go_ret
      exact ⟨rfl, Below.refl _ _⟩
    · by_cases hL2 : (65536 : Int) < (os.length : Int)
      · go_wp2
        go_ret
        exact ⟨rfl, Below.refl _ _⟩
      · go_wp2_with fail
        refine (sets8 p ss c w (by omega) HS.out HZ.out).mono ?_
        rintro e w1 ⟨⟨n1, rfl, hn1, ht1⟩, q1, rfl⟩
        go_wp2_with fail
        refine (overs14 p2 os c2 (w.drewN q1) (by omega) HO.out HZO.out).mono ?_
        rintro e w1 ⟨⟨n2, rfl, hn2, ht2⟩, q2, rfl⟩
        rw [drewN_drewN]
        by_cases hT : (1048576 : Int) < (n1 : Int) + (n2 : Int)
        · go_wp2
          go_ret
          exact ⟨rfl, drewN_below (Below.refl _ _) _⟩
        · have htot : totS ss ≤ 1048576 := by have := ht1 (by omega); omega
          clear ht1 ht2
          go_wp2_with fail
          refine (sets11 p ss c (w.drewN (q1 + q2)) HP.out (by omega) HS.out).mono ?_
          rintro e w3 ⟨p3, c3, rfl, hs3, hb3⟩
          have HB3 : Hid (Below w.heap.size w w3) := (drewN_below (Below.refl _ w) (q1 + q2)).trans hb3
          have HS3 := hide hs3
          clear hs3 hb3
          go_wp2_with fail
          refine (ovs16 p2 os c2 w3 HP2.out (by omega) (HO.out.below HB3.out)).mono ?_
          rintro e w4 ⟨p4, c4, rfl, hs4, hb4⟩
          have HB4 : Hid (Below w.heap.size w w4) := HB3.out.trans (hb4.mono HB3.out.size)
          have HS4 : Hid (SetsAt w4 p3 ss) := HS3.out.below hb4
          have HO4 := hide hs4
          clear hs4 hb4 HS3 HB3
          go_wp2_with fail
          refine (zn15 _ _ _ _ _ _ _ _ _ (names21 p3 p4 ss os c3 c4 w4 (by omega) (by omega) HS4.out HO4.out (fun s hs => Nat.le_trans (nm_le ss s hs) htot) (by have := joined_le ss os; rw [joined_size] at this; unfold nms at this; omega))).mono ?_
          rintro e w5 ⟨rfl, hb5⟩
          have HB5 : Hid (Below w.heap.size w w5) := HB4.out.trans (hb5.mono HB4.out.size)
          have hTs : (joined ss os).size ≤ 1048576 := Nat.le_trans (joined_le ss os) htot
          have HALL := hide (pl_all ss os)
          have HAT := hide (fun (k : Nat) (s : St) (h : ss[k]? = some s) (hk : k < ss.length) => at_k (os := os) h hk)
          have HPN := hide (fun (k : Nat) (s : St) (h : ss[k]? = some s) (hk : k < ss.length) => pl_next (os := os) h hk)
          have HP0 : Hid (pl ss os 0 = 0) := rfl
          generalize joined ss os = T at hTs HALL HAT ⊢
          generalize pl ss os = P at HALL HAT HPN HP0
          clear hb5 HS4 HO4 HB4
          go_wp2
          go_loopw [6, 7] (fun ps i wr => ∃ k : Nat, k ≤ ss.length ∧ i = .int .i64 k ∧ ps = .int .i64 (P k : Nat) ∧ Hid (Below w.heap.size w wr)) (fun _ i _ => ss.length - (intOf i).toNat)
          case atStart => exact ⟨0, Nat.zero_le _, rfl, by rw [HP0.out]; rfl, HB5⟩
          case round =>
            clear HB5
            obtain ⟨k, hk, rfl, rfl, HB⟩ := hrel
            by_cases hlt : k < ss.length
            · have hget : ss[k]? = some ss[k] := List.getElem?_eq_getElem hlt
              obtain ⟨b, off, rfl, c0, c1, cs⟩ := (HS.out.below HB.out) k ss[k] hget
              have hat := HAT.out k ss[k] hget hlt
              have hpn := HPN.out k ss[k] hget hlt
              generalize ss[k] = s at c0 c1 cs hget hat hpn
              obtain ⟨hroom, hgap, hname, hsf⟩ := hat
              have HX0 : Hid (s.nm = s.nm) := rfl
              obtain ⟨x, hx⟩ : ∃ x, s.nm = x := ⟨_, rfl⟩
              obtain ⟨y, hyy⟩ : ∃ y, sfx os s = y := ⟨_, rfl⟩
              rw [hx, hyy] at hroom
              rw [hx] at hname
              rw [hx, hyy] at hsf
              rw [hx, hyy] at hpn
              rw [hx] at c0
              have HX := hide hx
              have HY := hide hyy
              have HPN2 := hide hpn
              generalize P k = a at hroom hgap hname hsf HPN2 ⊢
              clear hx hyy hpn hget c1 HX0
              by_cases hk0 : k = 0
              · rw [if_pos hk0] at hroom hname hsf HPN2
                obtain ⟨a1, ha1⟩ : ∃ a1, a = a1 := ⟨_, rfl⟩
                subst ha1
                obtain ⟨a2, ha2⟩ : ∃ a2, a + x.size = a2 := ⟨_, rfl⟩
                have HNM : Hid (Stands T a x) := by have := hname; rw [Nat.add_zero] at this; exact this
                have HSF : Hid (Stands T a2 y) := by have := hsf; rw [Nat.add_zero, ha2] at this; exact this
                have HPN2 : Hid (P (k + 1) = a2 + y.size) := by rw [HPN2.out, Nat.add_zero, ha2]; exact rfl
                have hkz : ¬ ((0 : Int) < (k : Int)) := by omega
                clear hname hsf hgap hk0
                go_wp2_with fail
                refine (at17 T x a _ (by omega) (by omega) HNM.out).mono ?_
                rintro e w6 ⟨rfl, q6, rfl⟩
                have ea2 : (a : Int) + (x.size : Int) = (a2 : Int) := by omega
                rcases hsk : s.sk with _ | _
                · rw [hsk] at cs
                  have hy : y = ⟨#[]⟩ := by rw [← HY.out]; unfold sfx; rw [hsk]; rfl
                  subst hy
                  clear hsk
                  go_wp2_with fail
                  refine (at17 T ⟨#[]⟩ a2 _ (by omega) (by omega) HSF.out).mono ?_
                  rintro e w7 ⟨rfl, q7, rfl⟩
                  rw [drewN_drewN]
                  go_wp2
                  go_roundw
                  case rel => exact ⟨k + 1, by omega, by go_num, congrArg (Value.int IntKind.i64) (by first | exact pos0 HPN2.out | exact posA HPN2.out | exact posB HPN2.out | exact posA' HPN2.out | exact posB' HPN2.out), drewN_below HB.out _⟩
                  case measure => simp [intOf]; omega
                · rw [hsk] at cs
                  have HYT : Hid (y = if hasName os x then sufA else sufB) := by rw [← HY.out]; unfold sfx; rw [hsk, HX.out]; exact rfl
                  clear hsk
                  go_wp2
                  go_loopw [8, 9] (fun sf jv wq => ∃ jj : Nat, jj ≤ os.length ∧ jv = .int .i64 jj ∧ sf = .string sufB ∧ Hid (hasName (os.take jj) x = false) ∧ ∃ q, wq = wr.drewN q) (fun _ jv _ => os.length - (intOf jv).toNat)
                  case atStart => exact ⟨0, Nat.zero_le _, rfl, rfl, (rfl : hasName (os.take 0) x = false), _, rfl⟩
                  case round =>
                    obtain ⟨jj, hjj, rfl, rfl, HF, qj, rfl⟩ := hrel
                    rename_i wrI
                    by_cases hlj : jj < os.length
                    · have hgj : os[jj]? = some os[jj] := List.getElem?_eq_getElem hlj
                      obtain ⟨bo, offo, rfl, o0, o1⟩ := (HO.out.below HB.out) jj os[jj] hgj
                      have HTK := hide (has_take os x jj os[jj] hgj)
                      generalize os[jj] = o at o0 o1 HTK hgj
                      generalize o.nm = on at o0 HTK
                      clear hgj o1
                      go_wp2_with fail
                      go_quiet (fail)
                      rw [drewN_drewN]
                      rcases heq : (on.toList == x.toList) with _ | _
                      · rw [heq] at HTK
                        go_wp2
                        go_roundw
                        case rel => exact ⟨jj + 1, by omega, by go_num, rfl, by rw [HTK.out, HF.out]; exact rfl, _, rfl⟩
                        case measure => simp [intOf]; omega
                      · rw [heq] at HTK
                        have hy : y = sufA := by rw [HYT.out, has_of os x (jj + 1) (by rw [HTK.out]; simp)]; rfl
                        subst hy
                        go_wp2_with fail
                        refine (at17 T sufA a2 _ (by omega) (by omega) HSF.out).mono ?_
                        rintro e w7 ⟨rfl, q7, rfl⟩
                        rw [drewN_drewN]
                        go_wp2
                        go_roundw
                        case rel => exact ⟨k + 1, by omega, by go_num, congrArg (Value.int IntKind.i64) (by first | exact pos0 HPN2.out | exact posA HPN2.out | exact posB HPN2.out | exact posA' HPN2.out | exact posB' HPN2.out), drewN_below HB.out _⟩
                        case measure => simp [intOf]; omega
                    · have hkt : os.take jj = os := List.take_of_length_le (by omega)
                      have hy : y = sufB := by rw [HYT.out, ← hkt, HF.out]; rfl
                      subst hy
                      clear hkt
                      go_wp2_with fail
                      refine (at17 T sufB a2 _ (by omega) (by omega) HSF.out).mono ?_
                      rintro e w7 ⟨rfl, q7, rfl⟩
                      rw [drewN_drewN]
                      go_wp2
                      go_roundw
                      case rel => exact ⟨k + 1, by omega, by go_num, congrArg (Value.int IntKind.i64) (by first | exact pos0 HPN2.out | exact posA HPN2.out | exact posB HPN2.out | exact posA' HPN2.out | exact posB' HPN2.out), drewN_below HB.out _⟩
                      case measure => simp [intOf]; omega
              · rw [if_neg hk0] at hroom hname hsf HPN2 hgap
                have HGP : Hid (Stands T a sepB) := by
                  rcases hgap with h | h
                  · cases h
                  · exact h.2
                obtain ⟨a1, ha1⟩ : ∃ a1, a + 2 = a1 := ⟨_, rfl⟩
                obtain ⟨a2, ha2⟩ : ∃ a2, a1 + x.size = a2 := ⟨_, rfl⟩
                have HNM : Hid (Stands T a1 x) := by have := hname; rw [ha1] at this; exact this
                have HSF : Hid (Stands T a2 y) := by have := hsf; rw [ha1, ha2] at this; exact this
                have HPN2 : Hid (P (k + 1) = a2 + y.size) := by rw [HPN2.out, ha1, ha2]; exact rfl
                have hkz : (0 : Int) < (k : Int) := by omega
                have hsz2 : sepB.size = 2 := rfl
                have ea1 : (a : Int) + 2 = (a1 : Int) := by omega
                clear hname hsf hgap
                go_wp2_with fail
                refine (at17 T sepB a wr (by omega) (by omega) HGP.out).mono ?_
                rintro e w5' ⟨rfl, q5, rfl⟩
                go_wp2_with fail
                refine (at17 T x a1 _ (by omega) (by omega) HNM.out).mono ?_
                rintro e w6 ⟨rfl, q6, rfl⟩
                rw [drewN_drewN]
                have ea2 : (a1 : Int) + (x.size : Int) = (a2 : Int) := by omega
                rcases hsk : s.sk with _ | _
                · rw [hsk] at cs
                  have hy : y = ⟨#[]⟩ := by rw [← HY.out]; unfold sfx; rw [hsk]; rfl
                  subst hy
                  clear hsk
                  go_wp2_with fail
                  refine (at17 T ⟨#[]⟩ a2 _ (by omega) (by omega) HSF.out).mono ?_
                  rintro e w7 ⟨rfl, q7, rfl⟩
                  rw [drewN_drewN]
                  go_wp2
                  go_roundw
                  case rel => exact ⟨k + 1, by omega, by go_num, congrArg (Value.int IntKind.i64) (by first | exact pos0 HPN2.out | exact posA HPN2.out | exact posB HPN2.out | exact posA' HPN2.out | exact posB' HPN2.out), drewN_below HB.out _⟩
                  case measure => simp [intOf]; omega
                · rw [hsk] at cs
                  have HYT : Hid (y = if hasName os x then sufA else sufB) := by rw [← HY.out]; unfold sfx; rw [hsk, HX.out]; exact rfl
                  clear hsk
                  go_wp2
                  go_loopw [8, 9] (fun sf jv wq => ∃ jj : Nat, jj ≤ os.length ∧ jv = .int .i64 jj ∧ sf = .string sufB ∧ Hid (hasName (os.take jj) x = false) ∧ ∃ q, wq = wr.drewN q) (fun _ jv _ => os.length - (intOf jv).toNat)
                  case atStart => exact ⟨0, Nat.zero_le _, rfl, rfl, (rfl : hasName (os.take 0) x = false), _, rfl⟩
                  case round =>
                    obtain ⟨jj, hjj, rfl, rfl, HF, qj, rfl⟩ := hrel
                    rename_i wrI
                    by_cases hlj : jj < os.length
                    · have hgj : os[jj]? = some os[jj] := List.getElem?_eq_getElem hlj
                      obtain ⟨bo, offo, rfl, o0, o1⟩ := (HO.out.below HB.out) jj os[jj] hgj
                      have HTK := hide (has_take os x jj os[jj] hgj)
                      generalize os[jj] = o at o0 o1 HTK hgj
                      generalize o.nm = on at o0 HTK
                      clear hgj o1
                      go_wp2_with fail
                      go_quiet (fail)
                      rw [drewN_drewN]
                      rcases heq : (on.toList == x.toList) with _ | _
                      · rw [heq] at HTK
                        go_wp2
                        go_roundw
                        case rel => exact ⟨jj + 1, by omega, by go_num, rfl, by rw [HTK.out, HF.out]; exact rfl, _, rfl⟩
                        case measure => simp [intOf]; omega
                      · rw [heq] at HTK
                        have hy : y = sufA := by rw [HYT.out, has_of os x (jj + 1) (by rw [HTK.out]; simp)]; rfl
                        subst hy
                        go_wp2_with fail
                        refine (at17 T sufA a2 _ (by omega) (by omega) HSF.out).mono ?_
                        rintro e w7 ⟨rfl, q7, rfl⟩
                        rw [drewN_drewN]
                        go_wp2
                        go_roundw
                        case rel => exact ⟨k + 1, by omega, by go_num, congrArg (Value.int IntKind.i64) (by first | exact pos0 HPN2.out | exact posA HPN2.out | exact posB HPN2.out | exact posA' HPN2.out | exact posB' HPN2.out), drewN_below HB.out _⟩
                        case measure => simp [intOf]; omega
                    · have hkt : os.take jj = os := List.take_of_length_le (by omega)
                      have hy : y = sufB := by rw [HYT.out, ← hkt, HF.out]; rfl
                      subst hy
                      clear hkt
                      go_wp2_with fail
                      refine (at17 T sufB a2 _ (by omega) (by omega) HSF.out).mono ?_
                      rintro e w7 ⟨rfl, q7, rfl⟩
                      rw [drewN_drewN]
                      go_wp2
                      go_roundw
                      case rel => exact ⟨k + 1, by omega, by go_num, congrArg (Value.int IntKind.i64) (by first | exact pos0 HPN2.out | exact posA HPN2.out | exact posB HPN2.out | exact posA' HPN2.out | exact posB' HPN2.out), drewN_below HB.out _⟩
                      case measure => simp [intOf]; omega
            · obtain rfl : k = ss.length := by omega
              rw [HALL.out]
              have heq : ((T.size : Int) == (T.size : Int)) = true := by simp
              go_wp2
              go_ret
              exact ⟨rfl, HB.out⟩
end Go.Proofs.Qxb6600233a
