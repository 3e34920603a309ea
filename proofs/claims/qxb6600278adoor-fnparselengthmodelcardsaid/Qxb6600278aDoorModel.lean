import Derived.Test.Qxb6600278aDoorWalk2
import Derived.Test.Qxb6600278aDoorPlain2
import Derived.Deep.Cut
import Derived.Deep.CutRange
namespace Go.Proofs.Qxb6600278aDoor
open Go.RowKit
set_option linter.unusedVariables false

theorem extract_list (s : ByteArray) (z : Nat) : (s.extract z s.size).data.toList = s.data.toList.drop z := by
  rw [ByteArray.data_extract, Array.toList_extract]
  simp only [List.extract]
  rw [List.take_of_length_le (by rw [List.length_drop, len_of]; omega)]

theorem at_48 (s : ByteArray) (j : Nat) (h : j < s.size) (h48 : s[j].toNat = 48) : s.data.toList[j]? = some 48 := by
  have hk : j < s.data.toList.length := by rw [len_of]; exact h
  rw [List.getElem?_eq_getElem hk]
  have := byte_at s j h
  rw [List.getD_eq_getElem?_getD, List.getElem?_eq_getElem hk, Option.getD_some] at this
  rw [this]
  exact congrArg some (UInt8.toNat_inj.1 (by rw [h48]; rfl))

theorem head_ne (s : ByteArray) (z : Nat) (h : z < s.size) (h48 : ¬ s[z].toNat = 48) : ∀ c r, s.data.toList.drop z = c :: r → c.toNat ≠ 48 := by
  intro c r hc
  have hk : z < s.data.toList.length := by rw [len_of]; exact h
  rw [List.drop_eq_getElem_cons hk] at hc
  injection hc with hc1 _
  have := byte_at s z h
  rw [List.getD_eq_getElem?_getD, List.getElem?_eq_getElem hk, Option.getD_some] at this
  rw [← hc1, this]
  exact h48

set_option maxRecDepth 100000 in
set_option maxHeartbeats 4000000 in
theorem model_big (s : ByteArray) (w : World) (hn : s.size ≤ 1048576) (h0 : s.size ≠ 0) (h : ∀ j, j < s.size → digAt s j) (hbig : 9223372036854775807 < dval 0 s.data.toList) :
    Calls Tryd.prog 10 #[.string s] w fun e w' => e = .returned (.tuple #[.int .i64 9223372036854775807, .bool false]) ∧ w' = w := by
  have HA := hide h
  have hz : ((s.size : Int) == 0) = false := by
    rw [beq_eq_false_iff_ne]; omega
  clear h
  go_enter Tryd.func10, Tryd.ntmps10
  go_wp2
  go_loop [4] (fun i => ∃ k : Nat, k ≤ s.size ∧ i = .int .i64 k) (fun i => s.size - (intOf i).toNat)
  case atStart => exact ⟨0, Nat.zero_le _, rfl⟩
  case round =>
    obtain ⟨k, hk, rfl⟩ := hrel
    by_cases hlt : k < s.size
    · have hb := byte_at s k hlt
      have hd' := HA.out k hlt
      unfold digAt isDig at hd'
      rw [hb] at hd'
      obtain ⟨d1, d2⟩ := hd'
      have e1 : (48 : Int) ≤ (s[k].toNat : Int) := by omega
      have e2 : (s[k].toNat : Int) ≤ 57 := by omega
      clear hb d1 d2
      go_wp2
      go_round
      case rel => exact ⟨k + 1, by omega, by go_num⟩
      case measure => simp [intOf]; omega
    · go_wp2
      go_loop [5] (fun i => ∃ z : Nat, z ≤ s.size ∧ i = .int .i64 z ∧ Hid (∀ j, j < z → s.data.toList[j]? = some 48)) (fun i => s.size - (intOf i).toNat)
      case atStart => exact ⟨0, Nat.zero_le _, rfl, fun j hj => absurd hj (Nat.not_lt_zero _)⟩
      case round =>
        obtain ⟨z, hz1, rfl, HZ⟩ := hrel
        by_cases hlt2 : z < s.size
        · have hb := byte_at s z hlt2
          by_cases h48 : s[z].toNat = 48
          · have k48 : ((s[z].toNat : Int) == 48) = true := by simp; omega
            have HB := hide hb
            have H48 := hide h48
            clear hb h48
            go_wp2
            go_round
            case rel =>
              refine ⟨z + 1, by omega, by go_num, fun j hj => ?_⟩
              by_cases e : j = z
              · subst e
                exact at_48 s j hlt2 H48.out
              · exact HZ.out j (by omega)
            case measure => simp [intOf]; omega
          · have k48 : ((s[z].toNat : Int) == 48) = false := by simp; omega
            have HHD : Hid (∀ c r, s.data.toList.drop z = c :: r → c.toNat ≠ 48) := head_ne s z hlt2 h48
            clear hb h48
            go_upto_region 12 with fail
            generalize ht : s.extract z s.size = t
            have HHD : Hid (∀ c r, t.data.toList = c :: r → c.toNat ≠ 48) := by
              have hT : t.data.toList = s.data.toList.drop z := by rw [← ht]; exact extract_list s z
              show ∀ c r, t.data.toList = c :: r → c.toNat ≠ 48
              rw [hT]; exact HHD.out
            have hT : t.data.toList = s.data.toList.drop z := by rw [← ht]; exact extract_list s z
            have hsz : t.size = s.size - z := by rw [← len_of, hT, List.length_drop, len_of]
            have hdv : dval 0 t.data.toList = dval 0 s.data.toList := by rw [hT]; exact (dval_zeros z _ HZ.out).symm
            have htd : ∀ c ∈ t.data.toList, isDig c := fun c hc => all_dig s HA.out c (List.mem_of_mem_drop (by rw [← hT]; exact hc))
            have htl : t.toList = t.data.toList := ByteArray.toList_eq t
            have HDV := hide hdv
            have HTD := hide htd
            have HTL := hide htl
            have hlen := len_of t
            have HLEN := hide hlen
            have hts : t.size ≤ 1048576 := by omega
            clear ht hT hsz hdv htd htl hlen

            have HB := hide (HTL.out)
            have hD : 9223372036854775807 < dval 0 t.data.toList := by rw [HDV.out]; exact hbig
            by_cases h19 : 19 < t.size
            · have k1 : (19 : Int) < (t.size : Int) := by omega
              clear hD
              go_wp2
              go_ret2
              exact ⟨rfl, rfl⟩
            · have h19' : t.size = 19 := by
                rcases Nat.lt_or_ge t.size 19 with h | h
                · have := small_of_len t.data.toList HTD.out (by rw [HLEN.out]; exact h)
                  omega
                · omega
              obtain ⟨c1, c2⟩ := cmp_of_len t.data.toList HTD.out (by rw [HLEN.out]; exact h19')
              have k1 : ¬ ((19 : Int) < (t.size : Int)) := by omega
              have k2 : ((t.size : Int) == 19) = true := by simp; omega
              have k3 : Op.bytesLess t.toList [57, 50, 50, 51, 51, 55, 50, 48, 51, 54, 56, 53, 52, 55, 55, 53, 56, 48, 55] = false := by
                rw [HTL.out]
                rcases hb : Op.bytesLess t.data.toList maxL with _ | _
                · exact hb
                · have := c2 (Or.inl hb); omega
              have k4 : (t.toList == [57, 50, 50, 51, 51, 55, 50, 48, 51, 54, 56, 53, 52, 55, 55, 53, 56, 48, 55]) = false := by
                rw [HTL.out]
                show (t.data.toList == maxL) = false
                rw [beq_eq_false_iff_ne]
                intro he
                have := c2 (Or.inr he); omega
              clear hD c1 c2 h19 h19'
              go_wp2
              go_ret2
              exact ⟨rfl, rfl⟩
        · have HHD : Hid (∀ c r, s.data.toList.drop z = c :: r → c.toNat ≠ 48) := fun c r hc => by
            rw [List.drop_eq_nil_of_le (by rw [len_of]; omega)] at hc; cases hc
          go_upto_region 12 with fail
          generalize ht : s.extract z s.size = t
          have HHD : Hid (∀ c r, t.data.toList = c :: r → c.toNat ≠ 48) := by
            have hT : t.data.toList = s.data.toList.drop z := by rw [← ht]; exact extract_list s z
            show ∀ c r, t.data.toList = c :: r → c.toNat ≠ 48
            rw [hT]; exact HHD.out
          have hT : t.data.toList = s.data.toList.drop z := by rw [← ht]; exact extract_list s z
          have hsz : t.size = s.size - z := by rw [← len_of, hT, List.length_drop, len_of]
          have hdv : dval 0 t.data.toList = dval 0 s.data.toList := by rw [hT]; exact (dval_zeros z _ HZ.out).symm
          have htd : ∀ c ∈ t.data.toList, isDig c := fun c hc => all_dig s HA.out c (List.mem_of_mem_drop (by rw [← hT]; exact hc))
          have htl : t.toList = t.data.toList := ByteArray.toList_eq t
          have HDV := hide hdv
          have HTD := hide htd
          have HTL := hide htl
          have hlen := len_of t
          have HLEN := hide hlen
          have hts : t.size ≤ 1048576 := by omega
          clear ht hT hsz hdv htd htl hlen

          have HB := hide (HTL.out)
          have hD : 9223372036854775807 < dval 0 t.data.toList := by rw [HDV.out]; exact hbig
          by_cases h19 : 19 < t.size
          · have k1 : (19 : Int) < (t.size : Int) := by omega
            clear hD
            go_wp2
            go_ret2
            exact ⟨rfl, rfl⟩
          · have h19' : t.size = 19 := by
              rcases Nat.lt_or_ge t.size 19 with h | h
              · have := small_of_len t.data.toList HTD.out (by rw [HLEN.out]; exact h)
                omega
              · omega
            obtain ⟨c1, c2⟩ := cmp_of_len t.data.toList HTD.out (by rw [HLEN.out]; exact h19')
            have k1 : ¬ ((19 : Int) < (t.size : Int)) := by omega
            have k2 : ((t.size : Int) == 19) = true := by simp; omega
            have k3 : Op.bytesLess t.toList [57, 50, 50, 51, 51, 55, 50, 48, 51, 54, 56, 53, 52, 55, 55, 53, 56, 48, 55] = false := by
              rw [HTL.out]
              rcases hb : Op.bytesLess t.data.toList maxL with _ | _
              · exact hb
              · have := c2 (Or.inl hb); omega
            have k4 : (t.toList == [57, 50, 50, 51, 51, 55, 50, 48, 51, 54, 56, 53, 52, 55, 55, 53, 56, 48, 55]) = false := by
              rw [HTL.out]
              show (t.data.toList == maxL) = false
              rw [beq_eq_false_iff_ne]
              intro he
              have := c2 (Or.inr he); omega
            clear hD c1 c2 h19 h19'
            go_wp2
            go_ret2
            exact ⟨rfl, rfl⟩

set_option maxRecDepth 100000 in
set_option maxHeartbeats 4000000 in
theorem model_small (s : ByteArray) (w : World) (hn : s.size ≤ 1048576) (h0 : s.size ≠ 0) (h : ∀ j, j < s.size → digAt s j) (hsmall : dval 0 s.data.toList ≤ 9223372036854775807) :
    Calls Tryd.prog 10 #[.string s] w fun e w' => e = .returned (.tuple #[.int .i64 (dval 0 s.data.toList : Nat), .bool true]) ∧ w' = w := by
  have HA := hide h
  have hz : ((s.size : Int) == 0) = false := by
    rw [beq_eq_false_iff_ne]; omega
  clear h
  go_enter Tryd.func10, Tryd.ntmps10
  go_wp2
  go_loop [4] (fun i => ∃ k : Nat, k ≤ s.size ∧ i = .int .i64 k) (fun i => s.size - (intOf i).toNat)
  case atStart => exact ⟨0, Nat.zero_le _, rfl⟩
  case round =>
    obtain ⟨k, hk, rfl⟩ := hrel
    by_cases hlt : k < s.size
    · have hb := byte_at s k hlt
      have hd' := HA.out k hlt
      unfold digAt isDig at hd'
      rw [hb] at hd'
      obtain ⟨d1, d2⟩ := hd'
      have e1 : (48 : Int) ≤ (s[k].toNat : Int) := by omega
      have e2 : (s[k].toNat : Int) ≤ 57 := by omega
      clear hb d1 d2
      go_wp2
      go_round
      case rel => exact ⟨k + 1, by omega, by go_num⟩
      case measure => simp [intOf]; omega
    · go_wp2
      go_loop [5] (fun i => ∃ z : Nat, z ≤ s.size ∧ i = .int .i64 z ∧ Hid (∀ j, j < z → s.data.toList[j]? = some 48)) (fun i => s.size - (intOf i).toNat)
      case atStart => exact ⟨0, Nat.zero_le _, rfl, fun j hj => absurd hj (Nat.not_lt_zero _)⟩
      case round =>
        obtain ⟨z, hz1, rfl, HZ⟩ := hrel
        by_cases hlt2 : z < s.size
        · have hb := byte_at s z hlt2
          by_cases h48 : s[z].toNat = 48
          · have k48 : ((s[z].toNat : Int) == 48) = true := by simp; omega
            have HB := hide hb
            have H48 := hide h48
            clear hb h48
            go_wp2
            go_round
            case rel =>
              refine ⟨z + 1, by omega, by go_num, fun j hj => ?_⟩
              by_cases e : j = z
              · subst e
                exact at_48 s j hlt2 H48.out
              · exact HZ.out j (by omega)
            case measure => simp [intOf]; omega
          · have k48 : ((s[z].toNat : Int) == 48) = false := by simp; omega
            have HHD : Hid (∀ c r, s.data.toList.drop z = c :: r → c.toNat ≠ 48) := head_ne s z hlt2 h48
            clear hb h48
            go_upto_region 12 with fail
            generalize ht : s.extract z s.size = t
            have HHD : Hid (∀ c r, t.data.toList = c :: r → c.toNat ≠ 48) := by
              have hT : t.data.toList = s.data.toList.drop z := by rw [← ht]; exact extract_list s z
              show ∀ c r, t.data.toList = c :: r → c.toNat ≠ 48
              rw [hT]; exact HHD.out
            have hT : t.data.toList = s.data.toList.drop z := by rw [← ht]; exact extract_list s z
            have hsz : t.size = s.size - z := by rw [← len_of, hT, List.length_drop, len_of]
            have hdv : dval 0 t.data.toList = dval 0 s.data.toList := by rw [hT]; exact (dval_zeros z _ HZ.out).symm
            have htd : ∀ c ∈ t.data.toList, isDig c := fun c hc => all_dig s HA.out c (List.mem_of_mem_drop (by rw [← hT]; exact hc))
            have htl : t.toList = t.data.toList := ByteArray.toList_eq t
            have HDV := hide hdv
            have HTD := hide htd
            have HTL := hide htl
            have hlen := len_of t
            have HLEN := hide hlen
            have hts : t.size ≤ 1048576 := by omega
            clear ht hT hsz hdv htd htl hlen

            have hD : dval 0 t.data.toList ≤ 9223372036854775807 := by rw [HDV.out]; exact hsmall
            have h19 : t.size ≤ 19 := by
              rcases Nat.lt_or_ge 19 t.size with h | h
              · have := big_of_len t.data.toList HTD.out HHD.out (by rw [HLEN.out]; exact h); omega
              · exact h
            by_cases h19' : t.size = 19
            · obtain ⟨c1, c2⟩ := cmp_of_len t.data.toList HTD.out (by rw [HLEN.out]; exact h19')
              have k1 : ¬ ((19 : Int) < (t.size : Int)) := by omega
              have k2 : ((t.size : Int) == 19) = true := by simp; omega
              have HE := hide h19'
              clear h19'
              by_cases k3 : Op.bytesLess t.toList [57, 50, 50, 51, 51, 55, 50, 48, 51, 54, 56, 53, 52, 55, 55, 53, 56, 48, 55] = true
              · clear c1 c2 hD h19
                go_wp2
                go_loop [7, 8] (fun a i => ∃ k : Nat, k ≤ t.size ∧ i = .int .i64 k ∧ a = .int .i64 (dval 0 (t.data.toList.take k) : Nat)) (fun _ i => t.size - (intOf i).toNat)
                case atStart => exact ⟨0, Nat.zero_le _, rfl, by simp [dval_nil]⟩
                case round =>
                  obtain ⟨k, hk, rfl, rfl⟩ := hrel
                  by_cases hlt3 : k < t.size
                  · have hkl : k < t.data.toList.length := by rw [HLEN.out]; exact hlt3
                    have hb := byte_at t k hlt3
                    have hsn : t.data.toList.take (k + 1) = t.data.toList.take k ++ [(t[k]'hlt3)] := by
                      rw [List.take_succ_eq_append_getElem hkl, ← hb, List.getD_eq_getElem?_getD, List.getElem?_eq_getElem hkl, Option.getD_some]
                    have hstep : dval 0 (t.data.toList.take (k + 1)) = dval 0 (t.data.toList.take k) * 10 + ((t[k]'hlt3).toNat - 48) := by
                      rw [hsn, dval_append, dval_cons, dval_nil]
                    have hbd : dval 0 (t.data.toList.take (k + 1)) ≤ 9223372036854775807 := Nat.le_trans (dval_take_le _ _) (by rw [HDV.out]; exact hsmall)
                    have hdig := HTD.out (t[k]'hlt3) (by rw [← hb, List.getD_eq_getElem?_getD, List.getElem?_eq_getElem hkl, Option.getD_some]; exact List.getElem_mem hkl)
                    unfold isDig at hdig
                    obtain ⟨g1, g2⟩ := hdig
                    have HST := hide hstep
                    have e1 : (48 : Int) ≤ ((t[k]'hlt3).toNat : Int) := by omega
                    have e2 : ((t[k]'hlt3).toNat : Int) ≤ 57 := by omega
                    generalize hdk : dval 0 (t.data.toList.take k) = dk at HST ⊢
                    have e3 : (dk : Int) * 10 + (((t[k]'hlt3).toNat : Int) - 48) ≤ 9223372036854775807 := by have := HST.out; omega
                    have e4 : (dk : Int) * 10 ≤ 9223372036854775807 := by omega
                    have e5 : (0 : Int) ≤ (dk : Int) := by omega
                    clear hb hsn hstep hbd hdk hkl
                    go_wp2
                    go_round
                    case rel => exact ⟨k + 1, by omega, by go_num, congrArg (Value.int IntKind.i64) (by rw [HST.out]; omega)⟩
                    case measure => simp [intOf]; omega
                  · have hkt : t.data.toList.take k = t.data.toList := List.take_of_length_le (by rw [HLEN.out]; omega)
                    rw [hkt, HDV.out]
                    clear hkt
                    go_wp2
                    go_ret2
                    exact ⟨rfl, rfl⟩
              · have k3' : Op.bytesLess t.toList [57, 50, 50, 51, 51, 55, 50, 48, 51, 54, 56, 53, 52, 55, 55, 53, 56, 48, 55] = false := by simpa using k3
                have k4 : (t.toList == [57, 50, 50, 51, 51, 55, 50, 48, 51, 54, 56, 53, 52, 55, 55, 53, 56, 48, 55]) = true := by
                  rw [HTL.out] at k3' ⊢
                  show (t.data.toList == maxL) = true
                  rw [beq_iff_eq]
                  rcases Classical.em (t.data.toList = maxL) with h | h
                  · exact h
                  · have := c1 k3' h; omega
                clear c1 c2 hD h19 k3
                go_wp2
                go_loop [7, 8] (fun a i => ∃ k : Nat, k ≤ t.size ∧ i = .int .i64 k ∧ a = .int .i64 (dval 0 (t.data.toList.take k) : Nat)) (fun _ i => t.size - (intOf i).toNat)
                case atStart => exact ⟨0, Nat.zero_le _, rfl, by simp [dval_nil]⟩
                case round =>
                  obtain ⟨k, hk, rfl, rfl⟩ := hrel
                  by_cases hlt3 : k < t.size
                  · have hkl : k < t.data.toList.length := by rw [HLEN.out]; exact hlt3
                    have hb := byte_at t k hlt3
                    have hsn : t.data.toList.take (k + 1) = t.data.toList.take k ++ [(t[k]'hlt3)] := by
                      rw [List.take_succ_eq_append_getElem hkl, ← hb, List.getD_eq_getElem?_getD, List.getElem?_eq_getElem hkl, Option.getD_some]
                    have hstep : dval 0 (t.data.toList.take (k + 1)) = dval 0 (t.data.toList.take k) * 10 + ((t[k]'hlt3).toNat - 48) := by
                      rw [hsn, dval_append, dval_cons, dval_nil]
                    have hbd : dval 0 (t.data.toList.take (k + 1)) ≤ 9223372036854775807 := Nat.le_trans (dval_take_le _ _) (by rw [HDV.out]; exact hsmall)
                    have hdig := HTD.out (t[k]'hlt3) (by rw [← hb, List.getD_eq_getElem?_getD, List.getElem?_eq_getElem hkl, Option.getD_some]; exact List.getElem_mem hkl)
                    unfold isDig at hdig
                    obtain ⟨g1, g2⟩ := hdig
                    have HST := hide hstep
                    have e1 : (48 : Int) ≤ ((t[k]'hlt3).toNat : Int) := by omega
                    have e2 : ((t[k]'hlt3).toNat : Int) ≤ 57 := by omega
                    generalize hdk : dval 0 (t.data.toList.take k) = dk at HST ⊢
                    have e3 : (dk : Int) * 10 + (((t[k]'hlt3).toNat : Int) - 48) ≤ 9223372036854775807 := by have := HST.out; omega
                    have e4 : (dk : Int) * 10 ≤ 9223372036854775807 := by omega
                    have e5 : (0 : Int) ≤ (dk : Int) := by omega
                    clear hb hsn hstep hbd hdk hkl
                    go_wp2
                    go_round
                    case rel => exact ⟨k + 1, by omega, by go_num, congrArg (Value.int IntKind.i64) (by rw [HST.out]; omega)⟩
                    case measure => simp [intOf]; omega
                  · have hkt : t.data.toList.take k = t.data.toList := List.take_of_length_le (by rw [HLEN.out]; omega)
                    rw [hkt, HDV.out]
                    clear hkt
                    go_wp2
                    go_ret2
                    exact ⟨rfl, rfl⟩
            · have k1 : ¬ ((19 : Int) < (t.size : Int)) := by omega
              have k2 : ((t.size : Int) == 19) = false := by simp; omega
              clear hD h19 h19'
              go_wp2
              go_loop [7, 8] (fun a i => ∃ k : Nat, k ≤ t.size ∧ i = .int .i64 k ∧ a = .int .i64 (dval 0 (t.data.toList.take k) : Nat)) (fun _ i => t.size - (intOf i).toNat)
              case atStart => exact ⟨0, Nat.zero_le _, rfl, by simp [dval_nil]⟩
              case round =>
                obtain ⟨k, hk, rfl, rfl⟩ := hrel
                by_cases hlt3 : k < t.size
                · have hkl : k < t.data.toList.length := by rw [HLEN.out]; exact hlt3
                  have hb := byte_at t k hlt3
                  have hsn : t.data.toList.take (k + 1) = t.data.toList.take k ++ [(t[k]'hlt3)] := by
                    rw [List.take_succ_eq_append_getElem hkl, ← hb, List.getD_eq_getElem?_getD, List.getElem?_eq_getElem hkl, Option.getD_some]
                  have hstep : dval 0 (t.data.toList.take (k + 1)) = dval 0 (t.data.toList.take k) * 10 + ((t[k]'hlt3).toNat - 48) := by
                    rw [hsn, dval_append, dval_cons, dval_nil]
                  have hbd : dval 0 (t.data.toList.take (k + 1)) ≤ 9223372036854775807 := Nat.le_trans (dval_take_le _ _) (by rw [HDV.out]; exact hsmall)
                  have hdig := HTD.out (t[k]'hlt3) (by rw [← hb, List.getD_eq_getElem?_getD, List.getElem?_eq_getElem hkl, Option.getD_some]; exact List.getElem_mem hkl)
                  unfold isDig at hdig
                  obtain ⟨g1, g2⟩ := hdig
                  have HST := hide hstep
                  have e1 : (48 : Int) ≤ ((t[k]'hlt3).toNat : Int) := by omega
                  have e2 : ((t[k]'hlt3).toNat : Int) ≤ 57 := by omega
                  generalize hdk : dval 0 (t.data.toList.take k) = dk at HST ⊢
                  have e3 : (dk : Int) * 10 + (((t[k]'hlt3).toNat : Int) - 48) ≤ 9223372036854775807 := by have := HST.out; omega
                  have e4 : (dk : Int) * 10 ≤ 9223372036854775807 := by omega
                  have e5 : (0 : Int) ≤ (dk : Int) := by omega
                  clear hb hsn hstep hbd hdk hkl
                  go_wp2
                  go_round
                  case rel => exact ⟨k + 1, by omega, by go_num, congrArg (Value.int IntKind.i64) (by rw [HST.out]; omega)⟩
                  case measure => simp [intOf]; omega
                · have hkt : t.data.toList.take k = t.data.toList := List.take_of_length_le (by rw [HLEN.out]; omega)
                  rw [hkt, HDV.out]
                  clear hkt
                  go_wp2
                  go_ret2
                  exact ⟨rfl, rfl⟩
        · have HHD : Hid (∀ c r, s.data.toList.drop z = c :: r → c.toNat ≠ 48) := fun c r hc => by
            rw [List.drop_eq_nil_of_le (by rw [len_of]; omega)] at hc; cases hc
          go_upto_region 12 with fail
          generalize ht : s.extract z s.size = t
          have HHD : Hid (∀ c r, t.data.toList = c :: r → c.toNat ≠ 48) := by
            have hT : t.data.toList = s.data.toList.drop z := by rw [← ht]; exact extract_list s z
            show ∀ c r, t.data.toList = c :: r → c.toNat ≠ 48
            rw [hT]; exact HHD.out
          have hT : t.data.toList = s.data.toList.drop z := by rw [← ht]; exact extract_list s z
          have hsz : t.size = s.size - z := by rw [← len_of, hT, List.length_drop, len_of]
          have hdv : dval 0 t.data.toList = dval 0 s.data.toList := by rw [hT]; exact (dval_zeros z _ HZ.out).symm
          have htd : ∀ c ∈ t.data.toList, isDig c := fun c hc => all_dig s HA.out c (List.mem_of_mem_drop (by rw [← hT]; exact hc))
          have htl : t.toList = t.data.toList := ByteArray.toList_eq t
          have HDV := hide hdv
          have HTD := hide htd
          have HTL := hide htl
          have hlen := len_of t
          have HLEN := hide hlen
          have hts : t.size ≤ 1048576 := by omega
          clear ht hT hsz hdv htd htl hlen

          have hD : dval 0 t.data.toList ≤ 9223372036854775807 := by rw [HDV.out]; exact hsmall
          have h19 : t.size ≤ 19 := by
            rcases Nat.lt_or_ge 19 t.size with h | h
            · have := big_of_len t.data.toList HTD.out HHD.out (by rw [HLEN.out]; exact h); omega
            · exact h
          by_cases h19' : t.size = 19
          · obtain ⟨c1, c2⟩ := cmp_of_len t.data.toList HTD.out (by rw [HLEN.out]; exact h19')
            have k1 : ¬ ((19 : Int) < (t.size : Int)) := by omega
            have k2 : ((t.size : Int) == 19) = true := by simp; omega
            have HE := hide h19'
            clear h19'
            by_cases k3 : Op.bytesLess t.toList [57, 50, 50, 51, 51, 55, 50, 48, 51, 54, 56, 53, 52, 55, 55, 53, 56, 48, 55] = true
            · clear c1 c2 hD h19
              go_wp2
              go_loop [7, 8] (fun a i => ∃ k : Nat, k ≤ t.size ∧ i = .int .i64 k ∧ a = .int .i64 (dval 0 (t.data.toList.take k) : Nat)) (fun _ i => t.size - (intOf i).toNat)
              case atStart => exact ⟨0, Nat.zero_le _, rfl, by simp [dval_nil]⟩
              case round =>
                obtain ⟨k, hk, rfl, rfl⟩ := hrel
                by_cases hlt3 : k < t.size
                · have hkl : k < t.data.toList.length := by rw [HLEN.out]; exact hlt3
                  have hb := byte_at t k hlt3
                  have hsn : t.data.toList.take (k + 1) = t.data.toList.take k ++ [(t[k]'hlt3)] := by
                    rw [List.take_succ_eq_append_getElem hkl, ← hb, List.getD_eq_getElem?_getD, List.getElem?_eq_getElem hkl, Option.getD_some]
                  have hstep : dval 0 (t.data.toList.take (k + 1)) = dval 0 (t.data.toList.take k) * 10 + ((t[k]'hlt3).toNat - 48) := by
                    rw [hsn, dval_append, dval_cons, dval_nil]
                  have hbd : dval 0 (t.data.toList.take (k + 1)) ≤ 9223372036854775807 := Nat.le_trans (dval_take_le _ _) (by rw [HDV.out]; exact hsmall)
                  have hdig := HTD.out (t[k]'hlt3) (by rw [← hb, List.getD_eq_getElem?_getD, List.getElem?_eq_getElem hkl, Option.getD_some]; exact List.getElem_mem hkl)
                  unfold isDig at hdig
                  obtain ⟨g1, g2⟩ := hdig
                  have HST := hide hstep
                  have e1 : (48 : Int) ≤ ((t[k]'hlt3).toNat : Int) := by omega
                  have e2 : ((t[k]'hlt3).toNat : Int) ≤ 57 := by omega
                  generalize hdk : dval 0 (t.data.toList.take k) = dk at HST ⊢
                  have e3 : (dk : Int) * 10 + (((t[k]'hlt3).toNat : Int) - 48) ≤ 9223372036854775807 := by have := HST.out; omega
                  have e4 : (dk : Int) * 10 ≤ 9223372036854775807 := by omega
                  have e5 : (0 : Int) ≤ (dk : Int) := by omega
                  clear hb hsn hstep hbd hdk hkl
                  go_wp2
                  go_round
                  case rel => exact ⟨k + 1, by omega, by go_num, congrArg (Value.int IntKind.i64) (by rw [HST.out]; omega)⟩
                  case measure => simp [intOf]; omega
                · have hkt : t.data.toList.take k = t.data.toList := List.take_of_length_le (by rw [HLEN.out]; omega)
                  rw [hkt, HDV.out]
                  clear hkt
                  go_wp2
                  go_ret2
                  exact ⟨rfl, rfl⟩
            · have k3' : Op.bytesLess t.toList [57, 50, 50, 51, 51, 55, 50, 48, 51, 54, 56, 53, 52, 55, 55, 53, 56, 48, 55] = false := by simpa using k3
              have k4 : (t.toList == [57, 50, 50, 51, 51, 55, 50, 48, 51, 54, 56, 53, 52, 55, 55, 53, 56, 48, 55]) = true := by
                rw [HTL.out] at k3' ⊢
                show (t.data.toList == maxL) = true
                rw [beq_iff_eq]
                rcases Classical.em (t.data.toList = maxL) with h | h
                · exact h
                · have := c1 k3' h; omega
              clear c1 c2 hD h19 k3
              go_wp2
              go_loop [7, 8] (fun a i => ∃ k : Nat, k ≤ t.size ∧ i = .int .i64 k ∧ a = .int .i64 (dval 0 (t.data.toList.take k) : Nat)) (fun _ i => t.size - (intOf i).toNat)
              case atStart => exact ⟨0, Nat.zero_le _, rfl, by simp [dval_nil]⟩
              case round =>
                obtain ⟨k, hk, rfl, rfl⟩ := hrel
                by_cases hlt3 : k < t.size
                · have hkl : k < t.data.toList.length := by rw [HLEN.out]; exact hlt3
                  have hb := byte_at t k hlt3
                  have hsn : t.data.toList.take (k + 1) = t.data.toList.take k ++ [(t[k]'hlt3)] := by
                    rw [List.take_succ_eq_append_getElem hkl, ← hb, List.getD_eq_getElem?_getD, List.getElem?_eq_getElem hkl, Option.getD_some]
                  have hstep : dval 0 (t.data.toList.take (k + 1)) = dval 0 (t.data.toList.take k) * 10 + ((t[k]'hlt3).toNat - 48) := by
                    rw [hsn, dval_append, dval_cons, dval_nil]
                  have hbd : dval 0 (t.data.toList.take (k + 1)) ≤ 9223372036854775807 := Nat.le_trans (dval_take_le _ _) (by rw [HDV.out]; exact hsmall)
                  have hdig := HTD.out (t[k]'hlt3) (by rw [← hb, List.getD_eq_getElem?_getD, List.getElem?_eq_getElem hkl, Option.getD_some]; exact List.getElem_mem hkl)
                  unfold isDig at hdig
                  obtain ⟨g1, g2⟩ := hdig
                  have HST := hide hstep
                  have e1 : (48 : Int) ≤ ((t[k]'hlt3).toNat : Int) := by omega
                  have e2 : ((t[k]'hlt3).toNat : Int) ≤ 57 := by omega
                  generalize hdk : dval 0 (t.data.toList.take k) = dk at HST ⊢
                  have e3 : (dk : Int) * 10 + (((t[k]'hlt3).toNat : Int) - 48) ≤ 9223372036854775807 := by have := HST.out; omega
                  have e4 : (dk : Int) * 10 ≤ 9223372036854775807 := by omega
                  have e5 : (0 : Int) ≤ (dk : Int) := by omega
                  clear hb hsn hstep hbd hdk hkl
                  go_wp2
                  go_round
                  case rel => exact ⟨k + 1, by omega, by go_num, congrArg (Value.int IntKind.i64) (by rw [HST.out]; omega)⟩
                  case measure => simp [intOf]; omega
                · have hkt : t.data.toList.take k = t.data.toList := List.take_of_length_le (by rw [HLEN.out]; omega)
                  rw [hkt, HDV.out]
                  clear hkt
                  go_wp2
                  go_ret2
                  exact ⟨rfl, rfl⟩
          · have k1 : ¬ ((19 : Int) < (t.size : Int)) := by omega
            have k2 : ((t.size : Int) == 19) = false := by simp; omega
            clear hD h19 h19'
            go_wp2
            go_loop [7, 8] (fun a i => ∃ k : Nat, k ≤ t.size ∧ i = .int .i64 k ∧ a = .int .i64 (dval 0 (t.data.toList.take k) : Nat)) (fun _ i => t.size - (intOf i).toNat)
            case atStart => exact ⟨0, Nat.zero_le _, rfl, by simp [dval_nil]⟩
            case round =>
              obtain ⟨k, hk, rfl, rfl⟩ := hrel
              by_cases hlt3 : k < t.size
              · have hkl : k < t.data.toList.length := by rw [HLEN.out]; exact hlt3
                have hb := byte_at t k hlt3
                have hsn : t.data.toList.take (k + 1) = t.data.toList.take k ++ [(t[k]'hlt3)] := by
                  rw [List.take_succ_eq_append_getElem hkl, ← hb, List.getD_eq_getElem?_getD, List.getElem?_eq_getElem hkl, Option.getD_some]
                have hstep : dval 0 (t.data.toList.take (k + 1)) = dval 0 (t.data.toList.take k) * 10 + ((t[k]'hlt3).toNat - 48) := by
                  rw [hsn, dval_append, dval_cons, dval_nil]
                have hbd : dval 0 (t.data.toList.take (k + 1)) ≤ 9223372036854775807 := Nat.le_trans (dval_take_le _ _) (by rw [HDV.out]; exact hsmall)
                have hdig := HTD.out (t[k]'hlt3) (by rw [← hb, List.getD_eq_getElem?_getD, List.getElem?_eq_getElem hkl, Option.getD_some]; exact List.getElem_mem hkl)
                unfold isDig at hdig
                obtain ⟨g1, g2⟩ := hdig
                have HST := hide hstep
                have e1 : (48 : Int) ≤ ((t[k]'hlt3).toNat : Int) := by omega
                have e2 : ((t[k]'hlt3).toNat : Int) ≤ 57 := by omega
                generalize hdk : dval 0 (t.data.toList.take k) = dk at HST ⊢
                have e3 : (dk : Int) * 10 + (((t[k]'hlt3).toNat : Int) - 48) ≤ 9223372036854775807 := by have := HST.out; omega
                have e4 : (dk : Int) * 10 ≤ 9223372036854775807 := by omega
                have e5 : (0 : Int) ≤ (dk : Int) := by omega
                clear hb hsn hstep hbd hdk hkl
                go_wp2
                go_round
                case rel => exact ⟨k + 1, by omega, by go_num, congrArg (Value.int IntKind.i64) (by rw [HST.out]; omega)⟩
                case measure => simp [intOf]; omega
              · have hkt : t.data.toList.take k = t.data.toList := List.take_of_length_le (by rw [HLEN.out]; omega)
                rw [hkt, HDV.out]
                clear hkt
                go_wp2
                go_ret2
                exact ⟨rfl, rfl⟩

end Go.Proofs.Qxb6600278aDoor
