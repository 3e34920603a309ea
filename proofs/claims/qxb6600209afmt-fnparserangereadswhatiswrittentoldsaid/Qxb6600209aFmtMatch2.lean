import Derived.Test.Qxb6600209aFmtMatch
set_option linter.unusedVariables false
namespace Go.Proofs.Qxb6600209aFmt
open Go.RowKit Go.Extern.Stop Go.Stop Go.Extern

theorem zz_err (p : Option Addr) (n c : Nat) (w : World) (Q : World → Prop) (h : Calls Tryf.prog 14 #[.slice p n c] w fun e w' => (∃ x, e = .returned (.tuple #[.int .i64 0, .int .i64 0, .iface 60 (.pointer (some x))])) ∧ Q w') :
    Calls Tryf.prog 8 #[.slice p n c] w fun e w' => (∃ x, e = .returned (.tuple #[.int .i64 0, .int .i64 0, .iface 60 (.pointer (some x))])) ∧ Q w' := by
  have H := hide h
  clear h
  go_enter Tryf.func8, Tryf.ntmps8
  go_wp2_with fail
  refine (unhide H).mono ?_
  rintro e w1 ⟨⟨x, rfl⟩, hq⟩
  go_wp2_with fail
  go_ret3
  exact ⟨⟨_, rfl⟩, hq⟩

set_option maxRecDepth 100000 in
set_option maxHeartbeats 400000 in
theorem match_big (p : Option Addr) (n c : Nat) (w : World) (hn : n ≤ 9223372036854775807) (h : 131072 < n) :
    Calls Tryf.prog 3 #[.slice p n c] w fun e w' => e = .returned (.bool true) ∧ w' = w := by
  have hb := bytes6 p n c w hn
  by_cases h0 : n ≤ 1048576
  · rw [decide_eq_true h0] at hb
    have h1 : (131072 : Int) < (n : Int) := by omega
    clear h h0
    go_enter Tryf.func3, Tryf.ntmps3
    go_wp2_with (go_at_call 6; refine hb.mono ?_; rintro e w' ⟨rfl, rfl⟩)
    all_goals (go_ret; exact ⟨rfl, rfl⟩)
  · rw [decide_eq_false h0] at hb
    go_enter Tryf.func3, Tryf.ntmps3
    go_wp2_with (go_at_call 6; refine hb.mono ?_; rintro e w' ⟨rfl, rfl⟩)
    go_ret
    exact ⟨rfl, rfl⟩

set_option maxRecDepth 100000 in
set_option maxHeartbeats 400000 in
theorem match_nil (F : Interp) (w : World) (hF : F.answers w.tape) (hV : Vars w) :
    Calls Tryf.prog 3 #[.slice none 0 0] w fun e w' => e = .returned (.bool true) ∧ Below w.heap.size w w' := by
  have hb := bytes6 none 0 0 w (by omega)
  rw [decide_eq_true (by omega)] at hb
  have HBY := hide hb
  have HZ := hide (zz_err none 0 0 w _ (range_nil F w hF hV))
  clear hb
  go_enter Tryf.func3, Tryf.ntmps3
  go_wp2_with (first | (go_at_call 6; refine (unhide HBY).mono ?_; rintro e w' ⟨rfl, hw⟩; subst w') | (go_at_call 7; refine (clone_nil _).mono ?_; rintro e w' ⟨rfl, hw⟩; subst w') | fail)
  refine (unhide HZ).mono ?_
  rintro e w1 ⟨⟨x, rfl⟩, hb1⟩
  have HW1 := hide hb1
  clear hb1
  go_wp2_with (first | (go_at_call 9; refine (tokens_nil _).mono ?_; rintro e w' ⟨rfl, hw⟩; subst w') | fail)
  go_ret
  exact ⟨rfl, HW1.out⟩

set_option maxRecDepth 100000 in
set_option maxHeartbeats 1000000 in
theorem match_count (F : Interp) (bk off n c : Nat) (zs : List Int) (l : List UInt8) (w : World) (hln : l.length = n) (hn : n ≤ 131072) (hl : ∀ i, i < l.length → .int .u8 ((l.map fun b => (b.toNat : Int)).getD i 0) = Value.int .u8 (zs.getD i 0)) (hF : F.answers w.tape) (hV : Vars w) (hbk : 1 ≤ n → bk < w.heap.size)
    (hc : ∀ j, j < n → w.cell? ⟨bk, off + j, none⟩ = some (.int .u8 (zs.getD j 0))) (hf : (Lib.fieldsU l).length ≠ 2) :
    Calls Tryf.prog 3 #[.slice (some ⟨bk, off, none⟩) n c] w fun e w' => e = .returned (.bool true) ∧ Below w.heap.size w w' := by
  have hby := bytes6 (some ⟨bk, off, none⟩) n c w (by omega)
  rw [decide_eq_true (by omega)] at hby
  have hcl := clone_any bk off n c zs w (by omega) hbk hc
  have HBY := hide hby
  have HCL := hide hcl
  have HL : Hid (∀ i, i < l.length → some (.int .u8 ((l.map fun b => (b.toNat : Int)).getD i 0)) = some (Value.int .u8 (zs.getD i 0))) := fun i hi => congrArg some (hl i hi)
  have HV := hide hV
  clear hby hcl hl hc
  have d1 : ¬ ((131072 : Int) < (n : Int)) := by omega
  subst hln
  go_enter Tryf.func3, Tryf.ntmps3
  go_wp2_with (first | (go_at_call 6; refine (unhide HBY).mono ?_; rintro e w' ⟨rfl, hw⟩; subst w') | fail)
  refine (unhide HCL).mono ?_
  rintro e w1 ⟨rfl, hr1, hB1, hz1⟩
  have HBT1 : Hid (Bts w1 w.heap.size l) := fun i hi => by rw [HL.out i hi]; exact hr1.cell (by omega)
  have HW1 := hide hB1
  have hgl1 : w.heap.size < w1.heap.size := by omega
  clear hr1 hB1 hz1
  go_wp2_with fail
  refine (zz_err _ _ _ _ _ (range_count F w.heap.size l.length l w1 (answers_tape hF HW1.out.tape) (by omega) hf HBT1.out hgl1 (HV.out.below HW1.out))).mono ?_
  rintro e w2 ⟨⟨x, rfl⟩, hb2⟩
  have HBT2 := hide (HBT1.out.below hgl1 hb2)
  have HW2 : Hid (Below w.heap.size w w2) := HW1.out.trans (hb2.mono (by omega))
  clear hb2
  go_wp2_with fail
  refine (tokens_any w.heap.size l.length l w2 (by omega) HBT2.out).mono ?_
  rintro e w3 ⟨⟨C, S0, E0, S1, E1, rfl, hC, hlen, _⟩, hw⟩
  subst w3
  have k2 : ((C : Int) != 2) = true := by simp; omega
  clear hlen hf
  go_wp2_with fail
  go_ret
  exact ⟨rfl, HW2.out⟩

set_option maxRecDepth 100000 in
set_option maxHeartbeats 1000000 in
theorem match_ok (F : Interp) (bk off n c : Nat) (zs : List Int) (l : List UInt8) (w : World) (hln : l.length = n) (hn : n ≤ 131072) (hl : ∀ i, i < l.length → .int .u8 ((l.map fun b => (b.toNat : Int)).getD i 0) = Value.int .u8 (zs.getD i 0)) (hF : F.answers w.tape) (hV : Vars w) (hbk : 1 ≤ n → bk < w.heap.size)
    (hc : ∀ j, j < n → w.cell? ⟨bk, off + j, none⟩ = some (.int .u8 (zs.getD j 0))) (f0 f1 : List UInt8) (hf : Lib.fieldsU l = [f0, f1]) (h0 : f0.length ≤ 1048576) (h1 : f1.length ≤ 1048576) (a b : Int) (ha : Lib.atoiAll f0 = .ok a) (hb : Lib.atoiAll f1 = .ok b) :
    Calls Tryf.prog 3 #[.slice (some ⟨bk, off, none⟩) n c] w fun e w' => e = .returned (.bool true) ∧ Below w.heap.size w w' := by
  have hby := bytes6 (some ⟨bk, off, none⟩) n c w (by omega)
  rw [decide_eq_true (by omega)] at hby
  have hcl := clone_any bk off n c zs w (by omega) hbk hc
  have HBY := hide hby
  have HCL := hide hcl
  have HL : Hid (∀ i, i < l.length → some (.int .u8 ((l.map fun b => (b.toNat : Int)).getD i 0)) = some (Value.int .u8 (zs.getD i 0))) := fun i hi => congrArg some (hl i hi)
  have HV := hide hV
  clear hby hcl hl hc
  have d1 : ¬ ((131072 : Int) < (n : Int)) := by omega
  subst hln
  go_enter Tryf.func3, Tryf.ntmps3
  go_wp2_with (first | (go_at_call 6; refine (unhide HBY).mono ?_; rintro e w' ⟨rfl, hw⟩; subst w') | fail)
  refine (unhide HCL).mono ?_
  rintro e w1 ⟨rfl, hr1, hB1, hz1⟩
  have HBT1 : Hid (Bts w1 w.heap.size l) := fun i hi => by rw [HL.out i hi]; exact hr1.cell (by omega)
  have HW1 := hide hB1
  have hgl1 : w.heap.size < w1.heap.size := by omega
  clear hr1 hB1 hz1
  go_wp2_with fail
  refine (zz_of _ _ _ _ _ _ _ _ (range_ok w.heap.size l.length l f0 f1 a b w1 (by omega) hf h0 h1 ha hb HBT1.out (HV.out.below HW1.out))).mono ?_
  rintro e w2 ⟨rfl, hb2⟩
  have HBT2 := hide (HBT1.out.below hgl1 hb2)
  have HW2 : Hid (Below w.heap.size w w2) := HW1.out.trans (hb2.mono (by omega))
  clear hb2
  go_wp2_with fail
  refine (tokens_any w.heap.size l.length l w2 (by omega) HBT2.out).mono ?_
  rintro e w3 ⟨⟨C, S0, E0, S1, E1, rfl, hC, hlen, h2⟩, hw⟩
  subst w3
  rw [hf] at hlen
  obtain rfl : 2 = C := hlen
  obtain ⟨hf', g1, g2, g3, g4⟩ := h2 rfl
  rw [hf] at hf'
  injection hf' with ef0 ef1
  injection ef1 with ef1
  have EF0 := hide ef0
  have EF1 := hide ef1
  clear ef0 ef1 hf h2
  go_wp2_with fail
  refine (read_any w.heap.size l.length S0 E0 l w2 (by omega) g2 HBT2.out).mono ?_
  rintro e w4 ⟨⟨v0, ok0, rfl, q1, q2⟩, hw⟩
  subst w4
  rw [← EF0.out] at q1 q2
  have Q1 := hide q1
  have Q2 := hide q2
  clear q1 q2
  go_wp2_with fail
  refine (read_any w.heap.size l.length S1 E1 l w2 (by omega) g4 HBT2.out).mono ?_
  rintro e w5 ⟨⟨v1, ok1, rfl, q3, q4⟩, hw⟩
  subst w5
  rw [← EF1.out] at q3 q4
  cases ok0 with
  | false => exact absurd ha ((Q2.out rfl).2 a)
  | true =>
    cases ok1 with
    | false => exact absurd hb ((q4 rfl).2 b)
    | true =>
      have e0 := Q1.out rfl
      rw [ha] at e0
      injection e0 with e0
      have e1 := q3 rfl
      rw [hb] at e1
      injection e1 with e1
      subst e0 e1
      clear q3 q4 Q1 Q2 ha hb
      go_wp2_with fail
      go_ret
      exact ⟨rfl, HW2.out⟩

set_option maxRecDepth 100000 in
set_option maxHeartbeats 1000000 in
theorem match_bad0 (F : Interp) (bk off n c : Nat) (zs : List Int) (l : List UInt8) (w : World) (hln : l.length = n) (hn : n ≤ 131072) (hl : ∀ i, i < l.length → .int .u8 ((l.map fun b => (b.toNat : Int)).getD i 0) = Value.int .u8 (zs.getD i 0)) (hF : F.answers w.tape) (hV : Vars w) (hbk : 1 ≤ n → bk < w.heap.size)
    (hc : ∀ j, j < n → w.cell? ⟨bk, off + j, none⟩ = some (.int .u8 (zs.getD j 0))) (f0 f1 : List UInt8) (hf : Lib.fieldsU l = [f0, f1]) (h0 : f0.length ≤ 1048576) (h1 : f1.length ≤ 1048576) (ha : ∀ v, Lib.atoiAll f0 ≠ .ok v) :
    Calls Tryf.prog 3 #[.slice (some ⟨bk, off, none⟩) n c] w fun e w' => e = .returned (.bool true) ∧ Below w.heap.size w w' := by
  have hby := bytes6 (some ⟨bk, off, none⟩) n c w (by omega)
  rw [decide_eq_true (by omega)] at hby
  have hcl := clone_any bk off n c zs w (by omega) hbk hc
  have HBY := hide hby
  have HCL := hide hcl
  have HL : Hid (∀ i, i < l.length → some (.int .u8 ((l.map fun b => (b.toNat : Int)).getD i 0)) = some (Value.int .u8 (zs.getD i 0))) := fun i hi => congrArg some (hl i hi)
  have HV := hide hV
  clear hby hcl hl hc
  have d1 : ¬ ((131072 : Int) < (n : Int)) := by omega
  subst hln
  go_enter Tryf.func3, Tryf.ntmps3
  go_wp2_with (first | (go_at_call 6; refine (unhide HBY).mono ?_; rintro e w' ⟨rfl, hw⟩; subst w') | fail)
  refine (unhide HCL).mono ?_
  rintro e w1 ⟨rfl, hr1, hB1, hz1⟩
  have HBT1 : Hid (Bts w1 w.heap.size l) := fun i hi => by rw [HL.out i hi]; exact hr1.cell (by omega)
  have HW1 := hide hB1
  have hgl1 : w.heap.size < w1.heap.size := by omega
  clear hr1 hB1 hz1
  go_wp2_with fail
  refine (zz_err _ _ _ _ _ (range_bad0 F w.heap.size l.length l f0 f1 w1 (answers_tape hF HW1.out.tape) (by omega) hf h0 h1 ha HBT1.out hgl1 (HV.out.below HW1.out))).mono ?_
  rintro e w2 ⟨⟨x, rfl⟩, hb2⟩
  have HBT2 := hide (HBT1.out.below hgl1 hb2)
  have HW2 : Hid (Below w.heap.size w w2) := HW1.out.trans (hb2.mono (by omega))
  clear hb2
  go_wp2_with fail
  refine (tokens_any w.heap.size l.length l w2 (by omega) HBT2.out).mono ?_
  rintro e w3 ⟨⟨C, S0, E0, S1, E1, rfl, hC, hlen, h2⟩, hw⟩
  subst w3
  rw [hf] at hlen
  obtain rfl : 2 = C := hlen
  obtain ⟨hf', g1, g2, g3, g4⟩ := h2 rfl
  rw [hf] at hf'
  injection hf' with ef0 ef1
  injection ef1 with ef1
  have EF0 := hide ef0
  have EF1 := hide ef1
  clear ef0 ef1 hf h2
  go_wp2_with fail
  refine (read_any w.heap.size l.length S0 E0 l w2 (by omega) g2 HBT2.out).mono ?_
  rintro e w4 ⟨⟨v0, ok0, rfl, q1, q2⟩, hw⟩
  subst w4
  rw [← EF0.out] at q1 q2
  have Q1 := hide q1
  have Q2 := hide q2
  clear q1 q2
  go_wp2_with fail
  refine (read_any w.heap.size l.length S1 E1 l w2 (by omega) g4 HBT2.out).mono ?_
  rintro e w5 ⟨⟨v1, ok1, rfl, q3, q4⟩, hw⟩
  subst w5
  rw [← EF1.out] at q3 q4
  cases ok0 with
  | true => exact absurd (Q1.out rfl) (ha v0)
  | false =>
    clear q3 q4 Q1 Q2 ha
    go_wp2_with fail
    all_goals
      go_ret
      exact ⟨rfl, HW2.out⟩

set_option maxRecDepth 100000 in
set_option maxHeartbeats 1000000 in
theorem match_bad1 (F : Interp) (bk off n c : Nat) (zs : List Int) (l : List UInt8) (w : World) (hln : l.length = n) (hn : n ≤ 131072) (hl : ∀ i, i < l.length → .int .u8 ((l.map fun b => (b.toNat : Int)).getD i 0) = Value.int .u8 (zs.getD i 0)) (hF : F.answers w.tape) (hV : Vars w) (hbk : 1 ≤ n → bk < w.heap.size)
    (hc : ∀ j, j < n → w.cell? ⟨bk, off + j, none⟩ = some (.int .u8 (zs.getD j 0))) (f0 f1 : List UInt8) (hf : Lib.fieldsU l = [f0, f1]) (h0 : f0.length ≤ 1048576) (h1 : f1.length ≤ 1048576) (a : Int) (ha : Lib.atoiAll f0 = .ok a) (hb : ∀ v, Lib.atoiAll f1 ≠ .ok v) :
    Calls Tryf.prog 3 #[.slice (some ⟨bk, off, none⟩) n c] w fun e w' => e = .returned (.bool true) ∧ Below w.heap.size w w' := by
  have hby := bytes6 (some ⟨bk, off, none⟩) n c w (by omega)
  rw [decide_eq_true (by omega)] at hby
  have hcl := clone_any bk off n c zs w (by omega) hbk hc
  have HBY := hide hby
  have HCL := hide hcl
  have HL : Hid (∀ i, i < l.length → some (.int .u8 ((l.map fun b => (b.toNat : Int)).getD i 0)) = some (Value.int .u8 (zs.getD i 0))) := fun i hi => congrArg some (hl i hi)
  have HV := hide hV
  clear hby hcl hl hc
  have d1 : ¬ ((131072 : Int) < (n : Int)) := by omega
  subst hln
  go_enter Tryf.func3, Tryf.ntmps3
  go_wp2_with (first | (go_at_call 6; refine (unhide HBY).mono ?_; rintro e w' ⟨rfl, hw⟩; subst w') | fail)
  refine (unhide HCL).mono ?_
  rintro e w1 ⟨rfl, hr1, hB1, hz1⟩
  have HBT1 : Hid (Bts w1 w.heap.size l) := fun i hi => by rw [HL.out i hi]; exact hr1.cell (by omega)
  have HW1 := hide hB1
  have hgl1 : w.heap.size < w1.heap.size := by omega
  clear hr1 hB1 hz1
  go_wp2_with fail
  refine (zz_err _ _ _ _ _ (range_bad1 F w.heap.size l.length l f0 f1 a w1 (answers_tape hF HW1.out.tape) (by omega) hf h0 h1 ha hb HBT1.out hgl1 (HV.out.below HW1.out))).mono ?_
  rintro e w2 ⟨⟨x, rfl⟩, hb2⟩
  have HBT2 := hide (HBT1.out.below hgl1 hb2)
  have HW2 : Hid (Below w.heap.size w w2) := HW1.out.trans (hb2.mono (by omega))
  clear hb2
  go_wp2_with fail
  refine (tokens_any w.heap.size l.length l w2 (by omega) HBT2.out).mono ?_
  rintro e w3 ⟨⟨C, S0, E0, S1, E1, rfl, hC, hlen, h2⟩, hw⟩
  subst w3
  rw [hf] at hlen
  obtain rfl : 2 = C := hlen
  obtain ⟨hf', g1, g2, g3, g4⟩ := h2 rfl
  rw [hf] at hf'
  injection hf' with ef0 ef1
  injection ef1 with ef1
  have EF0 := hide ef0
  have EF1 := hide ef1
  clear ef0 ef1 hf h2
  go_wp2_with fail
  refine (read_any w.heap.size l.length S0 E0 l w2 (by omega) g2 HBT2.out).mono ?_
  rintro e w4 ⟨⟨v0, ok0, rfl, q1, q2⟩, hw⟩
  subst w4
  rw [← EF0.out] at q1 q2
  have Q1 := hide q1
  have Q2 := hide q2
  clear q1 q2
  go_wp2_with fail
  refine (read_any w.heap.size l.length S1 E1 l w2 (by omega) g4 HBT2.out).mono ?_
  rintro e w5 ⟨⟨v1, ok1, rfl, q3, q4⟩, hw⟩
  subst w5
  rw [← EF1.out] at q3 q4
  cases ok0 with
  | false => exact absurd ha ((Q2.out rfl).2 a)
  | true =>
    cases ok1 with
    | true => exact absurd (q3 rfl) (hb v1)
    | false =>
      clear q3 q4 Q1 Q2 ha hb
      go_wp2_with fail
      all_goals
        go_ret
        exact ⟨rfl, HW2.out⟩

end Go.Proofs.Qxb6600209aFmt
