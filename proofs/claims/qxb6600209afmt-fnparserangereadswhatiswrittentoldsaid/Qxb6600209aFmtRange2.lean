import Derived.Test.Qxb6600209aFmtRange
namespace Go.Proofs.Qxb6600209aFmt
open Go.RowKit Go.Extern.Stop Go.Stop Go.Extern

theorem answers_tape {F : Interp} {w w' : World} (h : F.answers w.tape) (e : w'.tape = w.tape) : F.answers w'.tape := by rw [e]; exact h

set_option maxRecDepth 100000 in
set_option maxHeartbeats 1000000 in
/-- not two fields -/
theorem range_count (F : Interp) (g c : Nat) (l : List UInt8) (w : World) (hF : F.answers w.tape) (hs : l.length ≤ 1048576) (hf : (Lib.fieldsU l).length ≠ 2) (hB : Bts w g l) (hg : g < w.heap.size) (hV : Vars w) :
    Calls Tryf.prog 14 #[.slice (some ⟨g, 0, none⟩) l.length c] w fun e w' => (∃ x, e = .returned (.tuple #[.int .i64 0, .int .i64 0, .iface 60 (.pointer (some x))])) ∧ Below w.heap.size w w' := by
  have hcv := conv_run g c l w hB
  have hfl := fields_any l w hs hV
  have HF := hide hfl
  have HB := hide hB
  clear hfl hB
  generalize (Lib.fieldsU l).length = k at hf HF
  have hk : ((k : Int) != 2) = true := by simp; omega
  clear hf
  go_enter Tryf.func14, Tryf.ntmps14
  go_wp2_with fail
  refine (unhide HF).mono ?_
  rintro e w1 ⟨A, rfl, hA, hcells, hb1⟩
  have HW1 := hide hb1
  have hlw1 := hb1.size
  obtain ⟨s1, s2, hop⟩ := ((HB.out.below hg hb1).below (w' := w1.alloc (.cells #[.iface 22 (.slice (some ⟨g, 0, none⟩) l.length c)] 20)) (by omega) ((Below.refl _ _).alloc (Nat.le_refl _) _)).op c
  have HOP := hide hop
  clear hcells hb1 hcv hop
  go_wp2_with fail
  refine (errorf_q F _ s1 s2 (.slice (some ⟨g, 0, none⟩) l.length c) _ _ ?_ ?_ ?_ ?_).mono ?_
  · exact answers_tape (w := w) hF (by exact HW1.out.tape)
  · intro w; kernel_rfl
  · go_simp
  · exact HOP.out
  rintro e w2 ⟨⟨x, rfl⟩, txt, rfl⟩
  go_wp2_with fail
  go_ret3
  exact ⟨⟨_, rfl⟩, ((HW1.out.alloc hlw1 _).alloc (by simp; omega) _).drew⟩

set_option maxRecDepth 100000 in
set_option maxHeartbeats 1000000 in
/-- two fields, the first is no int -/
theorem range_bad0 (F : Interp) (g c : Nat) (l f0 f1 : List UInt8) (w : World) (hF : F.answers w.tape) (hs : l.length ≤ 1048576) (hf : Lib.fieldsU l = [f0, f1]) (h0 : f0.length ≤ 1048576) (h1 : f1.length ≤ 1048576)
    (ha : ∀ v, Lib.atoiAll f0 ≠ .ok v) (hB : Bts w g l) (hg : g < w.heap.size) (hV : Vars w) :
    Calls Tryf.prog 14 #[.slice (some ⟨g, 0, none⟩) l.length c] w fun e w' => (∃ x, e = .returned (.tuple #[.int .i64 0, .int .i64 0, .iface 60 (.pointer (some x))])) ∧ Below w.heap.size w w' := by
  have hcv := conv_run g c l w hB
  have hfl := fields_any l w hs hV
  rw [hf] at hfl
  have HF := hide hfl
  have HB := hide hB
  have HV := hide hV
  have HA := hide (fun w hV => atoi_bad ⟨f0.toArray⟩ (by simpa [ByteArray.size] using h0) ha w hV)
  -- whatever the second call gives
  have HC : Hid (∀ w, Vars w → Calls Tryf.prog 19 #[.string ⟨f1.toArray⟩] w fun e w' => (∃ v y, e = .returned (.tuple #[.int .i64 v, y]) ∧ (y = .nilIface ∨ ∃ a, y = .iface 66 (.pointer (some a)))) ∧ Below w.heap.size w w') := fun w hV => by
    by_cases hok : ∃ v, Lib.atoiAll f1 = .ok v
    · obtain ⟨v, hv⟩ := hok
      exact (atoi_ok ⟨f1.toArray⟩ v (by simpa [ByteArray.size] using h1) hv w).mono fun e w' ⟨he, hb⟩ => ⟨⟨_, _, he, Or.inl rfl⟩, hb⟩
    · exact (atoi_bad ⟨f1.toArray⟩ (by simpa [ByteArray.size] using h1) (fun v hv => hok ⟨v, hv⟩) w hV).mono fun e w' ⟨⟨v, a, he⟩, hb⟩ => ⟨⟨_, _, he, Or.inr ⟨_, rfl⟩⟩, hb⟩
  clear hfl hB hf ha hV
  go_enter Tryf.func14, Tryf.ntmps14
  go_wp2_with fail
  refine (unhide HF).mono ?_
  rintro e w1 ⟨A, rfl, hA, hcells, hb1⟩
  have c0 := hcells 0 f0 rfl
  have c1 := hcells 1 f1 rfl
  have HW1 := hide hb1
  have hlt := cell_lt c0
  clear hcells hb1 hcv
  go_wp2_with fail
  refine ((unhide HA) _ ?_).mono ?_
  · exact HV.out.below HW1.out
  rintro e w2 ⟨⟨v0, a0, rfl⟩, hb2⟩
  have d1 := (hb2.cell (p := ⟨A, 1, none⟩) hlt).trans c1
  have HW2 : Hid (Below w.heap.size w w2) := HW1.out.trans (hb2.mono HW1.out.size)
  clear hb2 c0 c1
  go_wp2_with fail
  refine ((unhide HC) _ ?_).mono ?_
  · exact HV.out.below HW2.out
  rintro e w3 ⟨⟨v1, y1, rfl, hy⟩, hb3⟩
  have HW3 : Hid (Below w.heap.size w w3) := HW2.out.trans (hb3.mono HW2.out.size)
  have hlw3 := HW3.out.size
  obtain ⟨s1, s2, hop⟩ := ((HB.out.below hg HW3.out).below (w' := w3.alloc (.cells #[.iface 22 (.slice (some ⟨g, 0, none⟩) l.length c)] 20)) (by omega) ((Below.refl _ _).alloc (Nat.le_refl _) _)).op c
  have HOP := hide hop
  clear hb3 d1 hop
  rcases hy with rfl | ⟨a1, rfl⟩
  all_goals
    go_wp2_with fail
    refine (errorf_q F _ s1 s2 (.slice (some ⟨g, 0, none⟩) l.length c) _ _ ?_ ?_ ?_ ?_).mono ?_
    · exact answers_tape (w := w) hF (by exact HW3.out.tape)
    · intro w; kernel_rfl
    · go_simp
    · exact HOP.out
    rintro e w4 ⟨⟨x, rfl⟩, txt, rfl⟩
    go_wp2_with fail
    go_ret3
    exact ⟨⟨_, rfl⟩, ((HW3.out.alloc hlw3 _).alloc (by simp; omega) _).drew⟩

set_option maxRecDepth 100000 in
set_option maxHeartbeats 1000000 in
/-- two fields, the second is no int -/
theorem range_bad1 (F : Interp) (g c : Nat) (l f0 f1 : List UInt8) (a : Int) (w : World) (hF : F.answers w.tape) (hs : l.length ≤ 1048576) (hf : Lib.fieldsU l = [f0, f1]) (h0 : f0.length ≤ 1048576) (h1 : f1.length ≤ 1048576)
    (ha : Lib.atoiAll f0 = .ok a) (hb : ∀ v, Lib.atoiAll f1 ≠ .ok v) (hB : Bts w g l) (hg : g < w.heap.size) (hV : Vars w) :
    Calls Tryf.prog 14 #[.slice (some ⟨g, 0, none⟩) l.length c] w fun e w' => (∃ x, e = .returned (.tuple #[.int .i64 0, .int .i64 0, .iface 60 (.pointer (some x))])) ∧ Below w.heap.size w w' := by
  have hcv := conv_run g c l w hB
  have hfl := fields_any l w hs hV
  rw [hf] at hfl
  have HF := hide hfl
  have HB := hide hB
  have HV := hide hV
  have HA := hide (fun w => atoi_ok ⟨f0.toArray⟩ a (by simpa [ByteArray.size] using h0) ha w)
  have HC := hide (fun w hV => atoi_bad ⟨f1.toArray⟩ (by simpa [ByteArray.size] using h1) hb w hV)
  clear hfl hB hf ha hb hV
  go_enter Tryf.func14, Tryf.ntmps14
  go_wp2_with fail
  refine (unhide HF).mono ?_
  rintro e w1 ⟨A, rfl, hA, hcells, hb1⟩
  have c0 := hcells 0 f0 rfl
  have c1 := hcells 1 f1 rfl
  have HW1 := hide hb1
  have hlt := cell_lt c0
  clear hcells hb1 hcv
  go_wp2_with fail
  refine ((unhide HA) _).mono ?_
  rintro e w2 ⟨rfl, hb2⟩
  have d1 := (hb2.cell (p := ⟨A, 1, none⟩) hlt).trans c1
  have HW2 : Hid (Below w.heap.size w w2) := HW1.out.trans (hb2.mono HW1.out.size)
  clear hb2 c0 c1
  go_wp2_with fail
  refine ((unhide HC) _ ?_).mono ?_
  · exact HV.out.below HW2.out
  rintro e w3 ⟨⟨v1, y1, rfl⟩, hb3⟩
  have HW3 : Hid (Below w.heap.size w w3) := HW2.out.trans (hb3.mono HW2.out.size)
  have hlw3 := HW3.out.size
  obtain ⟨s1, s2, hop⟩ := ((HB.out.below hg HW3.out).below (w' := w3.alloc (.cells #[.iface 22 (.slice (some ⟨g, 0, none⟩) l.length c)] 20)) (by omega) ((Below.refl _ _).alloc (Nat.le_refl _) _)).op c
  have HOP := hide hop
  clear hb3 d1 hop
  go_wp2_with fail
  refine (errorf_q F _ s1 s2 (.slice (some ⟨g, 0, none⟩) l.length c) _ _ ?_ ?_ ?_ ?_).mono ?_
  · exact answers_tape (w := w) hF (by exact HW3.out.tape)
  · intro w; kernel_rfl
  · go_simp
  · exact HOP.out
  rintro e w4 ⟨⟨x, rfl⟩, txt, rfl⟩
  go_wp2_with fail
  go_ret3
  exact ⟨⟨_, rfl⟩, ((HW3.out.alloc hlw3 _).alloc (by simp; omega) _).drew⟩
end Go.Proofs.Qxb6600209aFmt
