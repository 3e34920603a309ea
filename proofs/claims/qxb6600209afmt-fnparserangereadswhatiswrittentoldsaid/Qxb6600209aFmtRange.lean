import Derived.Test.Qxb6600209aFmtErrf
import Derived.Test.Qxb6600209aFmtShelf
import Derived.Lib.SpaceUEq
import Derived.Lib.AtoiErrMem
namespace Go.Proofs.Qxb6600209aFmt
open Go.RowKit Go.Extern.Stop Go.Stop Go.Extern

/-- what the walk wants of the package-level variables -/
structure Vars (w : World) : Prop where
  tab : Lib.TabIs Tryf.prog w "strings.asciiSpace" .u8 Lib.asciiSpaceTab
  white : Lib.WhiteTab 1 w
  synt : ∃ te pe, w.cell? ⟨2, 0, none⟩ = some (.iface te pe)
  rang : ∃ te pe, w.cell? ⟨3, 0, none⟩ = some (.iface te pe)

theorem cell_lt {w : World} {a : Addr} {v : Value} (hc : w.cell? a = some v) : a.block < w.heap.size := by
  rcases Nat.lt_or_ge a.block w.heap.size with h' | h'
  · exact h'
  · simp [World.cell?, Array.getElem?_eq_none h'] at hc

theorem Tryf.gAscii : Tryf.prog.globalNamed "strings.asciiSpace" = some 0 := by kernel_rfl

theorem Vars.below {w w' : World} (h : Vars w) (hb : Below w.heap.size w w') : Vars w' := by
  obtain ⟨h1, h2, ⟨t3, p3, h3⟩, ⟨t4, p4, h4⟩⟩ := h
  refine ⟨?_, WhiteTab_below h2 hb, ⟨t3, p3, (hb.cell (cell_lt h3)).trans h3⟩, ⟨t4, p4, (hb.cell (cell_lt h4)).trans h4⟩⟩
  have h0 : (0 : Nat) < w.heap.size := Nat.lt_of_le_of_lt (Nat.zero_le _) (cell_lt h3)
  unfold Lib.TabIs at h1 ⊢
  rw [← h1]
  simp only [World.var?, Tryf.gAscii, Option.bind_some, hb.block 0 h0]

theorem atoi_ok (s : ByteArray) (v : Int) (hmax : s.size ≤ 1048576) (h : Lib.atoiAll s.data.toList = .ok v) (w : World) :
    Calls Tryf.prog 19 #[.string s] w fun e w' => e = .returned (.tuple #[.int .i64 v, .nilIface]) ∧ Below w.heap.size w w' :=
  (Any.strconv_Atoi_ok Tryf.laysC172 s (by omega) v h w).mono fun e w' ⟨he, hw⟩ => ⟨he, by
    rcases hw with rfl | ⟨t, rfl⟩
    · exact Below.refl _ _
    · exact Lib.bytesWorld_below _ _ _⟩

theorem atoi_bad (s : ByteArray) (hmax : s.size ≤ 1048576) (h : ∀ v, Lib.atoiAll s.data.toList ≠ .ok v) (w : World) (hV : Vars w) :
    Calls Tryf.prog 19 #[.string s] w fun e w' => (∃ v a, e = .returned (.tuple #[.int .i64 v, .iface 66 (.pointer (some a))])) ∧ Below w.heap.size w w' := by
  obtain ⟨_, _, ⟨t3, p3, h3⟩, ⟨t4, p4, h4⟩⟩ := hV
  rcases hr : Lib.atoiAll s.data.toList with v | _ | _
  · exact absurd hr (h v)
  · exact (Any.strconv_Atoi_syntax Tryf.laysC172 s (by omega) hr _ w h3 (Or.inr ⟨_, _, rfl⟩)).mono fun e w' ⟨N, he, _, _, hb⟩ => ⟨⟨_, _, he⟩, hb⟩
  · exact (Any.strconv_Atoi_range Tryf.laysC172 s (by omega) hr _ w h4 (Or.inr ⟨_, _, rfl⟩)).mono fun e w' ⟨N, he, _, _, hb⟩ => ⟨⟨_, _, he⟩, hb⟩

theorem fields_any (l : List UInt8) (w : World) (hs : l.length ≤ 1048576) (hV : Vars w) :
    Calls Tryf.prog 17 #[.string ⟨l.toArray⟩] w fun e w' => ∃ A, e = .returned (.slice (some ⟨A, 0, none⟩) (Lib.fieldsU l).length (Lib.fieldsU l).length) ∧ w.heap.size ≤ A ∧
      (∀ j x, (Lib.fieldsU l)[j]? = some x → w'.cell? ⟨A, j, none⟩ = some (.string ⟨x.toArray⟩)) ∧ Below w.heap.size w w' := by
  have h := Any.strings_Fields_any Tryf.lays157 (by kernel_rfl) (by kernel_rfl) (by kernel_rfl) ⟨l.toArray⟩ w (by simp [ByteArray.size]; omega) hV.tab hV.white
  refine h.mono fun e w' ⟨A, he, hA, hown, hb⟩ => ?_
  simp only [← Lib.fieldsU_eq] at he hown
  refine ⟨A, he, hA, fun j x hj => ?_, hb⟩
  have hlt : j < (Lib.fieldsU l).length := by
    rcases Nat.lt_or_ge j (Lib.fieldsU l).length with h | h
    · exact h
    · rw [List.getElem?_eq_none h] at hj; cases hj
  rw [hown.cellAt j (by omega), List.getElem?_map, hj]
  rfl

/-- the bytes l lie at ⟨g, 0⟩ -/
def Bts (w : World) (g : Nat) (l : List UInt8) : Prop := ∀ i, i < l.length → w.cell? ⟨g, i, none⟩ = some (.int .u8 ((l.map fun b => (b.toNat : Int)).getD i 0))

theorem strOf (l : List UInt8) : strOfNums (l.map fun b => (b.toNat : Int)) = ⟨l.toArray⟩ := by
  unfold strOfNums
  rw [List.map_map]
  congr 2
  conv => rhs; rw [← List.map_id l]
  apply List.map_congr_left
  intro b _
  simp

theorem conv_run (g c : Nat) (l : List UInt8) (w : World) (h : Bts w g l) : (convert 22 9 (.slice (some ⟨g, 0, none⟩) l.length c)).run Tryf.prog w = .ok (.string ⟨l.toArray⟩) w := by
  have := run_convert_bytes_arg (P := Tryf.prog) w 22 5 Tryf.underlying22 Tryf.underlying5 g 0 l.length c (l.map fun b => (b.toNat : Int)) (by simp) (fun i hi => by rw [Nat.zero_add]; exact h i hi) 9 Tryf.underlying9
  rw [strOf] at this
  exact this

theorem Bts.below {w w' : World} {g : Nat} {l : List UInt8} (h : Bts w g l) (hg : g < w.heap.size) (hb : Below w.heap.size w w') : Bts w' g l :=
  fun i hi => (hb.cell (p := ⟨g, i, none⟩) hg).trans (h i hi)

theorem Bts.op {w : World} {g : Nat} {l : List UInt8} (h : Bts w g l) (c : Nat) : ∃ s1 s2, ∀ name, (FmtStop.operand name true 113 false (.iface 22 (.slice (some ⟨g, 0, none⟩) l.length c))).run Tryf.prog w = .ok (s1, s2) w := by
  have := Tryf.opBytes_113w ⟨g, 0, none⟩ c (l.map fun b => (b.toNat : Int)) w (fun j v hj => by
    have hlt : j < l.length := by
      rcases Nat.lt_or_ge j l.length with h | h
      · exact h
      · rw [List.getElem?_eq_none (by simpa using h)] at hj; cases hj
    have := h j hlt
    have e : (⟨g, 0, none⟩ : Addr).add j = ⟨g, j, none⟩ := by unfold Addr.add; split <;> simp_all
    rw [e, this]
    simp [List.getElem?_eq_getElem hlt] at hj
    subst hj
    simp [List.getElem?_eq_getElem hlt])
  simpa using this

set_option maxRecDepth 100000 in
set_option maxHeartbeats 1000000 in
theorem range_ok (g c : Nat) (l f0 f1 : List UInt8) (a b : Int) (w : World) (hs : l.length ≤ 1048576) (hf : Lib.fieldsU l = [f0, f1]) (h0 : f0.length ≤ 1048576) (h1 : f1.length ≤ 1048576)
    (ha : Lib.atoiAll f0 = .ok a) (hb : Lib.atoiAll f1 = .ok b) (hB : Bts w g l) (hV : Vars w) :
    Calls Tryf.prog 14 #[.slice (some ⟨g, 0, none⟩) l.length c] w fun e w' => e = .returned (.tuple #[.int .i64 a, .int .i64 b, .nilIface]) ∧ Below w.heap.size w w' := by
  have hcv := conv_run g c l w hB
  have hfl := fields_any l w hs hV
  rw [hf] at hfl
  have HF := hide hfl
  have HA := hide (fun w => atoi_ok ⟨f0.toArray⟩ a (by simpa [ByteArray.size] using h0) ha w)
  have HB := hide (fun w => atoi_ok ⟨f1.toArray⟩ b (by simpa [ByteArray.size] using h1) hb w)
  clear hfl hB hf ha hb
  go_enter Tryf.func14, Tryf.ntmps14
  go_wp2_with fail
  refine (unhide HF).mono ?_
  rintro e w1 ⟨A, rfl, hA, hcells, hb1⟩
  have c0 := hcells 0 f0 rfl
  have c1 := hcells 1 f1 rfl
  have HW1 := hide hb1
  have hlt := cell_lt c0
  clear hcells hb1 hcv
  go_wp2_with fail
  refine ((unhide HA) _).mono ?_
  rintro e w2 ⟨rfl, hb2⟩
  have d1 := (hb2.cell (p := ⟨A, 1, none⟩) hlt).trans c1
  have HW2 : Hid (Below w.heap.size w w2) := HW1.out.trans (hb2.mono HW1.out.size)
  clear hb2 c0 c1
  go_wp2_with fail
  refine ((unhide HB) _).mono ?_
  rintro e w3 ⟨rfl, hb3⟩
  have HW3 : Hid (Below w.heap.size w w3) := HW2.out.trans (hb3.mono HW2.out.size)
  clear hb3 d1
  go_wp2_with fail
  go_ret3
  exact ⟨rfl, HW3.out⟩
end Go.Proofs.Qxb6600209aFmt
