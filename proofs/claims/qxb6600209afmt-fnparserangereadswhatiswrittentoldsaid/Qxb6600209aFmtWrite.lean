import Derived.Test.Qxb6600209aFmtMatch
import Derived.Deep.DeepAppendRoom
import Derived.Maps.AppendAt
import Derived.OwnWalk
import Derived.Below
namespace Go.Proofs.Qxb6600209aFmt
open Go.RowKit Go.Extern.Stop Go.Stop Go.Extern
set_option linter.unusedVariables false

def bv (b : UInt8) : Value := .int .u8 (b.toNat : Int)

/-- the text as far as it is written: a row of 96 cells at block g -/
def Out (w : World) (g : Nat) (l : List UInt8) : Prop := w.ownsRow g 5 1 (.slice (some ⟨g, 0, none⟩) l.length 96) l.length (l.map bv)

/-- the law's white space, by number -/
def spaceOf (k : Nat) : List UInt8 :=
  if k = 0 then [32] else if k ≤ 5 then [UInt8.ofNat (8 + k)] else if k = 6 then [194, 133] else if k = 7 then [194, 160] else if k = 8 then [225, 154, 128]
  else if k ≤ 19 then [226, 128, UInt8.ofNat (128 + (k - 9))] else if k = 20 then [226, 128, 168] else if k = 21 then [226, 128, 169] else if k = 22 then [226, 128, 175] else if k = 23 then [226, 129, 159] else [227, 128, 128]

theorem one_cell (l : List UInt8) : ∀ u ∈ l.map bv, u.oneCell' = true := by
  intro u hu
  obtain ⟨b, _, rfl⟩ := List.mem_map.1 hu
  rfl

theorem cells_new (w : World) (l : List UInt8) (vs : Array Value) (t : TypeId) (h : vs.toList = l.map bv) : ∀ j u, (l.map bv)[j]? = some u → (w.alloc (.cells vs t)).cell? ((⟨w.heap.size, 0, none⟩ : Addr).add j) = some u := by
  intro j u hj
  have hadd : (⟨w.heap.size, 0, none⟩ : Addr).add j = ⟨w.heap.size, j, none⟩ := by unfold Addr.add; split <;> simp_all
  rw [hadd, cell_of_row _ w.heap.size j vs t (0, 0) (heap_alloc_new w _)]
  rw [← h] at hj
  simpa using hj

theorem Out.lt {w : World} {g : Nat} {l : List UInt8} (h : Out w g l) : g < w.heap.size := (World.ownsRow.lt h g rfl).2

theorem Out.below {w w1 : World} {g : Nat} {o : Obj} (hg : g < w.heap.size) (h : (w.alloc o).grownBy w1 (some g)) : Below g w w1 :=
  ((Below.refl g w).alloc (by omega) o).grown h (by simp; omega) (fun k hk => by cases hk; omega)

theorem Out.app {w1 : World} {g : Nat} {l m : List UInt8} {n k : Nat} {vs : List Value} (hn : n = l.length + m.length) (hvs : vs = l.map bv ++ m.map bv) (h : w1.ownsRow g 5 1 (.slice (some ⟨g, 0, none⟩) n 96) n vs) : Out w1 g (l ++ m) := by
  unfold Out
  rw [List.length_append, List.map_append, ← hn, ← hvs]
  exact h

set_option maxRecDepth 100000 in
set_option maxHeartbeats 2000000 in
theorem sp0 (g : Nat) (l : List UInt8) (s : Nat) (w : World) (hs : s < 4294967296) (hO : Out w g l) (hroom : l.length + 3 ≤ 96) (hmod : ((s : Int) % 25) = 0) :
    Calls Tryf.prog 16 #[.slice (some ⟨g, 0, none⟩) l.length 96, .int .u32 s] w fun e w' =>
      e = .returned (.slice (some ⟨g, 0, none⟩) (l ++ [32]).length 96) ∧ Out w' g (l ++ [32]) ∧ Below g w w' := by
  obtain ⟨i0, hi, hz0, hz1, hz2⟩ := info_parts Tryf.info5
  have hg := hO.lt
  go_enter Tryf.func16, Tryf.ntmps16
  go_wp2_with (at_builtin; refine wpList_append_own_spare _ rfl _ _ 22 rfl g 5 i0 1 Tryf.underlying22 hi hz1 g l.length 96 _ rfl (World.ownsRow.alloc hO _) ⟨w.heap.size, 0, none⟩ 1 1 ([32].map bv) rfl rfl (cells_new w [32] _ 5 rfl) (one_cell _) (by omega) ?_; intro w1 hown1 hgrow1)
  go_ret
  exact ⟨by rw [List.length_append]; rfl, Out.app (k := 0) rfl rfl hown1, Out.below hg hgrow1⟩

set_option maxRecDepth 100000 in
set_option maxHeartbeats 2000000 in
theorem sp1 (g : Nat) (l : List UInt8) (s : Nat) (w : World) (hs : s < 4294967296) (hO : Out w g l) (hroom : l.length + 3 ≤ 96) (hmod : ((s : Int) % 25) = 1) :
    Calls Tryf.prog 16 #[.slice (some ⟨g, 0, none⟩) l.length 96, .int .u32 s] w fun e w' =>
      e = .returned (.slice (some ⟨g, 0, none⟩) (l ++ [9]).length 96) ∧ Out w' g (l ++ [9]) ∧ Below g w w' := by
  obtain ⟨i0, hi, hz0, hz1, hz2⟩ := info_parts Tryf.info5
  have hg := hO.lt
  go_enter Tryf.func16, Tryf.ntmps16
  go_wp2_with (at_builtin; refine wpList_append_own_spare _ rfl _ _ 22 rfl g 5 i0 1 Tryf.underlying22 hi hz1 g l.length 96 _ rfl (World.ownsRow.alloc hO _) ⟨w.heap.size, 0, none⟩ 1 1 ([9].map bv) rfl rfl (cells_new w [9] _ 5 rfl) (one_cell _) (by omega) ?_; intro w1 hown1 hgrow1)
  go_ret
  exact ⟨by rw [List.length_append]; rfl, Out.app (k := 0) rfl rfl hown1, Out.below hg hgrow1⟩

set_option maxRecDepth 100000 in
set_option maxHeartbeats 2000000 in
theorem sp2 (g : Nat) (l : List UInt8) (s : Nat) (w : World) (hs : s < 4294967296) (hO : Out w g l) (hroom : l.length + 3 ≤ 96) (hmod : ((s : Int) % 25) = 2) :
    Calls Tryf.prog 16 #[.slice (some ⟨g, 0, none⟩) l.length 96, .int .u32 s] w fun e w' =>
      e = .returned (.slice (some ⟨g, 0, none⟩) (l ++ [10]).length 96) ∧ Out w' g (l ++ [10]) ∧ Below g w w' := by
  obtain ⟨i0, hi, hz0, hz1, hz2⟩ := info_parts Tryf.info5
  have hg := hO.lt
  go_enter Tryf.func16, Tryf.ntmps16
  go_wp2_with (at_builtin; refine wpList_append_own_spare _ rfl _ _ 22 rfl g 5 i0 1 Tryf.underlying22 hi hz1 g l.length 96 _ rfl (World.ownsRow.alloc hO _) ⟨w.heap.size, 0, none⟩ 1 1 ([10].map bv) rfl rfl (cells_new w [10] _ 5 rfl) (one_cell _) (by omega) ?_; intro w1 hown1 hgrow1)
  go_ret
  exact ⟨by rw [List.length_append]; rfl, Out.app (k := 0) rfl rfl hown1, Out.below hg hgrow1⟩

set_option maxRecDepth 100000 in
set_option maxHeartbeats 2000000 in
theorem sp3 (g : Nat) (l : List UInt8) (s : Nat) (w : World) (hs : s < 4294967296) (hO : Out w g l) (hroom : l.length + 3 ≤ 96) (hmod : ((s : Int) % 25) = 3) :
    Calls Tryf.prog 16 #[.slice (some ⟨g, 0, none⟩) l.length 96, .int .u32 s] w fun e w' =>
      e = .returned (.slice (some ⟨g, 0, none⟩) (l ++ [11]).length 96) ∧ Out w' g (l ++ [11]) ∧ Below g w w' := by
  obtain ⟨i0, hi, hz0, hz1, hz2⟩ := info_parts Tryf.info5
  have hg := hO.lt
  go_enter Tryf.func16, Tryf.ntmps16
  go_wp2_with (at_builtin; refine wpList_append_own_spare _ rfl _ _ 22 rfl g 5 i0 1 Tryf.underlying22 hi hz1 g l.length 96 _ rfl (World.ownsRow.alloc hO _) ⟨w.heap.size, 0, none⟩ 1 1 ([11].map bv) rfl rfl (cells_new w [11] _ 5 rfl) (one_cell _) (by omega) ?_; intro w1 hown1 hgrow1)
  go_ret
  exact ⟨by rw [List.length_append]; rfl, Out.app (k := 0) rfl rfl hown1, Out.below hg hgrow1⟩

set_option maxRecDepth 100000 in
set_option maxHeartbeats 2000000 in
theorem sp4 (g : Nat) (l : List UInt8) (s : Nat) (w : World) (hs : s < 4294967296) (hO : Out w g l) (hroom : l.length + 3 ≤ 96) (hmod : ((s : Int) % 25) = 4) :
    Calls Tryf.prog 16 #[.slice (some ⟨g, 0, none⟩) l.length 96, .int .u32 s] w fun e w' =>
      e = .returned (.slice (some ⟨g, 0, none⟩) (l ++ [12]).length 96) ∧ Out w' g (l ++ [12]) ∧ Below g w w' := by
  obtain ⟨i0, hi, hz0, hz1, hz2⟩ := info_parts Tryf.info5
  have hg := hO.lt
  go_enter Tryf.func16, Tryf.ntmps16
  go_wp2_with (at_builtin; refine wpList_append_own_spare _ rfl _ _ 22 rfl g 5 i0 1 Tryf.underlying22 hi hz1 g l.length 96 _ rfl (World.ownsRow.alloc hO _) ⟨w.heap.size, 0, none⟩ 1 1 ([12].map bv) rfl rfl (cells_new w [12] _ 5 rfl) (one_cell _) (by omega) ?_; intro w1 hown1 hgrow1)
  go_ret
  exact ⟨by rw [List.length_append]; rfl, Out.app (k := 0) rfl rfl hown1, Out.below hg hgrow1⟩

set_option maxRecDepth 100000 in
set_option maxHeartbeats 2000000 in
theorem sp5 (g : Nat) (l : List UInt8) (s : Nat) (w : World) (hs : s < 4294967296) (hO : Out w g l) (hroom : l.length + 3 ≤ 96) (hmod : ((s : Int) % 25) = 5) :
    Calls Tryf.prog 16 #[.slice (some ⟨g, 0, none⟩) l.length 96, .int .u32 s] w fun e w' =>
      e = .returned (.slice (some ⟨g, 0, none⟩) (l ++ [13]).length 96) ∧ Out w' g (l ++ [13]) ∧ Below g w w' := by
  obtain ⟨i0, hi, hz0, hz1, hz2⟩ := info_parts Tryf.info5
  have hg := hO.lt
  go_enter Tryf.func16, Tryf.ntmps16
  go_wp2_with (at_builtin; refine wpList_append_own_spare _ rfl _ _ 22 rfl g 5 i0 1 Tryf.underlying22 hi hz1 g l.length 96 _ rfl (World.ownsRow.alloc hO _) ⟨w.heap.size, 0, none⟩ 1 1 ([13].map bv) rfl rfl (cells_new w [13] _ 5 rfl) (one_cell _) (by omega) ?_; intro w1 hown1 hgrow1)
  go_ret
  exact ⟨by rw [List.length_append]; rfl, Out.app (k := 0) rfl rfl hown1, Out.below hg hgrow1⟩

set_option maxRecDepth 100000 in
set_option maxHeartbeats 2000000 in
theorem sp6 (g : Nat) (l : List UInt8) (s : Nat) (w : World) (hs : s < 4294967296) (hO : Out w g l) (hroom : l.length + 3 ≤ 96) (hmod : ((s : Int) % 25) = 6) :
    Calls Tryf.prog 16 #[.slice (some ⟨g, 0, none⟩) l.length 96, .int .u32 s] w fun e w' =>
      e = .returned (.slice (some ⟨g, 0, none⟩) (l ++ [194, 133]).length 96) ∧ Out w' g (l ++ [194, 133]) ∧ Below g w w' := by
  obtain ⟨i0, hi, hz0, hz1, hz2⟩ := info_parts Tryf.info5
  have hg := hO.lt
  go_enter Tryf.func16, Tryf.ntmps16
  go_wp2_with (at_builtin; refine wpList_append_own_spare _ rfl _ _ 22 rfl g 5 i0 1 Tryf.underlying22 hi hz1 g l.length 96 _ rfl (World.ownsRow.alloc hO _) ⟨w.heap.size, 0, none⟩ 2 2 ([194, 133].map bv) rfl rfl (cells_new w [194, 133] _ 5 rfl) (one_cell _) (by omega) ?_; intro w1 hown1 hgrow1)
  go_ret
  exact ⟨by rw [List.length_append]; rfl, Out.app (k := 0) rfl rfl hown1, Out.below hg hgrow1⟩

set_option maxRecDepth 100000 in
set_option maxHeartbeats 2000000 in
theorem sp7 (g : Nat) (l : List UInt8) (s : Nat) (w : World) (hs : s < 4294967296) (hO : Out w g l) (hroom : l.length + 3 ≤ 96) (hmod : ((s : Int) % 25) = 7) :
    Calls Tryf.prog 16 #[.slice (some ⟨g, 0, none⟩) l.length 96, .int .u32 s] w fun e w' =>
      e = .returned (.slice (some ⟨g, 0, none⟩) (l ++ [194, 160]).length 96) ∧ Out w' g (l ++ [194, 160]) ∧ Below g w w' := by
  obtain ⟨i0, hi, hz0, hz1, hz2⟩ := info_parts Tryf.info5
  have hg := hO.lt
  go_enter Tryf.func16, Tryf.ntmps16
  go_wp2_with (at_builtin; refine wpList_append_own_spare _ rfl _ _ 22 rfl g 5 i0 1 Tryf.underlying22 hi hz1 g l.length 96 _ rfl (World.ownsRow.alloc hO _) ⟨w.heap.size, 0, none⟩ 2 2 ([194, 160].map bv) rfl rfl (cells_new w [194, 160] _ 5 rfl) (one_cell _) (by omega) ?_; intro w1 hown1 hgrow1)
  go_ret
  exact ⟨by rw [List.length_append]; rfl, Out.app (k := 0) rfl rfl hown1, Out.below hg hgrow1⟩

set_option maxRecDepth 100000 in
set_option maxHeartbeats 2000000 in
theorem sp8 (g : Nat) (l : List UInt8) (s : Nat) (w : World) (hs : s < 4294967296) (hO : Out w g l) (hroom : l.length + 3 ≤ 96) (hmod : ((s : Int) % 25) = 8) :
    Calls Tryf.prog 16 #[.slice (some ⟨g, 0, none⟩) l.length 96, .int .u32 s] w fun e w' =>
      e = .returned (.slice (some ⟨g, 0, none⟩) (l ++ [225, 154, 128]).length 96) ∧ Out w' g (l ++ [225, 154, 128]) ∧ Below g w w' := by
  obtain ⟨i0, hi, hz0, hz1, hz2⟩ := info_parts Tryf.info5
  have hg := hO.lt
  go_enter Tryf.func16, Tryf.ntmps16
  go_wp2_with (at_builtin; refine wpList_append_own_spare _ rfl _ _ 22 rfl g 5 i0 1 Tryf.underlying22 hi hz1 g l.length 96 _ rfl (World.ownsRow.alloc hO _) ⟨w.heap.size, 0, none⟩ 3 3 ([225, 154, 128].map bv) rfl rfl (cells_new w [225, 154, 128] _ 5 rfl) (one_cell _) (by omega) ?_; intro w1 hown1 hgrow1)
  go_ret
  exact ⟨by rw [List.length_append]; rfl, Out.app (k := 0) rfl rfl hown1, Out.below hg hgrow1⟩

set_option maxRecDepth 100000 in
set_option maxHeartbeats 2000000 in
theorem sp9 (g : Nat) (l : List UInt8) (s : Nat) (w : World) (hs : s < 4294967296) (hO : Out w g l) (hroom : l.length + 3 ≤ 96) (hmod : ((s : Int) % 25) = 9) :
    Calls Tryf.prog 16 #[.slice (some ⟨g, 0, none⟩) l.length 96, .int .u32 s] w fun e w' =>
      e = .returned (.slice (some ⟨g, 0, none⟩) (l ++ [226, 128, 128]).length 96) ∧ Out w' g (l ++ [226, 128, 128]) ∧ Below g w w' := by
  obtain ⟨i0, hi, hz0, hz1, hz2⟩ := info_parts Tryf.info5
  have hg := hO.lt
  go_enter Tryf.func16, Tryf.ntmps16
  go_wp2_with (at_builtin; refine wpList_append_own_spare _ rfl _ _ 22 rfl g 5 i0 1 Tryf.underlying22 hi hz1 g l.length 96 _ rfl (World.ownsRow.alloc hO _) ⟨w.heap.size, 0, none⟩ 3 3 ([226, 128, 128].map bv) rfl rfl (cells_new w [226, 128, 128] _ 5 rfl) (one_cell _) (by omega) ?_; intro w1 hown1 hgrow1)
  go_ret
  exact ⟨by rw [List.length_append]; rfl, Out.app (k := 0) rfl rfl hown1, Out.below hg hgrow1⟩

set_option maxRecDepth 100000 in
set_option maxHeartbeats 2000000 in
theorem sp10 (g : Nat) (l : List UInt8) (s : Nat) (w : World) (hs : s < 4294967296) (hO : Out w g l) (hroom : l.length + 3 ≤ 96) (hmod : ((s : Int) % 25) = 10) :
    Calls Tryf.prog 16 #[.slice (some ⟨g, 0, none⟩) l.length 96, .int .u32 s] w fun e w' =>
      e = .returned (.slice (some ⟨g, 0, none⟩) (l ++ [226, 128, 129]).length 96) ∧ Out w' g (l ++ [226, 128, 129]) ∧ Below g w w' := by
  obtain ⟨i0, hi, hz0, hz1, hz2⟩ := info_parts Tryf.info5
  have hg := hO.lt
  go_enter Tryf.func16, Tryf.ntmps16
  go_wp2_with (at_builtin; refine wpList_append_own_spare _ rfl _ _ 22 rfl g 5 i0 1 Tryf.underlying22 hi hz1 g l.length 96 _ rfl (World.ownsRow.alloc hO _) ⟨w.heap.size, 0, none⟩ 3 3 ([226, 128, 129].map bv) rfl rfl (cells_new w [226, 128, 129] _ 5 rfl) (one_cell _) (by omega) ?_; intro w1 hown1 hgrow1)
  go_ret
  exact ⟨by rw [List.length_append]; rfl, Out.app (k := 0) rfl rfl hown1, Out.below hg hgrow1⟩

set_option maxRecDepth 100000 in
set_option maxHeartbeats 2000000 in
theorem sp11 (g : Nat) (l : List UInt8) (s : Nat) (w : World) (hs : s < 4294967296) (hO : Out w g l) (hroom : l.length + 3 ≤ 96) (hmod : ((s : Int) % 25) = 11) :
    Calls Tryf.prog 16 #[.slice (some ⟨g, 0, none⟩) l.length 96, .int .u32 s] w fun e w' =>
      e = .returned (.slice (some ⟨g, 0, none⟩) (l ++ [226, 128, 130]).length 96) ∧ Out w' g (l ++ [226, 128, 130]) ∧ Below g w w' := by
  obtain ⟨i0, hi, hz0, hz1, hz2⟩ := info_parts Tryf.info5
  have hg := hO.lt
  go_enter Tryf.func16, Tryf.ntmps16
  go_wp2_with (at_builtin; refine wpList_append_own_spare _ rfl _ _ 22 rfl g 5 i0 1 Tryf.underlying22 hi hz1 g l.length 96 _ rfl (World.ownsRow.alloc hO _) ⟨w.heap.size, 0, none⟩ 3 3 ([226, 128, 130].map bv) rfl rfl (cells_new w [226, 128, 130] _ 5 rfl) (one_cell _) (by omega) ?_; intro w1 hown1 hgrow1)
  go_ret
  exact ⟨by rw [List.length_append]; rfl, Out.app (k := 0) rfl rfl hown1, Out.below hg hgrow1⟩

set_option maxRecDepth 100000 in
set_option maxHeartbeats 2000000 in
theorem sp12 (g : Nat) (l : List UInt8) (s : Nat) (w : World) (hs : s < 4294967296) (hO : Out w g l) (hroom : l.length + 3 ≤ 96) (hmod : ((s : Int) % 25) = 12) :
    Calls Tryf.prog 16 #[.slice (some ⟨g, 0, none⟩) l.length 96, .int .u32 s] w fun e w' =>
      e = .returned (.slice (some ⟨g, 0, none⟩) (l ++ [226, 128, 131]).length 96) ∧ Out w' g (l ++ [226, 128, 131]) ∧ Below g w w' := by
  obtain ⟨i0, hi, hz0, hz1, hz2⟩ := info_parts Tryf.info5
  have hg := hO.lt
  go_enter Tryf.func16, Tryf.ntmps16
  go_wp2_with (at_builtin; refine wpList_append_own_spare _ rfl _ _ 22 rfl g 5 i0 1 Tryf.underlying22 hi hz1 g l.length 96 _ rfl (World.ownsRow.alloc hO _) ⟨w.heap.size, 0, none⟩ 3 3 ([226, 128, 131].map bv) rfl rfl (cells_new w [226, 128, 131] _ 5 rfl) (one_cell _) (by omega) ?_; intro w1 hown1 hgrow1)
  go_ret
  exact ⟨by rw [List.length_append]; rfl, Out.app (k := 0) rfl rfl hown1, Out.below hg hgrow1⟩

set_option maxRecDepth 100000 in
set_option maxHeartbeats 2000000 in
theorem sp13 (g : Nat) (l : List UInt8) (s : Nat) (w : World) (hs : s < 4294967296) (hO : Out w g l) (hroom : l.length + 3 ≤ 96) (hmod : ((s : Int) % 25) = 13) :
    Calls Tryf.prog 16 #[.slice (some ⟨g, 0, none⟩) l.length 96, .int .u32 s] w fun e w' =>
      e = .returned (.slice (some ⟨g, 0, none⟩) (l ++ [226, 128, 132]).length 96) ∧ Out w' g (l ++ [226, 128, 132]) ∧ Below g w w' := by
  obtain ⟨i0, hi, hz0, hz1, hz2⟩ := info_parts Tryf.info5
  have hg := hO.lt
  go_enter Tryf.func16, Tryf.ntmps16
  go_wp2_with (at_builtin; refine wpList_append_own_spare _ rfl _ _ 22 rfl g 5 i0 1 Tryf.underlying22 hi hz1 g l.length 96 _ rfl (World.ownsRow.alloc hO _) ⟨w.heap.size, 0, none⟩ 3 3 ([226, 128, 132].map bv) rfl rfl (cells_new w [226, 128, 132] _ 5 rfl) (one_cell _) (by omega) ?_; intro w1 hown1 hgrow1)
  go_ret
  exact ⟨by rw [List.length_append]; rfl, Out.app (k := 0) rfl rfl hown1, Out.below hg hgrow1⟩

set_option maxRecDepth 100000 in
set_option maxHeartbeats 2000000 in
theorem sp14 (g : Nat) (l : List UInt8) (s : Nat) (w : World) (hs : s < 4294967296) (hO : Out w g l) (hroom : l.length + 3 ≤ 96) (hmod : ((s : Int) % 25) = 14) :
    Calls Tryf.prog 16 #[.slice (some ⟨g, 0, none⟩) l.length 96, .int .u32 s] w fun e w' =>
      e = .returned (.slice (some ⟨g, 0, none⟩) (l ++ [226, 128, 133]).length 96) ∧ Out w' g (l ++ [226, 128, 133]) ∧ Below g w w' := by
  obtain ⟨i0, hi, hz0, hz1, hz2⟩ := info_parts Tryf.info5
  have hg := hO.lt
  go_enter Tryf.func16, Tryf.ntmps16
  go_wp2_with (at_builtin; refine wpList_append_own_spare _ rfl _ _ 22 rfl g 5 i0 1 Tryf.underlying22 hi hz1 g l.length 96 _ rfl (World.ownsRow.alloc hO _) ⟨w.heap.size, 0, none⟩ 3 3 ([226, 128, 133].map bv) rfl rfl (cells_new w [226, 128, 133] _ 5 rfl) (one_cell _) (by omega) ?_; intro w1 hown1 hgrow1)
  go_ret
  exact ⟨by rw [List.length_append]; rfl, Out.app (k := 0) rfl rfl hown1, Out.below hg hgrow1⟩

set_option maxRecDepth 100000 in
set_option maxHeartbeats 2000000 in
theorem sp15 (g : Nat) (l : List UInt8) (s : Nat) (w : World) (hs : s < 4294967296) (hO : Out w g l) (hroom : l.length + 3 ≤ 96) (hmod : ((s : Int) % 25) = 15) :
    Calls Tryf.prog 16 #[.slice (some ⟨g, 0, none⟩) l.length 96, .int .u32 s] w fun e w' =>
      e = .returned (.slice (some ⟨g, 0, none⟩) (l ++ [226, 128, 134]).length 96) ∧ Out w' g (l ++ [226, 128, 134]) ∧ Below g w w' := by
  obtain ⟨i0, hi, hz0, hz1, hz2⟩ := info_parts Tryf.info5
  have hg := hO.lt
  go_enter Tryf.func16, Tryf.ntmps16
  go_wp2_with (at_builtin; refine wpList_append_own_spare _ rfl _ _ 22 rfl g 5 i0 1 Tryf.underlying22 hi hz1 g l.length 96 _ rfl (World.ownsRow.alloc hO _) ⟨w.heap.size, 0, none⟩ 3 3 ([226, 128, 134].map bv) rfl rfl (cells_new w [226, 128, 134] _ 5 rfl) (one_cell _) (by omega) ?_; intro w1 hown1 hgrow1)
  go_ret
  exact ⟨by rw [List.length_append]; rfl, Out.app (k := 0) rfl rfl hown1, Out.below hg hgrow1⟩

set_option maxRecDepth 100000 in
set_option maxHeartbeats 2000000 in
theorem sp16 (g : Nat) (l : List UInt8) (s : Nat) (w : World) (hs : s < 4294967296) (hO : Out w g l) (hroom : l.length + 3 ≤ 96) (hmod : ((s : Int) % 25) = 16) :
    Calls Tryf.prog 16 #[.slice (some ⟨g, 0, none⟩) l.length 96, .int .u32 s] w fun e w' =>
      e = .returned (.slice (some ⟨g, 0, none⟩) (l ++ [226, 128, 135]).length 96) ∧ Out w' g (l ++ [226, 128, 135]) ∧ Below g w w' := by
  obtain ⟨i0, hi, hz0, hz1, hz2⟩ := info_parts Tryf.info5
  have hg := hO.lt
  go_enter Tryf.func16, Tryf.ntmps16
  go_wp2_with (at_builtin; refine wpList_append_own_spare _ rfl _ _ 22 rfl g 5 i0 1 Tryf.underlying22 hi hz1 g l.length 96 _ rfl (World.ownsRow.alloc hO _) ⟨w.heap.size, 0, none⟩ 3 3 ([226, 128, 135].map bv) rfl rfl (cells_new w [226, 128, 135] _ 5 rfl) (one_cell _) (by omega) ?_; intro w1 hown1 hgrow1)
  go_ret
  exact ⟨by rw [List.length_append]; rfl, Out.app (k := 0) rfl rfl hown1, Out.below hg hgrow1⟩

set_option maxRecDepth 100000 in
set_option maxHeartbeats 2000000 in
theorem sp17 (g : Nat) (l : List UInt8) (s : Nat) (w : World) (hs : s < 4294967296) (hO : Out w g l) (hroom : l.length + 3 ≤ 96) (hmod : ((s : Int) % 25) = 17) :
    Calls Tryf.prog 16 #[.slice (some ⟨g, 0, none⟩) l.length 96, .int .u32 s] w fun e w' =>
      e = .returned (.slice (some ⟨g, 0, none⟩) (l ++ [226, 128, 136]).length 96) ∧ Out w' g (l ++ [226, 128, 136]) ∧ Below g w w' := by
  obtain ⟨i0, hi, hz0, hz1, hz2⟩ := info_parts Tryf.info5
  have hg := hO.lt
  go_enter Tryf.func16, Tryf.ntmps16
  go_wp2_with (at_builtin; refine wpList_append_own_spare _ rfl _ _ 22 rfl g 5 i0 1 Tryf.underlying22 hi hz1 g l.length 96 _ rfl (World.ownsRow.alloc hO _) ⟨w.heap.size, 0, none⟩ 3 3 ([226, 128, 136].map bv) rfl rfl (cells_new w [226, 128, 136] _ 5 rfl) (one_cell _) (by omega) ?_; intro w1 hown1 hgrow1)
  go_ret
  exact ⟨by rw [List.length_append]; rfl, Out.app (k := 0) rfl rfl hown1, Out.below hg hgrow1⟩

set_option maxRecDepth 100000 in
set_option maxHeartbeats 2000000 in
theorem sp18 (g : Nat) (l : List UInt8) (s : Nat) (w : World) (hs : s < 4294967296) (hO : Out w g l) (hroom : l.length + 3 ≤ 96) (hmod : ((s : Int) % 25) = 18) :
    Calls Tryf.prog 16 #[.slice (some ⟨g, 0, none⟩) l.length 96, .int .u32 s] w fun e w' =>
      e = .returned (.slice (some ⟨g, 0, none⟩) (l ++ [226, 128, 137]).length 96) ∧ Out w' g (l ++ [226, 128, 137]) ∧ Below g w w' := by
  obtain ⟨i0, hi, hz0, hz1, hz2⟩ := info_parts Tryf.info5
  have hg := hO.lt
  go_enter Tryf.func16, Tryf.ntmps16
  go_wp2_with (at_builtin; refine wpList_append_own_spare _ rfl _ _ 22 rfl g 5 i0 1 Tryf.underlying22 hi hz1 g l.length 96 _ rfl (World.ownsRow.alloc hO _) ⟨w.heap.size, 0, none⟩ 3 3 ([226, 128, 137].map bv) rfl rfl (cells_new w [226, 128, 137] _ 5 rfl) (one_cell _) (by omega) ?_; intro w1 hown1 hgrow1)
  go_ret
  exact ⟨by rw [List.length_append]; rfl, Out.app (k := 0) rfl rfl hown1, Out.below hg hgrow1⟩

set_option maxRecDepth 100000 in
set_option maxHeartbeats 2000000 in
theorem sp19 (g : Nat) (l : List UInt8) (s : Nat) (w : World) (hs : s < 4294967296) (hO : Out w g l) (hroom : l.length + 3 ≤ 96) (hmod : ((s : Int) % 25) = 19) :
    Calls Tryf.prog 16 #[.slice (some ⟨g, 0, none⟩) l.length 96, .int .u32 s] w fun e w' =>
      e = .returned (.slice (some ⟨g, 0, none⟩) (l ++ [226, 128, 138]).length 96) ∧ Out w' g (l ++ [226, 128, 138]) ∧ Below g w w' := by
  obtain ⟨i0, hi, hz0, hz1, hz2⟩ := info_parts Tryf.info5
  have hg := hO.lt
  go_enter Tryf.func16, Tryf.ntmps16
  go_wp2_with (at_builtin; refine wpList_append_own_spare _ rfl _ _ 22 rfl g 5 i0 1 Tryf.underlying22 hi hz1 g l.length 96 _ rfl (World.ownsRow.alloc hO _) ⟨w.heap.size, 0, none⟩ 3 3 ([226, 128, 138].map bv) rfl rfl (cells_new w [226, 128, 138] _ 5 rfl) (one_cell _) (by omega) ?_; intro w1 hown1 hgrow1)
  go_ret
  exact ⟨by rw [List.length_append]; rfl, Out.app (k := 0) rfl rfl hown1, Out.below hg hgrow1⟩

set_option maxRecDepth 100000 in
set_option maxHeartbeats 2000000 in
theorem sp20 (g : Nat) (l : List UInt8) (s : Nat) (w : World) (hs : s < 4294967296) (hO : Out w g l) (hroom : l.length + 3 ≤ 96) (hmod : ((s : Int) % 25) = 20) :
    Calls Tryf.prog 16 #[.slice (some ⟨g, 0, none⟩) l.length 96, .int .u32 s] w fun e w' =>
      e = .returned (.slice (some ⟨g, 0, none⟩) (l ++ [226, 128, 168]).length 96) ∧ Out w' g (l ++ [226, 128, 168]) ∧ Below g w w' := by
  obtain ⟨i0, hi, hz0, hz1, hz2⟩ := info_parts Tryf.info5
  have hg := hO.lt
  go_enter Tryf.func16, Tryf.ntmps16
  go_wp2_with (at_builtin; refine wpList_append_own_spare _ rfl _ _ 22 rfl g 5 i0 1 Tryf.underlying22 hi hz1 g l.length 96 _ rfl (World.ownsRow.alloc hO _) ⟨w.heap.size, 0, none⟩ 3 3 ([226, 128, 168].map bv) rfl rfl (cells_new w [226, 128, 168] _ 5 rfl) (one_cell _) (by omega) ?_; intro w1 hown1 hgrow1)
  go_ret
  exact ⟨by rw [List.length_append]; rfl, Out.app (k := 0) rfl rfl hown1, Out.below hg hgrow1⟩

set_option maxRecDepth 100000 in
set_option maxHeartbeats 2000000 in
theorem sp21 (g : Nat) (l : List UInt8) (s : Nat) (w : World) (hs : s < 4294967296) (hO : Out w g l) (hroom : l.length + 3 ≤ 96) (hmod : ((s : Int) % 25) = 21) :
    Calls Tryf.prog 16 #[.slice (some ⟨g, 0, none⟩) l.length 96, .int .u32 s] w fun e w' =>
      e = .returned (.slice (some ⟨g, 0, none⟩) (l ++ [226, 128, 169]).length 96) ∧ Out w' g (l ++ [226, 128, 169]) ∧ Below g w w' := by
  obtain ⟨i0, hi, hz0, hz1, hz2⟩ := info_parts Tryf.info5
  have hg := hO.lt
  go_enter Tryf.func16, Tryf.ntmps16
  go_wp2_with (at_builtin; refine wpList_append_own_spare _ rfl _ _ 22 rfl g 5 i0 1 Tryf.underlying22 hi hz1 g l.length 96 _ rfl (World.ownsRow.alloc hO _) ⟨w.heap.size, 0, none⟩ 3 3 ([226, 128, 169].map bv) rfl rfl (cells_new w [226, 128, 169] _ 5 rfl) (one_cell _) (by omega) ?_; intro w1 hown1 hgrow1)
  go_ret
  exact ⟨by rw [List.length_append]; rfl, Out.app (k := 0) rfl rfl hown1, Out.below hg hgrow1⟩

set_option maxRecDepth 100000 in
set_option maxHeartbeats 2000000 in
theorem sp22 (g : Nat) (l : List UInt8) (s : Nat) (w : World) (hs : s < 4294967296) (hO : Out w g l) (hroom : l.length + 3 ≤ 96) (hmod : ((s : Int) % 25) = 22) :
    Calls Tryf.prog 16 #[.slice (some ⟨g, 0, none⟩) l.length 96, .int .u32 s] w fun e w' =>
      e = .returned (.slice (some ⟨g, 0, none⟩) (l ++ [226, 128, 175]).length 96) ∧ Out w' g (l ++ [226, 128, 175]) ∧ Below g w w' := by
  obtain ⟨i0, hi, hz0, hz1, hz2⟩ := info_parts Tryf.info5
  have hg := hO.lt
  go_enter Tryf.func16, Tryf.ntmps16
  go_wp2_with (at_builtin; refine wpList_append_own_spare _ rfl _ _ 22 rfl g 5 i0 1 Tryf.underlying22 hi hz1 g l.length 96 _ rfl (World.ownsRow.alloc hO _) ⟨w.heap.size, 0, none⟩ 3 3 ([226, 128, 175].map bv) rfl rfl (cells_new w [226, 128, 175] _ 5 rfl) (one_cell _) (by omega) ?_; intro w1 hown1 hgrow1)
  go_ret
  exact ⟨by rw [List.length_append]; rfl, Out.app (k := 0) rfl rfl hown1, Out.below hg hgrow1⟩

set_option maxRecDepth 100000 in
set_option maxHeartbeats 2000000 in
theorem sp23 (g : Nat) (l : List UInt8) (s : Nat) (w : World) (hs : s < 4294967296) (hO : Out w g l) (hroom : l.length + 3 ≤ 96) (hmod : ((s : Int) % 25) = 23) :
    Calls Tryf.prog 16 #[.slice (some ⟨g, 0, none⟩) l.length 96, .int .u32 s] w fun e w' =>
      e = .returned (.slice (some ⟨g, 0, none⟩) (l ++ [226, 129, 159]).length 96) ∧ Out w' g (l ++ [226, 129, 159]) ∧ Below g w w' := by
  obtain ⟨i0, hi, hz0, hz1, hz2⟩ := info_parts Tryf.info5
  have hg := hO.lt
  go_enter Tryf.func16, Tryf.ntmps16
  go_wp2_with (at_builtin; refine wpList_append_own_spare _ rfl _ _ 22 rfl g 5 i0 1 Tryf.underlying22 hi hz1 g l.length 96 _ rfl (World.ownsRow.alloc hO _) ⟨w.heap.size, 0, none⟩ 3 3 ([226, 129, 159].map bv) rfl rfl (cells_new w [226, 129, 159] _ 5 rfl) (one_cell _) (by omega) ?_; intro w1 hown1 hgrow1)
  go_ret
  exact ⟨by rw [List.length_append]; rfl, Out.app (k := 0) rfl rfl hown1, Out.below hg hgrow1⟩

set_option maxRecDepth 100000 in
set_option maxHeartbeats 2000000 in
theorem sp24 (g : Nat) (l : List UInt8) (s : Nat) (w : World) (hs : s < 4294967296) (hO : Out w g l) (hroom : l.length + 3 ≤ 96) (hmod : ((s : Int) % 25) = 24) :
    Calls Tryf.prog 16 #[.slice (some ⟨g, 0, none⟩) l.length 96, .int .u32 s] w fun e w' =>
      e = .returned (.slice (some ⟨g, 0, none⟩) (l ++ [227, 128, 128]).length 96) ∧ Out w' g (l ++ [227, 128, 128]) ∧ Below g w w' := by
  obtain ⟨i0, hi, hz0, hz1, hz2⟩ := info_parts Tryf.info5
  have hg := hO.lt
  go_enter Tryf.func16, Tryf.ntmps16
  go_wp2_with (at_builtin; refine wpList_append_own_spare _ rfl _ _ 22 rfl g 5 i0 1 Tryf.underlying22 hi hz1 g l.length 96 _ rfl (World.ownsRow.alloc hO _) ⟨w.heap.size, 0, none⟩ 3 3 ([227, 128, 128].map bv) rfl rfl (cells_new w [227, 128, 128] _ 5 rfl) (one_cell _) (by omega) ?_; intro w1 hown1 hgrow1)
  go_ret
  exact ⟨by rw [List.length_append]; rfl, Out.app (k := 0) rfl rfl hown1, Out.below hg hgrow1⟩

theorem space16 (g : Nat) (l : List UInt8) (s : Nat) (w : World) (hs : s < 4294967296) (hO : Out w g l) (hroom : l.length + 3 ≤ 96) :
    Calls Tryf.prog 16 #[.slice (some ⟨g, 0, none⟩) l.length 96, .int .u32 s] w fun e w' =>
      e = .returned (.slice (some ⟨g, 0, none⟩) (l ++ spaceOf (s % 25)).length 96) ∧ Out w' g (l ++ spaceOf (s % 25)) ∧ Below g w w' := by
  have hlt : s % 25 < 25 := Nat.mod_lt _ (by decide)
  have hmod : ((s : Int) % 25) = ((s % 25 : Nat) : Int) := by omega
  generalize s % 25 = k at hlt hmod ⊢
  rcases (show k = 0 ∨ k = 1 ∨ k = 2 ∨ k = 3 ∨ k = 4 ∨ k = 5 ∨ k = 6 ∨ k = 7 ∨ k = 8 ∨ k = 9 ∨ k = 10 ∨ k = 11 ∨ k = 12 ∨ k = 13 ∨ k = 14 ∨ k = 15 ∨ k = 16 ∨ k = 17 ∨ k = 18 ∨ k = 19 ∨ k = 20 ∨ k = 21 ∨ k = 22 ∨ k = 23 ∨ k = 24 by omega) with rfl | rfl | rfl | rfl | rfl | rfl | rfl | rfl | rfl | rfl | rfl | rfl | rfl | rfl | rfl | rfl | rfl | rfl | rfl | rfl | rfl | rfl | rfl | rfl | rfl
  · exact sp0 g l s w hs hO hroom hmod
  · exact sp1 g l s w hs hO hroom hmod
  · exact sp2 g l s w hs hO hroom hmod
  · exact sp3 g l s w hs hO hroom hmod
  · exact sp4 g l s w hs hO hroom hmod
  · exact sp5 g l s w hs hO hroom hmod
  · exact sp6 g l s w hs hO hroom hmod
  · exact sp7 g l s w hs hO hroom hmod
  · exact sp8 g l s w hs hO hroom hmod
  · exact sp9 g l s w hs hO hroom hmod
  · exact sp10 g l s w hs hO hroom hmod
  · exact sp11 g l s w hs hO hroom hmod
  · exact sp12 g l s w hs hO hroom hmod
  · exact sp13 g l s w hs hO hroom hmod
  · exact sp14 g l s w hs hO hroom hmod
  · exact sp15 g l s w hs hO hroom hmod
  · exact sp16 g l s w hs hO hroom hmod
  · exact sp17 g l s w hs hO hroom hmod
  · exact sp18 g l s w hs hO hroom hmod
  · exact sp19 g l s w hs hO hroom hmod
  · exact sp20 g l s w hs hO hroom hmod
  · exact sp21 g l s w hs hO hroom hmod
  · exact sp22 g l s w hs hO hroom hmod
  · exact sp23 g l s w hs hO hroom hmod
  · exact sp24 g l s w hs hO hroom hmod
end Go.Proofs.Qxb6600209aFmt
