import Derived.Test.Qxb6600209aFmtRows
import Derived.WalkKit
import Derived.WalkSpells
import Derived.WalkLawsBesides
import Derived.Stop.CallBack
import Derived.Stop.IfaceNil
import Derived.Stop.FmtTextLaws
import Derived.Laws.Cells
import Derived.Stop.FmtTextSlices
import GoSem.ClaimData
namespace Go.Proofs.Qxb6600209aFmt
open Go.RowKit Go.Extern.Stop Go.Stop Go.Extern

theorem hide {p : Prop} (h : p) : Hid p := h
theorem unhide {p : Prop} (h : Hid p) : p := h

theorem Tryf.call22 (args : Array Value) (w : World) : (callFunc 22 args).run Tryf.prog w = ((FmtStop.errorf #[9, 51] #[26] args).run Tryf.prog w).andThen fun v w' => .ok (.value v) w' :=
  run_callFunc_extern Tryf.func22 (by kernel_rfl) (by kernel_rfl) (by kernel_rfl) (by kernel_rfl) args w

theorem Tryf.guard (name : String) (w : World) : (FmtStop.guard name).run Tryf.prog w = .ok () w := by kernel_rfl
theorem Tryf.ptr60 (w : World) : (FmtStop.ptrTo "errors.errorString").run Tryf.prog w = .ok 60 w := by kernel_rfl
theorem Tryf.elem60 (w : World) : (elemOf 60).run Tryf.prog w = .ok 62 w := by kernel_rfl
theorem Tryf.isError60' (w : World) : (FmtDoors.textMethod 60 "Error").run Tryf.prog w = .ok true w := by kernel_rfl

theorem Tryf.value5 (name : String) (x : Int) (w : World) : (FmtStop.value name FmtStop.depth 5 [.int .u8 x]).run Tryf.prog w = .ok (digits 8 (x % 2 ^ 64).toNat) w := by kernel_rfl

theorem Tryf.values5 (name : String) (w : World) : ∀ xs : List Int, (List.mapM ((fun c => FmtStop.value name FmtStop.depth 5 [c]) ∘ Value.int IntKind.u8) xs).run Tryf.prog w = .ok (xs.map fun x => digits 8 (x % 18446744073709551616).toNat) w
  | [] => by simp [List.mapM_nil]
  | x :: xs => by
    have ih := Tryf.values5 name w xs
    have h := Tryf.value5 name x w
    simp [List.mapM_cons, h, ih, Result.andThen]

theorem Tryf.opBytes_113w (a : Addr) (cap : Nat) (xs : List Int) (w : World) (hc : ∀ j v, (xs.map (Value.int .u8))[j]? = some v → w.cell? (a.add j) = some v) :
    ∃ s1 s2, ∀ name, (FmtStop.operand name true 113 false (.iface 22 (.slice (some a) xs.length cap))).run Tryf.prog w = .ok (s1, s2) w := by
  obtain ⟨ts, h1⟩ : ∃ ts, (typeStr 22).run Tryf.prog w = .ok ts w := ⟨String.ofList ([91, 93, 117, 105, 110, 116, 56].map Char.ofNat), by kernel_rfl⟩
  obtain ⟨shp, hsh⟩ : ∃ shp, ∀ name, (FmtStop.shape name (FmtStop.asked true 113 false) FmtStop.depth 5).run Tryf.prog w = .ok shp w := ⟨6 :: FmtStop.pack [117, 105, 110, 116, 56], fun _ => by kernel_rfl⟩
  have hb : (FmtStop.bare (FmtStop.asked true 113 false) 22).run Tryf.prog w = .ok true w := by kernel_rfl
  have hs : (FmtStop.scalar 5).run Tryf.prog w = .ok true w := by kernel_rfl
  have hy : (Extern.Stop.isByte 5).run Tryf.prog w = .ok true w := by kernel_rfl
  have hw : Tryf.prog.funcs.any (·.name == FmtStop.writeWord) = true := by kernel_rfl
  have hl := run_loadCells_list (P := Tryf.prog) w a (xs.map (Value.int .u8)) hc
  rw [List.length_map] at hl
  refine ⟨13 :: (FmtStop.pack ts.toUTF8.data.toList ++ shp), 1 :: (digits 8 xs.length ++ FmtText.intValues xs), fun name => ?_⟩
  simp [FmtStop.operand, h1, hb, hs, hy, hsh, hl, Tryf.values5, FmtText.intValues]
  intro hno
  obtain ⟨i, hi, _, _, he⟩ := Array.any_iff_exists.1 hw
  exact absurd (by simpa using he) (hno i hi)

theorem Tryf.opNil_113w (w : World) : ∃ s1 s2, ∀ name, (FmtStop.operand name true 113 false (.iface 22 (.slice none 0 0))).run Tryf.prog w = .ok (s1, s2) w := ⟨13 :: (FmtStop.pack [91, 93, 117, 105, 110, 116, 56] ++ 6 :: FmtStop.pack [117, 105, 110, 116, 56]), [0], fun _ => by kernel_rfl⟩

attribute [local go_sem] Tryf.call22 Tryf.guard Tryf.ptr60 Tryf.elem60 Tryf.isError60'

set_option maxHeartbeats 400000 in
theorem errorf_q (F : Interp) (fm : ByteArray) (s1 s2 : List UInt8) (x : Value) (blk : Nat) (w : World) (hF : F.answers w.tape) (hpr : ∀ w, (FmtDoors.printed fm 1).run Tryf.prog w = .ok [(0, 113, false)] w)
    (hc0 : w.cell? ⟨blk, 0, none⟩ = some (.iface 22 x)) (hop : ∀ name, (FmtStop.operand name true 113 false (.iface 22 x)).run Tryf.prog w = .ok (s1, s2) w) :
    Calls Tryf.prog 18 #[.string fm, .slice (some ⟨blk, 0, none⟩) 1 1] w fun e w' =>
      (∃ a, e = .returned (.iface 60 (.pointer (some a)))) ∧ ∃ txt, w' = (w.alloc (.cells #[.string txt] 62)).drew := by
  have hF' := answers_open hF
  go_enter Tryf.func18, Tryf.ntmps18
  go_wp2
  go_ret
  exact ⟨⟨_, rfl⟩, _, rfl⟩
end Go.Proofs.Qxb6600209aFmt
