import Derived.Test.Qxb6600209aFmtMatch2
import Derived.Test.Qxb6600209aFmtTie
import Derived.ProofKit
import Derived.LaidMore
import Derived.Lib.LaidU8
import Derived.Deep.DeepWitnessRef
import Derived.Stop.LaidErr
import Derived.MakeChecks
namespace Go.Proofs.Qxb6600209aFmt
open Go.ChangeShapes Go.WideShapes Go.ChangeAt Go.RowKit
open Go.Extern.Stop Go.Stop Go.Extern

theorem iface_of_trod {H : Type} {enc : TypeId × Value → H} {P : Program} {w : World} {base : Nat} {sp : Nat → Bool} {held : Bool} {fuel : Nat} {ti : TypeId} {ms : Array (String × TypeId)} {cs : List Value} {nm : String} {d : DataW H} {p : List MemPlace}
    (hu : P.underlying ti = some (.interface ms)) (h : DataW.trod enc P w base sp held fuel ti cs = some (.iface nm d, p)) : ∃ te pe, cs = [.iface te pe] := by
  cases fuel with
  | zero => simp [DataW.trod] at h
  | succ fuel =>
    simp only [DataW.trod, hu] at h
    split at h <;> simp_all

theorem iface_cell {P : Program} {w : World} {n nm : String} {d : DataW Unit} {g : Nat} {ti : TypeId} {ms : Array (String × TypeId)} (hr : Lib.VarReads P w n (.iface nm d)) (hg : P.globalNamed n = some g) (ht : (P.globals[g]?).map (·.type) = some ti)
    (hu : P.underlying ti = some (.interface ms)) : ∃ te pe, w.cell? ⟨g, 0, none⟩ = some (.iface te pe) := by
  obtain ⟨g', t', cs, fuel, p, h1, h2, h3, h4⟩ := hr
  obtain rfl := Option.some.inj (hg.symm.trans h1)
  obtain rfl := Option.some.inj (ht.symm.trans h2)
  obtain ⟨te, pe, hc⟩ := iface_of_trod hu h4
  refine ⟨te, pe, ?_⟩
  have := World.var?_cell hg h3 0
  obtain ⟨cs⟩ := cs
  simp only at hc
  subst hc
  simpa using this

set_option maxRecDepth 100000 in
theorem asc_eq : (Rows.laid_strings_asciiSpace : DataW Unit) = Lib.tabData .u8 Lib.asciiSpaceTab := by kernel_rfl
theorem white_eq : (Rows.laid_unicode_White_Space : DataW Unit) = Lib.whiteData := by kernel_rfl

set_option maxRecDepth 100000 in
/-- from what the row lists to what the walk wants -/
theorem vars_of_laid {W : World} (h : laidMetH Tryf.prog Rows.fnParseRangeMatchesModelRow.laid W) : Vars W := by
  rw [MakeChecks.laidMetH_plain _ _ _ (by kernel_rfl)] at h
  have hr := h.tail.tail.tail
  have h6 : laidMet Tryf.prog [("unicode.White_Space", Rows.laid_unicode_White_Space), ("strings.asciiSpace", Rows.laid_strings_asciiSpace)] W := hr.tail.tail
  have h7 := h6.tail
  rw [asc_eq] at h7
  have hW := Lib.laidMet.reads h6 (.head _)
  rw [white_eq] at hW
  refine ⟨?_, ?_, ?_, ?_⟩
  · exact Lib.tabIs_of_head (t := 48) (n := 256) Tryf.gAscii (by kernel_rfl) (by kernel_rfl) Tryf.underlying5 (by kernel_rfl) (by kernel_rfl) h7
  · exact whiteTab_of_reads (ρ := Tryf.lays157_ren) { Tryf.lays157 with } ⟨by kernel_rfl, by kernel_rfl, by kernel_rfl, by kernel_rfl, by kernel_rfl, by kernel_rfl, by kernel_rfl, by kernel_rfl⟩ hW
  · exact iface_cell (Lib.laidMet.reads hr.tail (.head _)) (by kernel_rfl) (by kernel_rfl) Tryf.underlying26
  · exact iface_cell (Lib.laidMet.reads hr (.head _)) (by kernel_rfl) (by kernel_rfl) Tryf.underlying26
end Go.Proofs.Qxb6600209aFmt
