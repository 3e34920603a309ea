import Derived.Test.Qxb6600278aDoorLaw
import Derived.Test.Qxb6600278aDoorTie
import Derived.Test.Qxb6600278aDoorCards
import Derived.ProofKit
import Derived.LaidMore
import Derived.OpenShut
import Derived.Stop.Joined
import Derived.Lib.LaidU8
import Derived.MakeChecks
import Derived.Stop.LaidErr
import Derived.ChangeMaps5
import Derived.SevenTiedAt
namespace Go.Proofs.Qxb6600278aDoor
open Go.ChangeShapes Go.WideShapes Go.ChangeAt Go.RowKit Go.Stop
set_option linter.unusedVariables false

theorem own : ownKnob Tryd.prog.godebug = none := by kernel_rfl

theorem iface_of_trod {H : Type} {enc : TypeId × Value → H} {P : Program} {w : World} {base : Nat} {sp : Nat → Bool} {held : Bool} {fuel : Nat} {ti : TypeId} {ms : Array (String × TypeId)} {cs : List Value} {nm : String} {d : DataW H} {p : List MemPlace}
    (hu : P.underlying ti = some (.interface ms)) (h : DataW.trod enc P w base sp held fuel ti cs = some (.iface nm d, p)) : ∃ te pe, cs = [.iface te pe] := by
  cases fuel with
  | zero => simp [DataW.trod] at h
  | succ fuel =>
    simp only [DataW.trod, hu] at h
    split at h <;> simp_all

theorem iface_cell {P : Program} {w : World} {n nm : String} {d : DataW Unit} {g : Nat} {ti : TypeId} {ms : Array (String × TypeId)} (hr : Lib.VarReads P w n (.iface nm d)) (hg : P.globalNamed n = some g) (ht : (P.globals[g]?).map (·.type) = some ti)
    (hu : P.underlying ti = some (.interface ms)) : ∃ te pe, w.cell? ⟨g, 0, none⟩ = some (.iface te pe) := by
  obtain ⟨g', t', cs, fuel, p, h1, h2, h3, h4⟩ := hr
  obtain rfl := Option.some.inj (hg.symm.trans h1)
  obtain rfl := Option.some.inj (ht.symm.trans h2)
  obtain ⟨te, pe, hc⟩ := iface_of_trod hu h4
  refine ⟨te, pe, ?_⟩
  have := World.var?_cell hg h3 0
  obtain ⟨cs⟩ := cs
  simp only at hc
  subst hc
  simpa using this

set_option maxRecDepth 100000 in
/-- from what the row lists to what the walk wants -/
theorem vars_of_laid {W : World} (h : laidMetH Tryd.prog Rows.fnParseLengthModelRow.laid W) : ∃ te pe, W.cell? ⟨1, 0, none⟩ = some (.iface te pe) := by
  rw [MakeChecks.laidMetH_plain _ _ _ (by kernel_rfl)] at h
  have hr := h.tail.tail.tail
  exact iface_cell (Lib.laidMet.reads hr (.head _)) (by kernel_rfl) (by kernel_rfl) Tryd.underlying34

set_option maxRecDepth 100000 in
theorem door_met (os : Os) (args : Array Value) : laidMetH Tryd.prog Rows.fnParseLengthModelRow.laid ((World.doorLaid Tryd.prog 400 os).forCall (fun _ _ => 0) ⟨#[], args, []⟩).memory :=
  laidMetH_of_parts3 (fuel := 8) (laidMet_of_run' 8 (by kernel_rfl) (by kernel_rfl)) (by kernel_rfl) (by kernel_rfl)

set_option maxRecDepth 100000 in
theorem lifted (os : Os) (started : os.Started) (H : Type) (enc : TypeId × Value → H) :
    ReturnsInHanded {} Tryd.checked os 3 .any (fun w args => (Rows.fnParseLengthModelSpec.pre enc Tryd.prog Tryd.f3 [] false w args ∧ laidMetH Tryd.prog Rows.fnParseLengthModelRow.laid w) ∧ sizedMet enc Tryd.prog Tryd.f3 (OpenSpec.ofChange Rows.fnParseLengthModelSpec) false w args)
      (Rows.fnParseLengthModelSpec.post enc Tryd.prog Tryd.f3 false true false false) := by
  refine returnsInHanded_of_change_and (C := Tryd.checked) (X := fun w _ => laidMetH Tryd.prog Rows.fnParseLengthModelRow.laid w) (fun _ _ _ hh h => h.of_heap hh) own started (by kernel_rfl) Tryd.func3
    (ChangeSpec.witness_shaped (enc := enc) (C := Tryd.checked) (os := os) (X := fun w _ => laidMetH Tryd.prog Rows.fnParseLengthModelRow.laid w) false (World.doorLaid Tryd.prog 400 os) #[.string ⟨#[]⟩] 8 rfl (World.shaped_of_RefB (by kernel_rfl) (by kernel_rfl)) (by kernel_rfl) (by kernel_rfl) (by kernel_rfl) (door_met os _)) ?_
  intro W base args ds gs before hval0 hW _ _ hL _
  obtain ⟨te, pe, hR⟩ := vars_of_laid hL
  have hval : ∀ (j : Nat) t v, Tryd.f3.params[j]? = some t → args[j]? = some v → Value.okWide Tryd.prog W .any base t v := hval0
  have hW' := hW
  obtain ⟨p, q, hA0, hV, rfl, hfz, hnd⟩ := hW
  have hA : DataW.TrodAll enc Tryd.prog W 0 (fun _ => true) true Tryd.f3.params.toList args.toList ds p := hA0
  rw [Tryd.params3] at hA hval
  obtain ⟨v0, d0, rfl, rfl, h0⟩ := trodAll_one hA
  obtain ⟨rfl, rfl⟩ := trodVars_none hV
  obtain ⟨s, rfl, rfl, rfl, hs⟩ := Go.ChangeMaps.open_string Tryd.underlying9 (hval 0 9 v0 rfl rfl) h0
  clear hA0 hval0
  refine (law_any s W (by unfold maxLen at hs; omega) te pe hR).mono fun e W' ⟨he, bel⟩ => ?_
  subst he
  exact ⟨_, rfl, _, _, _, [], [], [], hW', trodAll_mk1 (shut_bool Tryd.underlying4 _), trodAll_mk1 (Go.ChangeMaps.shut_string Tryd.underlying9 hs), rfl, bel.frame _, fun h => by cases h⟩

set_option maxRecDepth 100000 in
theorem row_holds : Rows.FnParseLengthModelSaid :=
  OpenClaim.holds_of_wide 3 Tryd.f3 rfl rfl rfl rfl rfl rfl rfl ⟨rfl, rfl, rfl, rfl, rfl⟩ rfl rfl rfl rfl rfl (by kernel_rfl) Tryd.func3 (by kernel_rfl)
    (of_decide_eq_true (by kernel_rfl)) (by unfold Func.isWrapper; first | (rw [if_pos (by decide +kernel)]; kernel_rfl) | (rw [if_neg (by decide +kernel)]; exact ⟨rfl, rfl⟩))
    (fun os started H enc _ => lifted os started H enc)

set_option maxRecDepth 100000 in
theorem lengthCard_holds : Rows.FnParseLengthModelCardSaid :=
  Claim7.holds_tied_plain_at .later [] [.data, .data, .data, .sentinel, .sentinel] true (true, "34425e97545460ad4c38be10ed7c2ac3bfa4cae09a445b3e2d9854f624ecbbd4") true
    row_holds (fun _ h => by cases h) (by kernel_rfl) (fun _ h => by cases h) fnParseLengthModel_row_tie rfl ⟨rfl, rfl⟩ (by kernel_rfl) rfl
    (fun f fn hf hfn => by
      obtain rfl : f = 3 := Option.some.inj ((show Tryd.prog.funcNamed "example.com/stipule/stipule/zzlaws_message_b1.FnParseLengthModel" = some 3 by kernel_rfl).symm.trans hf) |>.symm
      obtain rfl : fn = Tryd.f3 := (Option.some.inj (Tryd.func3.symm.trans hfn)).symm
      exact ⟨by kernel_rfl, fun j t ht => by
        rw [Tryd.params3] at ht
        have hm : t ∈ [9] := by simpa using Array.mem_of_getElem? ht
        have hall : ([9].all fun u => !Tryd.prog.wantsStandIn u) = true := by kernel_rfl
        exact (show Tryd.prog.wantsStandIn t = false by simpa using List.all_eq_true.1 hall t hm)⟩)
    (by kernel_rfl)
end Go.Proofs.Qxb6600278aDoor
