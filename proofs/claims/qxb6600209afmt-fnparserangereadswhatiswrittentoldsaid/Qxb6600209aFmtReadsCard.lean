import Derived.Test.Qxb6600209aFmtLaid
import Derived.Test.Qxb6600209aFmtReads
import Derived.Test.Qxb6600209aFmtCards
import Derived.OpenShut
import Derived.ShutString
import Derived.ChangeOld
import Derived.Below
import Derived.Stop.JoinedTold
import Derived.SevenTiedAt
namespace Go.Proofs.Qxb6600209aFmt
namespace readsCard
open Go.ChangeShapes Go.WideShapes Go.ChangeAt Go.RowKit
open Go.Extern.Stop Go.Stop Go.Extern
set_option linter.unusedVariables false

theorem own : ownKnob Tryf.prog.godebug = none := by kernel_rfl
theorem laidOut : laidOutB Tryf.pinned.checked.prog = true := by kernel_rfl
theorem stops : Tryf.pinned.checked.prog.stops = ["fmt.errorf"] := by kernel_rfl
theorem stopKnobs : Tryf.pinned.checked.prog.stopKnobs = [] := by kernel_rfl
theorem quiet (os : Os) : Stop.quiet Tryf.pinned.checked.prog os := by
  intro k hk
  rw [stopKnobs] at hk
  cases hk

theorem trodAll_six {H : Type} {enc : TypeId × Value → H} {P : Program} {w : World} {base : Nat} {spare : Nat → Bool} {held : Bool} {t0 t1 t2 t3 t4 t5 : TypeId} {args : Array Value} {ds : List (DataW H)} {ps : List MemPlace} (h : DataW.TrodAll enc P w base spare held [t0, t1, t2, t3, t4, t5] args.toList ds ps) :
    ∃ v0 v1 v2 v3 v4 v5 d0 d1 d2 d3 d4 d5 p0 p1 p2 p3 p4 p5, args = #[v0, v1, v2, v3, v4, v5] ∧ ds = [d0, d1, d2, d3, d4, d5] ∧ ps = p0 ++ (p1 ++ (p2 ++ (p3 ++ (p4 ++ p5)))) ∧ DataW.Trod enc P w base spare held t0 v0 d0 p0 ∧ DataW.Trod enc P w base spare held t1 v1 d1 p1 ∧ DataW.Trod enc P w base spare held t2 v2 d2 p2 ∧
      DataW.Trod enc P w base spare held t3 v3 d3 p3 ∧ DataW.Trod enc P w base spare held t4 v4 d4 p4 ∧ DataW.Trod enc P w base spare held t5 v5 d5 p5 := by
  obtain ⟨v0, vs0, d0, ds0, p0, q0, hargs, rfl, rfl, h0, hr0⟩ := trodAll_cons h
  obtain ⟨v1, vs1, d1, ds1, p1, q1, rfl, rfl, rfl, h1, hr1⟩ := trodAll_cons hr0
  obtain ⟨v2, vs2, d2, ds2, p2, q2, rfl, rfl, rfl, h2, hr2⟩ := trodAll_cons hr1
  obtain ⟨v3, vs3, d3, ds3, p3, q3, rfl, rfl, rfl, h3, hr3⟩ := trodAll_cons hr2
  obtain ⟨v4, vs4, d4, ds4, p4, q4, rfl, rfl, rfl, h4, hr4⟩ := trodAll_cons hr3
  obtain ⟨v5, vs5, d5, ds5, p5, q5, rfl, rfl, rfl, h5, hr5⟩ := trodAll_cons hr4
  obtain ⟨rfl, rfl, rfl⟩ := trodAll_nil hr5
  exact ⟨v0, v1, v2, v3, v4, v5, d0, d1, d2, d3, d4, d5, p0, p1, p2, p3, p4, p5, by cases args; simp_all, rfl, by simp, h0, h1, h2, h3, h4, h5⟩

theorem trodAll_mk6 {H : Type} {enc : TypeId × Value → H} {P : Program} {w : World} {base : Nat} {spare : Nat → Bool} {held : Bool} {t0 t1 t2 t3 t4 t5 : TypeId} {v0 v1 v2 v3 v4 v5 : Value} {d0 d1 d2 d3 d4 d5 : DataW H} {p0 p1 p2 p3 p4 p5 : List MemPlace}
    (h0 : DataW.Trod enc P w base spare held t0 v0 d0 p0) (h1 : DataW.Trod enc P w base spare held t1 v1 d1 p1) (h2 : DataW.Trod enc P w base spare held t2 v2 d2 p2) (h3 : DataW.Trod enc P w base spare held t3 v3 d3 p3) (h4 : DataW.Trod enc P w base spare held t4 v4 d4 p4) (h5 : DataW.Trod enc P w base spare held t5 v5 d5 p5) :
    DataW.TrodAll enc P w base spare held [t0, t1, t2, t3, t4, t5] [v0, v1, v2, v3, v4, v5] [d0, d1, d2, d3, d4, d5] (p0 ++ (p1 ++ (p2 ++ (p3 ++ (p4 ++ p5))))) :=
  ⟨p0, _, h0, ⟨p1, _, h1, ⟨p2, _, h2, trodAll_mk3 h3 h4 h5, rfl⟩, rfl⟩, rfl⟩

theorem i64_of {z : Int} (h : (Lit.int .i64 z).wf = true) : -9223372036854775808 ≤ z ∧ z ≤ 9223372036854775807 := by
  have h1 : IntKind.i64.min = -9223372036854775808 := rfl
  have h2 : IntKind.i64.max = 9223372036854775807 := rfl
  simp only [Lit.wf, Bool.and_eq_true, decide_eq_true_eq] at h
  omega

theorem u32_of {z : Int} (h : (Lit.int .u32 z).wf = true) : ∃ n : Nat, z = n ∧ n < 4294967296 := by
  have h1 : IntKind.u32.min = 0 := rfl
  have h2 : IntKind.u32.max = 4294967295 := rfl
  simp only [Lit.wf, Bool.and_eq_true, decide_eq_true_eq] at h
  exact ⟨z.toNat, by omega, by omega⟩

theorem u8_of {z : Int} (h : (Lit.int .u8 z).wf = true) : ∃ n : Nat, z = n ∧ n < 256 := by
  have h1 : IntKind.u8.min = 0 := rfl
  have h2 : IntKind.u8.max = 255 := rfl
  simp only [Lit.wf, Bool.and_eq_true, decide_eq_true_eq] at h
  exact ⟨z.toNat, by omega, by omega⟩

theorem door_met (os : Os) (args : Array Value) : laidMetH Tryf.prog Rows.fnParseRangeReadsWhatIsWrittenRow.laid ((World.doorLaid Tryf.prog 400 os).forCall (fun _ _ => 0) ⟨#[], args, []⟩).memory :=
  laidMetH_of_parts3 (fuel := 8) (laidMet_of_run' 8 (by kernel_rfl) (by kernel_rfl)) (by kernel_rfl) (by kernel_rfl)

theorem witness_row (os : Os) {H : Type} (enc : TypeId × Value → H) :
    (OpenSpec.ofChange Rows.fnParseRangeReadsWhatIsWrittenSpec).preRow enc Tryf.prog Tryf.f4 [] false Rows.fnParseRangeReadsWhatIsWrittenRow.laid ((World.doorLaid Tryf.prog 400 os).forCall (fun _ _ => 0) ⟨#[], #[.int .i64 0, .int .i64 0, .int .u32 0, .int .u32 0, .int .u32 0, .int .u8 0], []⟩).memory #[.int .i64 0, .int .i64 0, .int .u32 0, .int .u32 0, .int .u32 0, .int .u8 0] :=
  OpenSpec.preRow_of_B rfl 8 (by kernel_rfl) (by kernel_rfl) (door_met os _)

set_option maxRecDepth 100000 in
set_option maxHeartbeats 1600000 in
theorem lifted (os : Os) (started : os.Started) (H : Type) (enc : TypeId × Value → H) :
    ReturnsInTold none {} Tryf.checked os 4 .any Input.okWide ((OpenSpec.ofChange Rows.fnParseRangeReadsWhatIsWrittenSpec).preRow enc Tryf.prog Tryf.f4 [] false Rows.fnParseRangeReadsWhatIsWrittenRow.laid) (fun F => ((OpenSpec.ofChange Rows.fnParseRangeReadsWhatIsWrittenSpec).at F).post enc Tryf.prog Tryf.f4 false true false false) (aloneAtReturn Tryf.prog) nothingAlways := by
  refine returnsInTold_of_row (C := Tryf.checked) (s := OpenSpec.ofChange Rows.fnParseRangeReadsWhatIsWrittenSpec) (by kernel_rfl) own started (by kernel_rfl) Tryf.func4
    (OpenSpec.witness_stopped_atRef (enc := enc) (C := Tryf.checked) false (World.doorLaid Tryf.prog 400 os) #[.int .i64 0, .int .i64 0, .int .u32 0, .int .u32 0, .int .u32 0, .int .u8 0] rfl (by kernel_rfl) (by kernel_rfl) (by kernel_rfl) (witness_row os enc)) ?_
  intro F W base args ds gs before _ hF hval0 hW _ _ _ hL _
  have hV0 := vars_of_laid hL
  have hval : ∀ (j : Nat) t v, Tryf.f4.params[j]? = some t → args[j]? = some v → Value.okWide Tryf.prog W .any base t v := hval0
  have hW' := hW
  obtain ⟨p, q, hA0, hV, rfl, hfz, hnd⟩ := hW
  have hA : DataW.TrodAll enc Tryf.prog W 0 (fun _ => true) true Tryf.f4.params.toList args.toList ds p := hA0
  rw [Tryf.params4] at hA hval
  obtain ⟨v0, v1, v2, v3, v4, v5, d0, d1, d2, d3, d4, d5, p0, p1, p2, p3, p4, p5, rfl, rfl, rfl, h0, h1, h2, h3, h4, h5⟩ := trodAll_six hA
  obtain ⟨rfl, rfl⟩ := trodVars_none hV
  obtain ⟨a, rfl, rfl, rfl, wa⟩ := open_int Tryf.underlying3 (hval 0 3 v0 rfl rfl) h0
  obtain ⟨b, rfl, rfl, rfl, wb⟩ := open_int Tryf.underlying3 (hval 1 3 v1 rfl rfl) h1
  obtain ⟨x, rfl, rfl, rfl, wx⟩ := open_int Tryf.underlying33 (hval 2 33 v2 rfl rfl) h2
  obtain ⟨y, rfl, rfl, rfl, wy⟩ := open_int Tryf.underlying33 (hval 3 33 v3 rfl rfl) h3
  obtain ⟨t, rfl, rfl, rfl, wt⟩ := open_int Tryf.underlying33 (hval 4 33 v4 rfl rfl) h4
  obtain ⟨s, rfl, rfl, rfl, ws⟩ := open_int Tryf.underlying5 (hval 5 5 v5 rfl rfl) h5
  clear hA0 hval0
  have ha := i64_of wa
  have hb := i64_of wb
  obtain ⟨nx, rfl, hx⟩ := u32_of wx
  obtain ⟨ny, rfl, hy⟩ := u32_of wy
  obtain ⟨nt, rfl, ht⟩ := u32_of wt
  obtain ⟨ns, rfl, hs⟩ := u8_of ws
  refine (reads_any a b nx ny nt ns W ha.1 ha.2 hb.1 hb.2 hx hy ht hs hV0).mono fun e W' ⟨he, bel⟩ => ?_
  subst he
  exact ⟨_, rfl, _, _, _, [], [], [], hW', trodAll_mk1 (shut_bool Tryf.underlying4 _), trodAll_mk6 (shut_int Tryf.underlying3 wa) (shut_int Tryf.underlying3 wb) (shut_int Tryf.underlying33 wx) (shut_int Tryf.underlying33 wy) (shut_int Tryf.underlying33 wt) (shut_int Tryf.underlying5 ws), rfl, bel.frame _, fun h => by cases h⟩
end readsCard

theorem readsCard_holds : Rows.FnParseRangeReadsWhatIsWrittenToldSaid :=
  Claim7.holds_of_told_tied_any_at .later 4 Tryf.f4 "fmt.errorf" [] [] _ _ _ _ _ (by kernel_rfl) rfl rfl rfl readsCard.laidOut (by kernel_rfl) rfl ⟨rfl, rfl, rfl, rfl, rfl, rfl, rfl⟩ rfl rfl (by kernel_rfl) (by kernel_rfl) Tryf.func4 (by kernel_rfl)
    (of_decide_eq_true (by kernel_rfl)) (by unfold Func.isWrapper; first | (rw [if_pos (by decide +kernel)]; kernel_rfl) | (rw [if_neg (by decide +kernel)]; exact ⟨rfl, rfl⟩)) readsCard.stops.symm rfl readsCard.stopKnobs.symm (by kernel_rfl)
    (by kernel_rfl) (by kernel_rfl) (by kernel_rfl) (by kernel_rfl) (by kernel_rfl) (by kernel_rfl) (by kernel_rfl) (by kernel_rfl) (by kernel_rfl) rfl (by kernel_rfl) rfl rfl
    rfl rfl
    rfl (by kernel_rfl) (by kernel_rfl) (by kernel_rfl) (by decide) (by kernel_rfl) fnParseRangeReadsWhatIsWritten_row_tie
    (OpenClaim.moreEntering_of (by kernel_rfl) (by kernel_rfl) (by kernel_rfl) (by kernel_rfl) (by kernel_rfl) (by kernel_rfl) (by kernel_rfl) (by kernel_rfl) (by kernel_rfl) (by kernel_rfl))
    ⟨_, WideRow.started_initial, readsCard.quiet _⟩
    (fun os started _ H enc _ => readsCard.lifted os started H enc)
end Go.Proofs.Qxb6600209aFmt
