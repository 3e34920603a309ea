import Derived.Test.Qxb6600209aFmtLaid
import Derived.Test.Qxb6600209aFmtMatch3
import Derived.Test.Qxb6600209aFmtCards
import Derived.OpenShut
import Derived.ShutString
import Derived.ChangeOld
import Derived.Below
import Derived.Stop.JoinedTold
import Derived.SevenTiedAt
namespace Go.Proofs.Qxb6600209aFmt
namespace matchCard
open Go.ChangeShapes Go.WideShapes Go.ChangeAt Go.RowKit
open Go.Extern.Stop Go.Stop Go.Extern
set_option linter.unusedVariables false

theorem own : ownKnob Tryf.prog.godebug = none := by kernel_rfl
theorem laidOut : laidOutB Tryf.pinned.checked.prog = true := by kernel_rfl
theorem stops : Tryf.pinned.checked.prog.stops = ["fmt.errorf"] := by kernel_rfl
theorem stopKnobs : Tryf.pinned.checked.prog.stopKnobs = [] := by kernel_rfl
theorem quiet (os : Os) : Stop.quiet Tryf.pinned.checked.prog os := by
  intro k hk
  rw [stopKnobs] at hk
  cases hk

theorem fu_len (n : Nat) : ∀ (l cur : List UInt8), l.length ≤ n → ∀ x ∈ FU cur l, x.length ≤ cur.length + l.length := by
  induction n with
  | zero =>
    intro l cur hl x hx
    have : l = [] := List.length_eq_zero_iff.1 (by omega)
    subst this
    rw [FU_nil] at hx
    split at hx
    · cases hx
    · simp at hx; subst hx; omega
  | succ n ih =>
    intro l cur hl x hx
    match l with
    | [] =>
      rw [FU_nil] at hx
      split at hx
      · cases hx
      · simp at hx; subst hx; omega
    | b :: t =>
      by_cases h : Lib.headSpace (b :: t) = 0
      · rw [FU_zero _ _ _ h] at hx
        have := ih t (cur ++ [b]) (by simp at hl; omega) x hx
        simp at this ⊢
        omega
      · rw [FU_space _ _ _ h] at hx
        rcases List.mem_append.1 hx with hx | hx
        · split at hx
          · cases hx
          · simp at hx; subst hx; omega
        · have hd : ((b :: t).drop (Lib.headSpace (b :: t))).length ≤ n := by simp at hl ⊢; omega
          have := ih _ [] hd x hx
          simp at this ⊢
          omega

theorem field_len (l x : List UInt8) (h : x ∈ Lib.fieldsU l) : x.length ≤ l.length := by
  rw [fieldsU_FU] at h
  have := fu_len l.length l [] (Nat.le_refl _) x h
  simpa using this

/-- every slice that is not nil -/
theorem match_any (F : Interp) (bk off n c : Nat) (zs : List Int) (l : List UInt8) (w : World) (hln : l.length = n) (hn0 : n ≤ 9223372036854775807) (hl : ∀ i, i < l.length → .int .u8 ((l.map fun b => (b.toNat : Int)).getD i 0) = Value.int .u8 (zs.getD i 0)) (hF : F.answers w.tape) (hV : Vars w) (hbk : 1 ≤ n → bk < w.heap.size)
    (hc : ∀ j, j < n → w.cell? ⟨bk, off + j, none⟩ = some (.int .u8 (zs.getD j 0))) :
    Calls Tryf.prog 3 #[.slice (some ⟨bk, off, none⟩) n c] w fun e w' => e = .returned (.bool true) ∧ Below w.heap.size w w' := by
  by_cases hn : 131072 < n
  · exact (match_big _ n c w hn0 hn).mono fun e w' ⟨h1, h2⟩ => ⟨h1, by rw [h2]; exact Below.refl _ _⟩
  · by_cases hf : (Lib.fieldsU l).length = 2
    · match hfs : Lib.fieldsU l, hf with
      | [f0, f1], _ =>
        have g0 := field_len l f0 (by rw [hfs]; simp)
        have g1 := field_len l f1 (by rw [hfs]; simp)
        by_cases ha : ∃ a, Lib.atoiAll f0 = .ok a
        · obtain ⟨a, ha⟩ := ha
          by_cases hb : ∃ b, Lib.atoiAll f1 = .ok b
          · obtain ⟨b, hb⟩ := hb
            exact match_ok F bk off n c zs l w hln (by omega) hl hF hV hbk hc f0 f1 hfs (by omega) (by omega) a b ha hb
          · exact match_bad1 F bk off n c zs l w hln (by omega) hl hF hV hbk hc f0 f1 hfs (by omega) (by omega) a ha (fun v hv => hb ⟨v, hv⟩)
        · exact match_bad0 F bk off n c zs l w hln (by omega) hl hF hV hbk hc f0 f1 hfs (by omega) (by omega) (fun v hv => ha ⟨v, hv⟩)
    · exact match_count F bk off n c zs l w hln (by omega) hl hF hV hbk hc hf

theorem door_met (os : Os) (args : Array Value) : laidMetH Tryf.prog Rows.fnParseRangeMatchesModelRow.laid ((World.doorLaid Tryf.prog 400 os).forCall (fun _ _ => 0) ⟨#[], args, []⟩).memory :=
  laidMetH_of_parts3 (fuel := 8) (laidMet_of_run' 8 (by kernel_rfl) (by kernel_rfl)) (by kernel_rfl) (by kernel_rfl)

theorem witness_row (os : Os) {H : Type} (enc : TypeId × Value → H) :
    (OpenSpec.ofChange Rows.fnParseRangeMatchesModelSpec).preRow enc Tryf.prog Tryf.f3 [] false Rows.fnParseRangeMatchesModelRow.laid ((World.doorLaid Tryf.prog 400 os).forCall (fun _ _ => 0) ⟨#[], #[.slice none 0 0], []⟩).memory #[.slice none 0 0] :=
  OpenSpec.preRow_of_B rfl 8 (by kernel_rfl) (by kernel_rfl) (door_met os _)

theorem byte_of {z : Int} (h : (Lit.int .u8 z).wf = true) : 0 ≤ z ∧ z ≤ 255 := by
  have h1 : IntKind.u8.min = 0 := rfl
  have h2 : IntKind.u8.max = 255 := rfl
  simp only [Lit.wf, Bool.and_eq_true, decide_eq_true_eq] at h
  omega

theorem bytes_of (zs : List Int) (n : Nat) (hn : n ≤ zs.length) (hw : ∀ z ∈ zs, (Lit.int .u8 z).wf = true) :
    ∃ l : List UInt8, l.length = n ∧ ∀ i, i < l.length → .int .u8 ((l.map fun b => (b.toNat : Int)).getD i 0) = Value.int .u8 (zs.getD i 0) := by
  refine ⟨(zs.take n).map fun z => UInt8.ofNat z.toNat, by simp; omega, fun i hi => ?_⟩
  simp at hi
  have hz : i < zs.length := by omega
  have hb := byte_of (hw zs[i] (List.getElem_mem hz))
  have e : ((UInt8.ofNat (zs[i]).toNat).toNat : Int) = zs[i] := by
    rw [UInt8.toNat_ofNat']
    omega
  simp [List.getElem?_eq_getElem hz, hi]
  omega

set_option maxRecDepth 100000 in
set_option maxHeartbeats 1600000 in
theorem lifted (os : Os) (started : os.Started) (H : Type) (enc : TypeId × Value → H) :
    ReturnsInTold none {} Tryf.checked os 3 .any Input.okWide ((OpenSpec.ofChange Rows.fnParseRangeMatchesModelSpec).preRow enc Tryf.prog Tryf.f3 [] false Rows.fnParseRangeMatchesModelRow.laid) (fun F => ((OpenSpec.ofChange Rows.fnParseRangeMatchesModelSpec).at F).post enc Tryf.prog Tryf.f3 false true false false) (aloneAtReturn Tryf.prog) nothingAlways := by
  refine returnsInTold_of_row (C := Tryf.checked) (s := OpenSpec.ofChange Rows.fnParseRangeMatchesModelSpec) (by kernel_rfl) own started (by kernel_rfl) Tryf.func3
    (OpenSpec.witness_stopped_atRef (enc := enc) (C := Tryf.checked) false (World.doorLaid Tryf.prog 400 os) #[.slice none 0 0] rfl (by kernel_rfl) (by kernel_rfl) (by kernel_rfl) (witness_row os enc)) ?_
  intro F W base args ds gs before _ hF hval0 hW _ _ _ hL _
  have hV0 := vars_of_laid hL
  have hval : ∀ (j : Nat) t v, Tryf.f3.params[j]? = some t → args[j]? = some v → Value.okWide Tryf.prog W .any base t v := hval0
  have hW' := hW
  obtain ⟨p, q, hA0, hV, rfl, hfz, hnd⟩ := hW
  have hA : DataW.TrodAll enc Tryf.prog W 0 (fun _ => true) true Tryf.f3.params.toList args.toList ds p := hA0
  rw [Tryf.params3] at hA hval
  obtain ⟨v0, d0, rfl, rfl, h0⟩ := trodAll_one hA
  obtain ⟨rfl, rfl⟩ := trodVars_none hV
  obtain ⟨a0, len0, cap0, rfl⟩ := okWide_slice Tryf.underlying22 (hval 0 22 v0 rfl rfl)
  have k0 := h0
  have lt0 : ∀ x ∈ p, x.block < W.heap.size := by obtain ⟨m, hm⟩ := k0; exact DataW.trod_lt m _ _ _ hm
  clear hA0 hval0
  have hcall : Calls Tryf.prog 3 #[.slice a0 len0 cap0] W fun e w' => e = .returned (.bool true) ∧ Below W.heap.size W w' := by
    obtain ⟨fuel, hf⟩ := h0
    rcases open_ints Tryf.underlying22 Tryf.underlying5 (by kernel_rfl) hf with ⟨hcs, _⟩ | ⟨x, l, c, zs, hcs, _, hl, hm, hz, hx, hcell, hwz⟩
    · simp [Value.cells] at hcs
      obtain ⟨rfl, rfl, rfl⟩ := hcs
      exact match_nil F.told W hF hV0
    · simp [Value.cells] at hcs
      obtain ⟨rfl, rfl, rfl⟩ := hcs
      simp only [if_true] at hz
      unfold maxLen at hm
      obtain ⟨bs, hbl, hbs⟩ := bytes_of zs len0 (by omega) hwz
      obtain ⟨b, off, spot⟩ := x
      by_cases hl0 : len0 = 0
      · subst hl0
        have hbs0 : bs = [] := List.length_eq_zero_iff.1 hbl
        subst hbs0
        exact match_empty F.told _ cap0 W hF hV0
      · have hspot : spot = none := by simpa [Addr.add] using World.cell?_spot (hcell 0 (by omega))
        subst hspot
        have hb : b < W.heap.size := by
          have h := hcell 0 (by omega)
          rcases Nat.lt_or_ge b W.heap.size with hlt | hge
          · exact hlt
          · simp [World.cell?, Addr.add, Array.getElem?_eq_none hge] at h
        exact match_any F.told b off len0 cap0 zs bs W hbl (by omega) hbs hF hV0 (fun _ => hb) (fun j hj => by rw [← add_plain]; exact hcell j (by omega))
  refine hcall.mono fun e W' ⟨he, bel⟩ => ?_
  subst he
  exact ⟨_, rfl, _, _, _, [], _, [], hW', trodAll_mk1 (shut_bool Tryf.underlying4 _), trodAll_mk1 (Below.trod laidOut (by kernel_rfl) (of_decide_eq_true (by kernel_rfl)) k0 bel lt0), rfl, bel.frame _, fun h => by cases h⟩
end matchCard

theorem matchCard_holds : Rows.FnParseRangeMatchesModelToldSaid :=
  Claim7.holds_of_told_tied_any_at .later 3 Tryf.f3 "fmt.errorf" [] [] _ _ _ _ _ (by kernel_rfl) rfl rfl rfl matchCard.laidOut (by kernel_rfl) rfl ⟨rfl, rfl, rfl, rfl, rfl, rfl, rfl⟩ rfl rfl (by kernel_rfl) (by kernel_rfl) Tryf.func3 (by kernel_rfl)
    (of_decide_eq_true (by kernel_rfl)) (by unfold Func.isWrapper; first | (rw [if_pos (by decide +kernel)]; kernel_rfl) | (rw [if_neg (by decide +kernel)]; exact ⟨rfl, rfl⟩)) matchCard.stops.symm rfl matchCard.stopKnobs.symm (by kernel_rfl)
    (by kernel_rfl) (by kernel_rfl) (by kernel_rfl) (by kernel_rfl) (by kernel_rfl) (by kernel_rfl) (by kernel_rfl) (by kernel_rfl) (by kernel_rfl) rfl (by kernel_rfl) rfl rfl
    rfl rfl
    rfl (by kernel_rfl) (by kernel_rfl) (by kernel_rfl) (by decide) (by kernel_rfl) fnParseRangeMatchesModel_row_tie
    (OpenClaim.moreEntering_of (by kernel_rfl) (by kernel_rfl) (by kernel_rfl) (by kernel_rfl) (by kernel_rfl) (by kernel_rfl) (by kernel_rfl) (by kernel_rfl) (by kernel_rfl) (by kernel_rfl))
    ⟨_, WideRow.started_initial, matchCard.quiet _⟩
    (fun os started _ H enc _ => matchCard.lifted os started H enc)
end Go.Proofs.Qxb6600209aFmt
