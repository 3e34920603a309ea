import Derived.Test.Qxb6001696aFmtStart
import Derived.Test.Qxb6001696aFmtErrf
import Derived.Deep.RegionWith
import Derived.RegionTactic
namespace Go.Proofs.Qxb6001696aFmt
open Go.RowKit Go.Extern.Stop Go.Stop Go.Extern

/-- the tier after a start -/
def tierTo (zs : List Int) (n : Nat) (t c : Int) : Int := if min t ((n : Int) - 1) < firstAt zs c n n then firstAt zs c n n else min t ((n : Int) - 1)
def failTo (zs : List Int) (n : Nat) (t c f : Int) : Int := if min t ((n : Int) - 1) < firstAt zs c n n then 0 else f

theorem hide {p : Prop} (h : p) : Hid p := h
theorem unhide {p : Prop} (h : Hid p) : p := h

theorem bcell {W w1 : World} (hb : Below W.heap.size W w1) : (∀ b o, b < W.heap.size → w1.cell? ⟨b, o, none⟩ = W.cell? ⟨b, o, none⟩) ∧ (∀ b o, b < W.heap.size → w1.frozen? ⟨b, o, none⟩ = W.frozen? ⟨b, o, none⟩) :=
  ⟨fun b o h => hb.cell (p := ⟨b, o, none⟩) h, fun b o h => hb.frozen (p := ⟨b, o, none⟩) h⟩

set_option maxHeartbeats 1000000 in
theorem start_ok (g n : Nat) (zs : List Int) (at_ f t same c : Int) (fp : ByteArray) (w : World) (hlim : n ≤ 1048576) (h1 : 1 ≤ n) (hrow : w.rowIs g 38 (n * 2) (tierCell zs))
    (hc0 : 0 ≤ c) (hc1 : c ≤ zs.getD (n - 1) 0) :
    Calls Tryf.prog 9 #[.agg #[.int .i64 0, .int .i64 0, .int .i64 0, .slice (some ⟨g, 0, none⟩) n n], .agg #[.int .i64 at_, .int .i64 f, .int .i64 t, .string fp, .int .i64 same], .int .i64 c] w fun e w' =>
      e = .returned (.tuple #[.agg #[.int .i64 at_, .int .i64 (failTo zs n t c f), .int .i64 (tierTo zs n t c), .string fp, .int .i64 same], .nilIface]) ∧ Below w.heap.size w w' := by
  have hlt := hrow.lt
  have hd : decide (c < 0) = false := decide_eq_false (by omega)
  have HR : Hid (w.rowIs g 38 (n * 2) (tierCell zs)) := hrow
  have hmax := fun W hW => maxc_any g n zs W hlim h1 hW
  have hon := fun W => onl_any g n t W hlim h1
  have hidx := fun W B hW hB hc => idx_any g n B zs c W hlim hW hB hc
  have HT : Hid (tierTo zs n t c = if min t ((n : Int) - 1) < firstAt zs c n n then firstAt zs c n n else min t ((n : Int) - 1)) := rfl
  have HFl : Hid (failTo zs n t c f = if min t ((n : Int) - 1) < firstAt zs c n n then 0 else f) := rfl
  clear hrow
  generalize zs.getD (n - 1) 0 = top at hc1 hmax
  generalize min t ((n : Int) - 1) = mt at hon HT HFl
  generalize firstAt zs c n n = r at hidx HT HFl
  generalize tierTo zs n t c = rt at HT ⊢
  generalize failTo zs n t c f = rf at HFl ⊢
  have HH := hide hmax
  have HO := hide hon
  have HI := hide hidx
  clear hmax hon hidx
  by_cases hgt : mt < r
  · have e1 : rt = r := by rw [HT.out, if_pos hgt]
    have e2 : rf = 0 := by rw [HFl.out, if_pos hgt]
    subst e1 e2
    clear HT HFl
    go_enter Tryf.func9, Tryf.ntmps9
    go_wp2
    go_region_with (go_at_call 13; refine ((unhide HH) _ ?_).mono ?_; exact ((((HR.out.alloc _).alloc _).alloc _).alloc _).drew; rintro e w' ⟨rfl, rfl⟩)
    all_goals
      go_wp2_with (first | (go_at_call 15; refine ((unhide HO) _).mono ?_; rintro e w' ⟨rfl, rfl⟩) | fail)
      refine ((unhide HI) _ _ ?_ ?_ ?_).mono ?_
      · exact ((((((HR.out.alloc _).alloc _).alloc _).alloc _).alloc _).alloc _).drew
      · simp
      · go_simp
      rintro e w1 ⟨rfl, hb⟩
      have hbw := hb.mono (B' := w.heap.size) (by simp; omega)
      have HBW : Hid (Below w.heap.size w w1) := (((((((Below.refl _ _).alloc (Nat.le_refl _) _).alloc (by simp) _).alloc (by simp; omega) _).alloc (by simp; omega) _).alloc (by simp; omega) _).alloc (by simp; omega) _).drew.trans hbw
      obtain ⟨hcw, hfw⟩ := bcell hb
      clear hbw hb
      go_wp2
      refine bodyPost_ret (v := .tuple #[.agg #[.int .i64 at_, .int .i64 0, .int .i64 rt, .string fp, .int .i64 same], .nilIface]) (by simp [results, Tryf.results9, go_sem, hcw]) rfl ⟨rfl, ?_⟩
      exact ((((((HBW.out.setCell (by simp) _).setCell (by simp) _).setCell (by simp; omega) _).setCell (by simp; omega) _).setCell (by simp; omega) _).setCell (by simp; omega) _).setCell (by simp; omega) _
  · have e1 : rt = mt := by rw [HT.out, if_neg hgt]
    have e2 : rf = f := by rw [HFl.out, if_neg hgt]
    subst e1 e2
    clear HT HFl
    go_enter Tryf.func9, Tryf.ntmps9
    go_wp2
    go_region_with (go_at_call 13; refine ((unhide HH) _ ?_).mono ?_; exact ((((HR.out.alloc _).alloc _).alloc _).alloc _).drew; rintro e w' ⟨rfl, rfl⟩)
    all_goals
      go_wp2_with (first | (go_at_call 15; refine ((unhide HO) _).mono ?_; rintro e w' ⟨rfl, rfl⟩) | fail)
      refine ((unhide HI) _ _ ?_ ?_ ?_).mono ?_
      · exact ((((((HR.out.alloc _).alloc _).alloc _).alloc _).alloc _).alloc _).drew
      · simp
      · go_simp
      rintro e w1 ⟨rfl, hb⟩
      have hbw := hb.mono (B' := w.heap.size) (by simp; omega)
      have HBW : Hid (Below w.heap.size w w1) := (((((((Below.refl _ _).alloc (Nat.le_refl _) _).alloc (by simp) _).alloc (by simp; omega) _).alloc (by simp; omega) _).alloc (by simp; omega) _).alloc (by simp; omega) _).drew.trans hbw
      obtain ⟨hcw, hfw⟩ := bcell hb
      clear hbw hb
      go_wp2
      refine bodyPost_ret (v := .tuple #[.agg #[.int .i64 at_, .int .i64 rf, .int .i64 rt, .string fp, .int .i64 same], .nilIface]) (by simp [results, Tryf.results9, go_sem, hcw]) rfl ⟨rfl, ?_⟩
      exact ((((HBW.out.setCell (by simp; omega) _).setCell (by simp; omega) _).setCell (by simp; omega) _).setCell (by simp; omega) _).setCell (by simp; omega) _
end Go.Proofs.Qxb6001696aFmt
