import Derived.Test.Qxb6001696aFmtStart3
import Derived.Deep.Cut
import Derived.Deep.CutRange
namespace Go.Proofs.Qxb6001696aFmt
open Go.RowKit Go.Extern.Stop Go.Stop Go.Extern

set_option maxHeartbeats 2000000 in
theorem start_over (F : Interp) (g n : Nat) (zs : List Int) (at_ f t same c : Int) (fp : ByteArray) (w : World) (hF : F.answers w.tape) (hlim : n ≤ 1048576) (h1 : 1 ≤ n) (hrow : w.rowIs g 38 (n * 2) (tierCell zs))
    (hc0 : 0 ≤ c) (hc1 : zs.getD (n - 1) 0 < c) :
    Calls Tryf.prog 9 #[.agg #[.int .i64 0, .int .i64 0, .int .i64 0, .slice (some ⟨g, 0, none⟩) n n], .agg #[.int .i64 at_, .int .i64 f, .int .i64 t, .string fp, .int .i64 same], .int .i64 c] w fun e w' =>
      (∃ a, e = .returned (.tuple #[.agg #[.int .i64 0, .int .i64 0, .int .i64 0, .string ⟨#[]⟩, .int .i64 0], .iface 47 (.pointer (some a))])) ∧ Below w.heap.size w w' := by
  have hlt := hrow.lt
  have hd : decide (c < 0) = false := decide_eq_false (by omega)
  have HR : Hid (w.rowIs g 38 (n * 2) (tierCell zs)) := hrow
  have hmax := fun W hW => maxc_any g n zs W hlim h1 hW
  clear hrow
  generalize zs.getD (n - 1) 0 = top at hc1 hmax
  have HH := hide hmax
  clear hmax
  go_enter Tryf.func9, Tryf.ntmps9
  go_wp2
  go_cut [16] from 9 to 16 (fun s wx => s = .bool true ∧ wx = (((((w.alloc (.cells #[.int .i64 0, .int .i64 0, .int .i64 0, .slice (some ⟨g, 0, none⟩) n n] 27)).alloc (.cells #[.int .i64 at_, .int .i64 f, .int .i64 t, .string fp, .int .i64 same] 30)).alloc (.cells #[.int .i64 c] 3)).alloc (.cells #[.int .i64 0, .int .i64 0, .int .i64 0, .string ⟨#[]⟩, .int .i64 0] 30)).alloc (.cells #[.int .i64 0, .int .i64 0, .int .i64 0, .slice (some ⟨g, 0, none⟩) n n] 27)).drew)
  case first =>
    go_region_with (go_at_call 13; refine ((unhide HH) _ ?_).mono ?_; exact ((((HR.out.alloc _).alloc _).alloc _).alloc _).drew; rintro e w' ⟨rfl, rfl⟩)
    all_goals (go_wp2_with fail; go_meet; exact ⟨rfl, rfl⟩)
  case rest =>
  obtain ⟨rfl, rfl⟩ := hcut
  all_goals go_wp2
  all_goals
   go_region_with (first | (go_at_call 13; refine ((unhide HH) _ ?_).mono ?_; (repeat (first | exact HR.out | refine World.rowIs.drew ?_ | refine World.rowIs.alloc ?_ _)); rintro e w' ⟨rfl, rfl⟩) | (go_at_call 14; refine (errorf_any F top c _ _ (by exact hF) (by go_simp) (by go_simp)).mono ?_; rintro e w' ⟨rfl, txt, rfl⟩))
  all_goals
    go_wp2
    refine bodyPost_ret (v := .tuple #[.agg #[.int .i64 0, .int .i64 0, .int .i64 0, .string ⟨#[]⟩, .int .i64 0], .iface 47 (.pointer (some ⟨w.heap.size + 1 + 1 + 1 + 1 + 1 + 1 + 1, 0, none⟩))]) (by simp [results, Tryf.results9, go_sem]) rfl ⟨⟨_, rfl⟩, ?_⟩
    repeat (first | exact Below.refl _ _ | refine Below.drew ?_ | refine Below.alloc ?_ (by first | exact Nat.le_refl _ | (simp; done) | (simp; omega)) _)
end Go.Proofs.Qxb6001696aFmt
