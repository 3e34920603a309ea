import Derived.Test.Qxb6001696aFmtRefuse
namespace Go.Proofs.Qxb6001696aFmt
open Go.RowKit Go.Extern.Stop Go.Stop Go.Extern

set_option maxRecDepth 100000 in
set_option maxHeartbeats 4000000 in
theorem refuse_ok (bk off n c : Nat) (zs : List Int) (at_ f t same a : Int) (fp : ByteArray) (w : World) (h1 : 1 ≤ n) (hn : n ≤ 131072) (hm : fp.size ≤ 1048576) (hs : 8 * n + fp.size ≤ 1048576) (hbk : bk < w.heap.size)
    (hc : ∀ j, j < n → w.cell? ⟨bk, off + j, none⟩ = some (.int .i64 (zs.getD j 0))) (ha0 : 0 ≤ a) (ha1 : a ≤ zs.getD (n - 1) 0) :
    Calls Tryf.prog 3 #[.slice (some ⟨bk, off, none⟩) n c, .int .i64 at_, .int .i64 f, .int .i64 t, .string fp, .int .i64 same, .int .i64 a] w fun e w' => e = .returned (.bool true) ∧ Below w.heap.size w w' := by
  have hby := bytes6 (some ⟨bk, off, none⟩) n c at_ f t same a fp w (by omega) (by omega)
  rw [decide_eq_true (by omega)] at hby
  have hcl := clone_any bk off n c zs w (by omega) hbk hc
  have hbud := fun b W hb hc => budget_any b n zs W (by omega) hb hc
  have hA := fun g W hr => start_ok g n zs at_ f t same a fp W (by omega) h1 hr ha0 ha1
  obtain ⟨k, hkn, ek, hris, hways⟩ := start_ways zs n t a f h1 ha1
  have hrs := fun b W hc => rising_any b n n zs W (by omega) hc
  clear hc
  obtain ⟨m, hnm⟩ : ∃ m : Nat, (n : Int) - 1 = m := ⟨n - 1, by omega⟩
  have hmn : m < n := by omega
  rw [show n - 1 = m from by omega] at ha1
  have HCL := hide hcl
  have HBY := hide hby
  have HBud := hide hbud
  clear hcl hby hbud
  have d1 : decide ((131072 : Int) < (n : Int)) = false := decide_eq_false (by omega)
  have d2 : decide ((1048576 : Int) < (fp.size : Int)) = false := decide_eq_false (by omega)
  have d3 : decide ((1048576 : Int) < 8 * (n : Int) + (fp.size : Int)) = false := decide_eq_false (by omega)
  generalize htop : zs.getD m 0 = top at ha1
  have HTOP := hide htop
  clear htop
  rw [ek] at hA
  clear ek
  have HA := hide hA
  have HRS := hide hrs
  have HRI := hide hris
  clear hA hrs hris
  generalize hzk : zs.getD k 0 = zk at HRI
  have HZK := hide hzk
  clear hzk
  have b1 : (k : Int) < (n : Int) := by omega
  have b2 : (0 : Int) ≤ (k : Int) := by omega
  rcases hways with ⟨g1, g2, g3⟩ | ⟨g1, g2, g3, g4⟩ | ⟨g1, g2⟩ | ⟨g1, g2⟩
  · obtain rfl : m = k := by omega
    rw [g3] at HA
    clear g3 g2
    go_enter Tryf.func3, Tryf.ntmps3
    go_wp2_with (first | (go_at_call 6; refine (unhide HBY).mono ?_; rintro e w' ⟨rfl, hw⟩; subst w') | fail)
    refine (unhide HCL).mono ?_
    rintro e w1 ⟨rfl, hr1, hB1, hz1⟩
    have hx1 := hr1.cell (i := m) (by omega)
    rw [HTOP.out] at hx1
    have HR1 := hide hr1
    have HB1 := hide hB1
    have HZ1 := hide hz1
    clear hr1 hB1 hz1
    go_wp2_with fail
    refine ((unhide HBud) _ _ (by have := HZ1.out; omega) (fun j hj => (unhide HR1).cell hj)).mono ?_
    rintro e w2 ⟨rfl, hr2, hB2, hz2⟩
    have HR2 := hide hr2
    have HB2 := hide hB2
    have HZ2 := hide hz2
    have HW2 : Hid (Below w.heap.size w w2) := HB1.out.trans (hB2.mono (by have := HZ1.out; omega))
    have HRC2 : Hid (w2.rowIs w.heap.size 3 n (fun j => .int .i64 (zs.getD j 0))) := row_below HR1.out hB2
    have hlw2 : w.heap.size ≤ w2.heap.size := HW2.out.size
    clear hr2 hB2 hz2 HBud HCL HBY HR1 HZ1 HB1 HB2 HZ2 hx1
    generalize w1.heap.size + 1 = G at HR2 ⊢
    go_wp2_with fail
    refine ((unhide HA) _ _ (((unhide HR2).alloc _).alloc _)).mono ?_
    rintro e w3 ⟨rfl, hB3⟩
    have HW3 : Hid (Below w.heap.size w w3) := ((HW2.out.alloc hlw2 _).alloc (by simp; omega) _).trans (hB3.mono (by simp; omega))
    have HRC3 : Hid (w3.rowIs w.heap.size 3 n (fun j => .int .i64 (zs.getD j 0))) := row_below ((HRC2.out.alloc _).alloc _) hB3
    have hlw3 : w.heap.size ≤ w3.heap.size := HW3.out.size
    have hgl3 := HRC3.out.lt
    clear hB3 HW2 HR2 HRC2
    have hxk := HRC3.out.cell (i := m) (by omega)
    simp only [HZK.out] at hxk
    go_wp2_with fail
    refine ((unhide HRS) _ _ (fun j hj => (HRC3.out.alloc _).cell hj)).mono ?_
    rintro e w4 ⟨⟨r, rfl, hr⟩, q, rfl⟩
    cases r with
    | false =>
      clear hr
      go_wp2_with fail
      go_ret
      exact ⟨rfl, drewN_below (HW3.out.alloc hlw3 _) _⟩
    | true =>
      have hle : a ≤ zk := HRI.out (hr rfl)
      clear hr
      go_wp2_with fail
      go_ret
      exact ⟨rfl, drewN_below (HW3.out.alloc hlw3 _) _⟩
  · rw [g4] at HA
    clear g4
    go_enter Tryf.func3, Tryf.ntmps3
    go_wp2_with (first | (go_at_call 6; refine (unhide HBY).mono ?_; rintro e w' ⟨rfl, hw⟩; subst w') | fail)
    refine (unhide HCL).mono ?_
    rintro e w1 ⟨rfl, hr1, hB1, hz1⟩
    have hx1 := hr1.cell (i := m) (by omega)
    rw [HTOP.out] at hx1
    have HR1 := hide hr1
    have HB1 := hide hB1
    have HZ1 := hide hz1
    clear hr1 hB1 hz1
    go_wp2_with fail
    refine ((unhide HBud) _ _ (by have := HZ1.out; omega) (fun j hj => (unhide HR1).cell hj)).mono ?_
    rintro e w2 ⟨rfl, hr2, hB2, hz2⟩
    have HR2 := hide hr2
    have HB2 := hide hB2
    have HZ2 := hide hz2
    have HW2 : Hid (Below w.heap.size w w2) := HB1.out.trans (hB2.mono (by have := HZ1.out; omega))
    have HRC2 : Hid (w2.rowIs w.heap.size 3 n (fun j => .int .i64 (zs.getD j 0))) := row_below HR1.out hB2
    have hlw2 : w.heap.size ≤ w2.heap.size := HW2.out.size
    clear hr2 hB2 hz2 HBud HCL HBY HR1 HZ1 HB1 HB2 HZ2 hx1
    generalize w1.heap.size + 1 = G at HR2 ⊢
    go_wp2_with fail
    refine ((unhide HA) _ _ (((unhide HR2).alloc _).alloc _)).mono ?_
    rintro e w3 ⟨rfl, hB3⟩
    have HW3 : Hid (Below w.heap.size w w3) := ((HW2.out.alloc hlw2 _).alloc (by simp; omega) _).trans (hB3.mono (by simp; omega))
    have HRC3 : Hid (w3.rowIs w.heap.size 3 n (fun j => .int .i64 (zs.getD j 0))) := row_below ((HRC2.out.alloc _).alloc _) hB3
    have hlw3 : w.heap.size ≤ w3.heap.size := HW3.out.size
    have hgl3 := HRC3.out.lt
    clear hB3 HW2 HR2 HRC2
    have hxk := HRC3.out.cell (i := k) (by omega)
    simp only [HZK.out] at hxk
    go_wp2_with fail
    refine ((unhide HRS) _ _ (fun j hj => (HRC3.out.alloc _).cell hj)).mono ?_
    rintro e w4 ⟨⟨r, rfl, hr⟩, q, rfl⟩
    cases r with
    | false =>
      clear hr
      go_wp2_with fail
      go_ret
      exact ⟨rfl, drewN_below (HW3.out.alloc hlw3 _) _⟩
    | true =>
      have hle : a ≤ zk := HRI.out (hr rfl)
      clear hr
      go_wp2_with fail
      go_ret
      exact ⟨rfl, drewN_below (HW3.out.alloc hlw3 _) _⟩
  · subst g1
    rw [g2] at HA
    clear g2
    go_enter Tryf.func3, Tryf.ntmps3
    go_wp2_with (first | (go_at_call 6; refine (unhide HBY).mono ?_; rintro e w' ⟨rfl, hw⟩; subst w') | fail)
    refine (unhide HCL).mono ?_
    rintro e w1 ⟨rfl, hr1, hB1, hz1⟩
    have hx1 := hr1.cell (i := m) (by omega)
    rw [HTOP.out] at hx1
    have HR1 := hide hr1
    have HB1 := hide hB1
    have HZ1 := hide hz1
    clear hr1 hB1 hz1
    go_wp2_with fail
    refine ((unhide HBud) _ _ (by have := HZ1.out; omega) (fun j hj => (unhide HR1).cell hj)).mono ?_
    rintro e w2 ⟨rfl, hr2, hB2, hz2⟩
    have HR2 := hide hr2
    have HB2 := hide hB2
    have HZ2 := hide hz2
    have HW2 : Hid (Below w.heap.size w w2) := HB1.out.trans (hB2.mono (by have := HZ1.out; omega))
    have HRC2 : Hid (w2.rowIs w.heap.size 3 n (fun j => .int .i64 (zs.getD j 0))) := row_below HR1.out hB2
    have hlw2 : w.heap.size ≤ w2.heap.size := HW2.out.size
    clear hr2 hB2 hz2 HBud HCL HBY HR1 HZ1 HB1 HB2 HZ2 hx1
    generalize w1.heap.size + 1 = G at HR2 ⊢
    go_wp2_with fail
    refine ((unhide HA) _ _ (((unhide HR2).alloc _).alloc _)).mono ?_
    rintro e w3 ⟨rfl, hB3⟩
    have HW3 : Hid (Below w.heap.size w w3) := ((HW2.out.alloc hlw2 _).alloc (by simp; omega) _).trans (hB3.mono (by simp; omega))
    have HRC3 : Hid (w3.rowIs w.heap.size 3 n (fun j => .int .i64 (zs.getD j 0))) := row_below ((HRC2.out.alloc _).alloc _) hB3
    have hlw3 : w.heap.size ≤ w3.heap.size := HW3.out.size
    have hgl3 := HRC3.out.lt
    clear hB3 HW2 HR2 HRC2
    have hxk := HRC3.out.cell (i := k) (by omega)
    simp only [HZK.out] at hxk
    go_wp2_with fail
    refine ((unhide HRS) _ _ (fun j hj => (HRC3.out.alloc _).cell hj)).mono ?_
    rintro e w4 ⟨⟨r, rfl, hr⟩, q, rfl⟩
    cases r with
    | false =>
      clear hr
      go_wp2_with fail
      go_ret
      exact ⟨rfl, drewN_below (HW3.out.alloc hlw3 _) _⟩
    | true =>
      have hle : a ≤ zk := HRI.out (hr rfl)
      clear hr
      go_wp2_with fail
      go_ret
      exact ⟨rfl, drewN_below (HW3.out.alloc hlw3 _) _⟩
  · rw [g2] at HA
    clear g2
    go_enter Tryf.func3, Tryf.ntmps3
    go_wp2_with (first | (go_at_call 6; refine (unhide HBY).mono ?_; rintro e w' ⟨rfl, hw⟩; subst w') | fail)
    refine (unhide HCL).mono ?_
    rintro e w1 ⟨rfl, hr1, hB1, hz1⟩
    have hx1 := hr1.cell (i := m) (by omega)
    rw [HTOP.out] at hx1
    have HR1 := hide hr1
    have HB1 := hide hB1
    have HZ1 := hide hz1
    clear hr1 hB1 hz1
    go_wp2_with fail
    refine ((unhide HBud) _ _ (by have := HZ1.out; omega) (fun j hj => (unhide HR1).cell hj)).mono ?_
    rintro e w2 ⟨rfl, hr2, hB2, hz2⟩
    have HR2 := hide hr2
    have HB2 := hide hB2
    have HZ2 := hide hz2
    have HW2 : Hid (Below w.heap.size w w2) := HB1.out.trans (hB2.mono (by have := HZ1.out; omega))
    have HRC2 : Hid (w2.rowIs w.heap.size 3 n (fun j => .int .i64 (zs.getD j 0))) := row_below HR1.out hB2
    have hlw2 : w.heap.size ≤ w2.heap.size := HW2.out.size
    clear hr2 hB2 hz2 HBud HCL HBY HR1 HZ1 HB1 HB2 HZ2 hx1
    generalize w1.heap.size + 1 = G at HR2 ⊢
    go_wp2_with fail
    refine ((unhide HA) _ _ (((unhide HR2).alloc _).alloc _)).mono ?_
    rintro e w3 ⟨rfl, hB3⟩
    have HW3 : Hid (Below w.heap.size w w3) := ((HW2.out.alloc hlw2 _).alloc (by simp; omega) _).trans (hB3.mono (by simp; omega))
    have HRC3 : Hid (w3.rowIs w.heap.size 3 n (fun j => .int .i64 (zs.getD j 0))) := row_below ((HRC2.out.alloc _).alloc _) hB3
    have hlw3 : w.heap.size ≤ w3.heap.size := HW3.out.size
    have hgl3 := HRC3.out.lt
    clear hB3 HW2 HR2 HRC2
    have hxk := HRC3.out.cell (i := k) (by omega)
    simp only [HZK.out] at hxk
    go_wp2_with fail
    refine ((unhide HRS) _ _ (fun j hj => (HRC3.out.alloc _).cell hj)).mono ?_
    rintro e w4 ⟨⟨r, rfl, hr⟩, q, rfl⟩
    cases r with
    | false =>
      clear hr
      go_wp2_with fail
      go_ret
      exact ⟨rfl, drewN_below (HW3.out.alloc hlw3 _) _⟩
    | true =>
      have hle : a ≤ zk := HRI.out (hr rfl)
      clear hr
      go_wp2_with fail
      go_ret
      exact ⟨rfl, drewN_below (HW3.out.alloc hlw3 _) _⟩

/-- every input -/
theorem refuse_any (F : Interp) (bk off n c : Nat) (zs : List Int) (at_ f t same a : Int) (fp : ByteArray) (w : World) (hF : F.answers w.tape) (hn : n ≤ 9223372036854775807) (hm : fp.size ≤ 9223372036854775807) (hbk : 1 ≤ n → bk < w.heap.size)
    (hc : ∀ j, j < n → w.cell? ⟨bk, off + j, none⟩ = some (.int .i64 (zs.getD j 0))) :
    Calls Tryf.prog 3 #[.slice (some ⟨bk, off, none⟩) n c, .int .i64 at_, .int .i64 f, .int .i64 t, .string fp, .int .i64 same, .int .i64 a] w fun e w' => e = .returned (.bool true) ∧ Below w.heap.size w w' := by
  by_cases h : n = 0 ∨ 131072 < n ∨ 1048576 < fp.size ∨ 1048576 < 8 * n + fp.size
  · exact (refuse_empty _ n c at_ f t same a fp w hn hm h).mono fun e w' ⟨h1, h2⟩ => ⟨h1, by rw [h2]; exact Below.refl _ _⟩
  · by_cases h0 : a < 0
    · exact refuse_neg F bk off n c zs at_ f t same a fp w (by omega) (by omega) (by omega) (by omega) (hbk (by omega)) hc hF h0
    · by_cases h1 : zs.getD (n - 1) 0 < a
      · exact refuse_over F bk off n c zs at_ f t same a fp w (by omega) (by omega) (by omega) (by omega) (hbk (by omega)) hc hF (by omega) h1
      · exact refuse_ok bk off n c zs at_ f t same a fp w (by omega) (by omega) (by omega) (by omega) (hbk (by omega)) hc (by omega) (by omega)
end Go.Proofs.Qxb6001696aFmt
