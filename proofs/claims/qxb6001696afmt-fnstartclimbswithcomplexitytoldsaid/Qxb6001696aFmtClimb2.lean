import Derived.Test.Qxb6001696aFmtClimb
namespace Go.Proofs.Qxb6001696aFmt
open Go.RowKit Go.Extern.Stop Go.Stop Go.Extern

set_option maxRecDepth 100000 in
set_option maxHeartbeats 4000000 in
theorem climb_le (bk off n c : Nat) (zs : List Int) (at_ f t same a b : Int) (fp : ByteArray) (w : World) (h1 : 1 ≤ n) (hn : n ≤ 131072) (hm : fp.size ≤ 1048576) (hs : 8 * n + fp.size ≤ 1048576) (hbk : bk < w.heap.size)
    (hc : ∀ j, j < n → w.cell? ⟨bk, off + j, none⟩ = some (.int .i64 (zs.getD j 0))) (ha0 : 0 ≤ a) (hb0 : 0 ≤ b) (ha1 : a ≤ zs.getD (n - 1) 0) (hb1 : b ≤ zs.getD (n - 1) 0) (hab : a ≤ b) :
    Calls Tryf.prog 5 #[.slice (some ⟨bk, off, none⟩) n c, .int .i64 at_, .int .i64 f, .int .i64 t, .string fp, .int .i64 same, .int .i64 a, .int .i64 b] w fun e w' => e = .returned (.bool true) ∧ Below w.heap.size w w' := by
  have hby := bytes12 (some ⟨bk, off, none⟩) n c at_ f t same a b fp w (by omega) (by omega)
  rw [decide_eq_true (by omega)] at hby
  have hcl := clone_any bk off n c zs w (by omega) hbk hc
  have hbud := fun b W hb hc => budget_any b n zs W (by omega) hb hc
  have hA := fun g W hr => start_ok g n zs at_ f t same a fp W (by omega) h1 hr ha0 ha1
  have hB := fun g W hr => start_ok g n zs at_ f t same b fp W (by omega) h1 hr hb0 hb1
  have hFr := fun g W hr => start_ok g n zs 0 0 0 0 a ⟨#[]⟩ W (by omega) h1 hr ha0 ha1
  have hmo := tier_mono zs n t a b h1 (by omega) hb1
  obtain ⟨r, hrn, er, ef, hzr, hjr⟩ := fresh_tier zs n a h1 ha1
  rw [er, ef] at hFr
  clear er ef
  have hrs := fun b W hc => rising_any b n n zs W (by omega) hc
  have hne := fun t w => neq_run 0 0 t 0 ⟨#[]⟩ w
  have hgd : Tryf.prog.eqGuardType Tryf.prog.depth 30 = false := by kernel_rfl
  clear hc
  obtain ⟨m, hnm⟩ : ∃ m : Nat, (n : Int) - 1 = m := ⟨n - 1, by omega⟩
  have hmn : m < n := by omega
  rw [show n - 1 = m from by omega] at ha1 hb1
  generalize failTo zs n t a f = fa at hA
  generalize tierTo zs n t a = ta at hA hmo
  generalize failTo zs n t b f = fb at hB
  generalize tierTo zs n t b = tb at hB hmo
  have HA := hide hA
  have HB := hide hB
  have HFR := hide hFr
  have HBud := hide hbud
  have HNE := hide hne
  have HGD := hide hgd
  have HCL := hide hcl
  have HBY := hide hby
  have HRS := hide hrs
  have HJR := hide hjr
  clear hA hB hFr hbud hne hgd hcl hby hrs hjr
  have d1 : decide ((131072 : Int) < (n : Int)) = false := decide_eq_false (by omega)
  have d2 : decide ((1048576 : Int) < (fp.size : Int)) = false := decide_eq_false (by omega)
  have d3 : decide ((1048576 : Int) < 8 * (n : Int) + (fp.size : Int)) = false := decide_eq_false (by omega)
  generalize htop : zs.getD m 0 = top at ha1 hb1
  have HTOP := hide htop
  clear htop
  generalize hzr' : zs.getD r 0 = zr at hzr
  have HZR := hide hzr'
  clear hzr'
  have b1 : (r : Int) < (n : Int) := by omega
  have b2 : (0 : Int) ≤ (r : Int) := by omega
  go_enter Tryf.func5, Tryf.ntmps5
  go_wp2_with (first | (go_at_call 12; refine (unhide HBY).mono ?_; rintro e w' ⟨rfl, hw⟩; subst w') | fail)
  refine (unhide HCL).mono ?_
  rintro e w1 ⟨rfl, hr1, hB1, hz1⟩
  have hx1 := hr1.cell (i := m) (by omega)
  rw [HTOP.out] at hx1
  have HR1 := hide hr1
  have HB1 := hide hB1
  have HZ1 := hide hz1
  clear hr1 hB1 hz1
  go_wp2_with fail
  refine ((unhide HBud) _ _ (by have := HZ1.out; omega) (fun j hj => (unhide HR1).cell hj)).mono ?_
  rintro e w2 ⟨rfl, hr2, hB2, hz2⟩
  have HR2 := hide hr2
  have HW2 : Hid (Below w.heap.size w w2) := HB1.out.trans (hB2.mono (by have := HZ1.out; omega))
  have HRC2 : Hid (w2.rowIs w.heap.size 3 n (fun j => .int .i64 (zs.getD j 0))) := row_below HR1.out hB2
  have hlw2 : w.heap.size ≤ w2.heap.size := HW2.out.size
  clear hr2 hB2 hz2 HBud HCL HBY HR1 HZ1 HB1 hx1
  generalize w1.heap.size + 1 = G at HR2 ⊢
  go_wp2_with fail
  refine ((unhide HA) _ _ (((unhide HR2).alloc _).alloc _)).mono ?_
  rintro e w3 ⟨rfl, hB3⟩
  have HW3 : Hid (Below w.heap.size w w3) := ((HW2.out.alloc hlw2 _).alloc (by simp; omega) _).trans (hB3.mono (by simp; omega))
  have HR3 : Hid (w3.rowIs G 38 (n * 2) (tierCell zs)) := row_below (((unhide HR2).alloc _).alloc _) hB3
  have HRC3 : Hid (w3.rowIs w.heap.size 3 n (fun j => .int .i64 (zs.getD j 0))) := row_below ((HRC2.out.alloc _).alloc _) hB3
  have BB3 : Hid (Blk w3 w2.heap.size [.int .i64 0, .int .i64 0, .int .i64 0, .slice (some ⟨G, 0, none⟩) n n]) := ((Blk.new w2 [.int .i64 0, .int .i64 0, .int .i64 0, .slice (some ⟨G, 0, none⟩) n n] 27).alloc _).below hB3
  have BS3 : Hid (Blk w3 (w2.heap.size + 1) [.int .i64 at_, .int .i64 f, .int .i64 t, .string fp, .int .i64 same]) := by
    have h := (Blk.new (w2.alloc (.cells #[.int .i64 0, .int .i64 0, .int .i64 0, .slice (some ⟨G, 0, none⟩) n n] 27)) [.int .i64 at_, .int .i64 f, .int .i64 t, .string fp, .int .i64 same] 30).below hB3
    rw [World.size_alloc] at h
    exact h
  have hlw3 : w.heap.size ≤ w3.heap.size := HW3.out.size
  clear hB3 HW2 HR2 HRC2
  generalize w2.heap.size = NB at BB3 BS3 ⊢
  generalize hNS : NB + 1 = NS at BS3 ⊢
  clear hNS
  obtain ⟨b3, b30, b31, b32, b33⟩ := BB3.out.c4
  obtain ⟨s3, s30, s31, s32, s33, s34⟩ := BS3.out.c5
  go_wp2_with fail
  refine ((unhide HB) _ _ ((unhide HR3).alloc _)).mono ?_
  rintro e w4 ⟨rfl, hB4⟩
  have HW4 : Hid (Below w.heap.size w w4) := (HW3.out.alloc hlw3 _).trans (hB4.mono (by simp; omega))
  have HR4 : Hid (w4.rowIs G 38 (n * 2) (tierCell zs)) := row_below ((unhide HR3).alloc _) hB4
  have HRC4 : Hid (w4.rowIs w.heap.size 3 n (fun j => .int .i64 (zs.getD j 0))) := row_below (HRC3.out.alloc _) hB4
  have hlw4 : w.heap.size ≤ w4.heap.size := HW4.out.size
  have BB4 : Hid (Blk w4 NB [.int .i64 0, .int .i64 0, .int .i64 0, .slice (some ⟨G, 0, none⟩) n n]) := (BB3.out.alloc _).below hB4
  have GA4 : Hid (Blk w4 w3.heap.size [.int .i64 at_, .int .i64 fa, .int .i64 ta, .string fp, .int .i64 same]) := (Blk.new w3 [.int .i64 at_, .int .i64 fa, .int .i64 ta, .string fp, .int .i64 same] 30).below hB4
  clear hB4 HW3 HR3 hlw3 HRC3 BB3 BS3 b3 b30 b31 b32 b33 s3 s30 s31 s32 s33 s34
  generalize w3.heap.size = NGA at GA4 ⊢
  obtain ⟨b4, b40, b41, b42, b43⟩ := BB4.out.c4
  obtain ⟨g4, g40, g41, g42, g43, g44⟩ := GA4.out.c5
  go_wp2_with fail
  refine ((unhide HFR) _ _ ((unhide HR4).alloc _)).mono ?_
  rintro e w5 ⟨rfl, hB5⟩
  have HW5 : Hid (Below w.heap.size w w5) := (HW4.out.alloc hlw4 _).trans (hB5.mono (by simp; omega))
  have HRC5 : Hid (w5.rowIs w.heap.size 3 n (fun j => .int .i64 (zs.getD j 0))) := row_below (HRC4.out.alloc _) hB5
  have hlw5 : w.heap.size ≤ w5.heap.size := HW5.out.size
  have hgl5 := HRC5.out.lt
  have hxr := HRC5.out.cell (i := r) hrn
  simp only [HZR.out] at hxr
  clear hB5 HW4 HR4 hlw4 HRC4 BB4 GA4 b4 b40 b41 b42 b43 g4 g40 g41 g42 g43 g44
  have hne := (unhide HNE) r
  have hgd := unhide HGD
  go_wp2_with fail
  refine ((unhide HRS) _ _ (fun j hj => (HRC5.out.alloc _).cell hj)).mono ?_
  rintro e w6 ⟨⟨rb, rfl, _⟩, q, rfl⟩
  clear hne hgd
  cases rb with
  | false =>
    go_wp2_with fail
    go_ret
    exact ⟨rfl, drewN_below (HW5.out.alloc hlw5 _) _⟩
  | true =>
    by_cases hr0 : r = 0
    · have hr00 : (r : Int) ≤ 0 := by omega
      clear hr0
      go_wp2_with fail
      go_ret
      exact ⟨rfl, drewN_below (HW5.out.alloc hlw5 _) _⟩
    · obtain ⟨q1, hq1⟩ : ∃ q1 : Nat, (r : Int) - 1 = q1 := ⟨r - 1, by omega⟩
      have hqr : q1 < r := by omega
      have hqv := HJR.out q1 hqr
      have hxq := HRC5.out.cell (i := q1) (by omega)
      generalize zs.getD q1 0 = zq at hqv hxq
      have b3 : (0 : Int) < (r : Int) := by omega
      have b4 : (q1 : Int) < (n : Int) := by omega
      clear hr0
      go_wp2_with fail
      go_ret
      exact ⟨rfl, drewN_below (HW5.out.alloc hlw5 _) _⟩

set_option maxRecDepth 100000 in
set_option maxHeartbeats 4000000 in
theorem climb_gt (bk off n c : Nat) (zs : List Int) (at_ f t same a b : Int) (fp : ByteArray) (w : World) (h1 : 1 ≤ n) (hn : n ≤ 131072) (hm : fp.size ≤ 1048576) (hs : 8 * n + fp.size ≤ 1048576) (hbk : bk < w.heap.size)
    (hc : ∀ j, j < n → w.cell? ⟨bk, off + j, none⟩ = some (.int .i64 (zs.getD j 0))) (ha0 : 0 ≤ a) (hb0 : 0 ≤ b) (ha1 : a ≤ zs.getD (n - 1) 0) (hb1 : b ≤ zs.getD (n - 1) 0) (hab : b < a) :
    Calls Tryf.prog 5 #[.slice (some ⟨bk, off, none⟩) n c, .int .i64 at_, .int .i64 f, .int .i64 t, .string fp, .int .i64 same, .int .i64 a, .int .i64 b] w fun e w' => e = .returned (.bool true) ∧ Below w.heap.size w w' := by
  have hby := bytes12 (some ⟨bk, off, none⟩) n c at_ f t same a b fp w (by omega) (by omega)
  rw [decide_eq_true (by omega)] at hby
  have hcl := clone_any bk off n c zs w (by omega) hbk hc
  have hbud := fun b W hb hc => budget_any b n zs W (by omega) hb hc
  have hA := fun g W hr => start_ok g n zs at_ f t same b fp W (by omega) h1 hr hb0 hb1
  have hB := fun g W hr => start_ok g n zs at_ f t same a fp W (by omega) h1 hr ha0 ha1
  have hFr := fun g W hr => start_ok g n zs 0 0 0 0 b ⟨#[]⟩ W (by omega) h1 hr hb0 hb1
  have hmo := tier_mono zs n t b a h1 (by omega) ha1
  obtain ⟨r, hrn, er, ef, hzr, hjr⟩ := fresh_tier zs n b h1 hb1
  rw [er, ef] at hFr
  clear er ef
  have hrs := fun b W hc => rising_any b n n zs W (by omega) hc
  have hne := fun t w => neq_run 0 0 t 0 ⟨#[]⟩ w
  have hgd : Tryf.prog.eqGuardType Tryf.prog.depth 30 = false := by kernel_rfl
  clear hc
  obtain ⟨m, hnm⟩ : ∃ m : Nat, (n : Int) - 1 = m := ⟨n - 1, by omega⟩
  have hmn : m < n := by omega
  rw [show n - 1 = m from by omega] at ha1 hb1
  generalize failTo zs n t b f = fa at hA
  generalize tierTo zs n t b = ta at hA hmo
  generalize failTo zs n t a f = fb at hB
  generalize tierTo zs n t a = tb at hB hmo
  have HA := hide hA
  have HB := hide hB
  have HFR := hide hFr
  have HBud := hide hbud
  have HNE := hide hne
  have HGD := hide hgd
  have HCL := hide hcl
  have HBY := hide hby
  have HRS := hide hrs
  have HJR := hide hjr
  clear hA hB hFr hbud hne hgd hcl hby hrs hjr
  have d1 : decide ((131072 : Int) < (n : Int)) = false := decide_eq_false (by omega)
  have d2 : decide ((1048576 : Int) < (fp.size : Int)) = false := decide_eq_false (by omega)
  have d3 : decide ((1048576 : Int) < 8 * (n : Int) + (fp.size : Int)) = false := decide_eq_false (by omega)
  generalize htop : zs.getD m 0 = top at ha1 hb1
  have HTOP := hide htop
  clear htop
  generalize hzr' : zs.getD r 0 = zr at hzr
  have HZR := hide hzr'
  clear hzr'
  have b1 : (r : Int) < (n : Int) := by omega
  have b2 : (0 : Int) ≤ (r : Int) := by omega
  go_enter Tryf.func5, Tryf.ntmps5
  go_wp2_with (first | (go_at_call 12; refine (unhide HBY).mono ?_; rintro e w' ⟨rfl, hw⟩; subst w') | fail)
  refine (unhide HCL).mono ?_
  rintro e w1 ⟨rfl, hr1, hB1, hz1⟩
  have hx1 := hr1.cell (i := m) (by omega)
  rw [HTOP.out] at hx1
  have HR1 := hide hr1
  have HB1 := hide hB1
  have HZ1 := hide hz1
  clear hr1 hB1 hz1
  go_wp2_with fail
  refine ((unhide HBud) _ _ (by have := HZ1.out; omega) (fun j hj => (unhide HR1).cell hj)).mono ?_
  rintro e w2 ⟨rfl, hr2, hB2, hz2⟩
  have HR2 := hide hr2
  have HW2 : Hid (Below w.heap.size w w2) := HB1.out.trans (hB2.mono (by have := HZ1.out; omega))
  have HRC2 : Hid (w2.rowIs w.heap.size 3 n (fun j => .int .i64 (zs.getD j 0))) := row_below HR1.out hB2
  have hlw2 : w.heap.size ≤ w2.heap.size := HW2.out.size
  clear hr2 hB2 hz2 HBud HCL HBY HR1 HZ1 HB1 hx1
  generalize w1.heap.size + 1 = G at HR2 ⊢
  go_wp2_with fail
  refine ((unhide HA) _ _ (((unhide HR2).alloc _).alloc _)).mono ?_
  rintro e w3 ⟨rfl, hB3⟩
  have HW3 : Hid (Below w.heap.size w w3) := ((HW2.out.alloc hlw2 _).alloc (by simp; omega) _).trans (hB3.mono (by simp; omega))
  have HR3 : Hid (w3.rowIs G 38 (n * 2) (tierCell zs)) := row_below (((unhide HR2).alloc _).alloc _) hB3
  have HRC3 : Hid (w3.rowIs w.heap.size 3 n (fun j => .int .i64 (zs.getD j 0))) := row_below ((HRC2.out.alloc _).alloc _) hB3
  have BB3 : Hid (Blk w3 w2.heap.size [.int .i64 0, .int .i64 0, .int .i64 0, .slice (some ⟨G, 0, none⟩) n n]) := ((Blk.new w2 [.int .i64 0, .int .i64 0, .int .i64 0, .slice (some ⟨G, 0, none⟩) n n] 27).alloc _).below hB3
  have BS3 : Hid (Blk w3 (w2.heap.size + 1) [.int .i64 at_, .int .i64 f, .int .i64 t, .string fp, .int .i64 same]) := by
    have h := (Blk.new (w2.alloc (.cells #[.int .i64 0, .int .i64 0, .int .i64 0, .slice (some ⟨G, 0, none⟩) n n] 27)) [.int .i64 at_, .int .i64 f, .int .i64 t, .string fp, .int .i64 same] 30).below hB3
    rw [World.size_alloc] at h
    exact h
  have hlw3 : w.heap.size ≤ w3.heap.size := HW3.out.size
  clear hB3 HW2 HR2 HRC2
  generalize w2.heap.size = NB at BB3 BS3 ⊢
  generalize hNS : NB + 1 = NS at BS3 ⊢
  clear hNS
  obtain ⟨b3, b30, b31, b32, b33⟩ := BB3.out.c4
  obtain ⟨s3, s30, s31, s32, s33, s34⟩ := BS3.out.c5
  go_wp2_with fail
  refine ((unhide HB) _ _ ((unhide HR3).alloc _)).mono ?_
  rintro e w4 ⟨rfl, hB4⟩
  have HW4 : Hid (Below w.heap.size w w4) := (HW3.out.alloc hlw3 _).trans (hB4.mono (by simp; omega))
  have HR4 : Hid (w4.rowIs G 38 (n * 2) (tierCell zs)) := row_below ((unhide HR3).alloc _) hB4
  have HRC4 : Hid (w4.rowIs w.heap.size 3 n (fun j => .int .i64 (zs.getD j 0))) := row_below (HRC3.out.alloc _) hB4
  have hlw4 : w.heap.size ≤ w4.heap.size := HW4.out.size
  have BB4 : Hid (Blk w4 NB [.int .i64 0, .int .i64 0, .int .i64 0, .slice (some ⟨G, 0, none⟩) n n]) := (BB3.out.alloc _).below hB4
  have GA4 : Hid (Blk w4 w3.heap.size [.int .i64 at_, .int .i64 fa, .int .i64 ta, .string fp, .int .i64 same]) := (Blk.new w3 [.int .i64 at_, .int .i64 fa, .int .i64 ta, .string fp, .int .i64 same] 30).below hB4
  clear hB4 HW3 HR3 hlw3 HRC3 BB3 BS3 b3 b30 b31 b32 b33 s3 s30 s31 s32 s33 s34
  generalize w3.heap.size = NGA at GA4 ⊢
  obtain ⟨b4, b40, b41, b42, b43⟩ := BB4.out.c4
  obtain ⟨g4, g40, g41, g42, g43, g44⟩ := GA4.out.c5
  go_wp2_with fail
  refine ((unhide HFR) _ _ ((unhide HR4).alloc _)).mono ?_
  rintro e w5 ⟨rfl, hB5⟩
  have HW5 : Hid (Below w.heap.size w w5) := (HW4.out.alloc hlw4 _).trans (hB5.mono (by simp; omega))
  have HRC5 : Hid (w5.rowIs w.heap.size 3 n (fun j => .int .i64 (zs.getD j 0))) := row_below (HRC4.out.alloc _) hB5
  have hlw5 : w.heap.size ≤ w5.heap.size := HW5.out.size
  have hgl5 := HRC5.out.lt
  have hxr := HRC5.out.cell (i := r) hrn
  simp only [HZR.out] at hxr
  clear hB5 HW4 HR4 hlw4 HRC4 BB4 GA4 b4 b40 b41 b42 b43 g4 g40 g41 g42 g43 g44
  have hne := (unhide HNE) r
  have hgd := unhide HGD
  go_wp2_with fail
  refine ((unhide HRS) _ _ (fun j hj => (HRC5.out.alloc _).cell hj)).mono ?_
  rintro e w6 ⟨⟨rb, rfl, _⟩, q, rfl⟩
  clear hne hgd
  cases rb with
  | false =>
    go_wp2_with fail
    go_ret
    exact ⟨rfl, drewN_below (HW5.out.alloc hlw5 _) _⟩
  | true =>
    by_cases hr0 : r = 0
    · have hr00 : (r : Int) ≤ 0 := by omega
      clear hr0
      go_wp2_with fail
      go_ret
      exact ⟨rfl, drewN_below (HW5.out.alloc hlw5 _) _⟩
    · obtain ⟨q1, hq1⟩ : ∃ q1 : Nat, (r : Int) - 1 = q1 := ⟨r - 1, by omega⟩
      have hqr : q1 < r := by omega
      have hqv := HJR.out q1 hqr
      have hxq := HRC5.out.cell (i := q1) (by omega)
      generalize zs.getD q1 0 = zq at hqv hxq
      have b3 : (0 : Int) < (r : Int) := by omega
      have b4 : (q1 : Int) < (n : Int) := by omega
      clear hr0
      go_wp2_with fail
      go_ret
      exact ⟨rfl, drewN_below (HW5.out.alloc hlw5 _) _⟩


/-- every input -/
theorem climb_any (bk off n c : Nat) (zs : List Int) (at_ f t same a b : Int) (fp : ByteArray) (w : World) (hn : n ≤ 9223372036854775807) (hm : fp.size ≤ 9223372036854775807) (hbk : 1 ≤ n → bk < w.heap.size)
    (hc : ∀ j, j < n → w.cell? ⟨bk, off + j, none⟩ = some (.int .i64 (zs.getD j 0))) :
    Calls Tryf.prog 5 #[.slice (some ⟨bk, off, none⟩) n c, .int .i64 at_, .int .i64 f, .int .i64 t, .string fp, .int .i64 same, .int .i64 a, .int .i64 b] w fun e w' => e = .returned (.bool true) ∧ Below w.heap.size w w' := by
  by_cases h : n = 0 ∨ 131072 < n ∨ 1048576 < fp.size ∨ 1048576 < 8 * n + fp.size
  · exact (climb_empty _ n c at_ f t same a b fp w hn hm h).mono fun e w' ⟨h1, h2⟩ => ⟨h1, by rw [h2]; exact Below.refl _ _⟩
  · by_cases ho : a < 0 ∨ zs.getD (n - 1) 0 < a ∨ b < 0 ∨ zs.getD (n - 1) 0 < b
    · exact climb_out bk off n c zs at_ f t same a b fp w (by omega) (by omega) (by omega) (by omega) (hbk (by omega)) hc ho
    · by_cases hab : a ≤ b
      · exact climb_le bk off n c zs at_ f t same a b fp w (by omega) (by omega) (by omega) (by omega) (hbk (by omega)) hc (by omega) (by omega) (by omega) (by omega) hab
      · exact climb_gt bk off n c zs at_ f t same a b fp w (by omega) (by omega) (by omega) (by omega) (hbk (by omega)) hc (by omega) (by omega) (by omega) (by omega) (by omega)
end Go.Proofs.Qxb6001696aFmt
