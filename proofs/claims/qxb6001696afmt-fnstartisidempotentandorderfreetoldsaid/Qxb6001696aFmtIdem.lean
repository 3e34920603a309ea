import Derived.Test.Qxb6001696aFmtPlain
namespace Go.Proofs.Qxb6001696aFmt
open Go.RowKit Go.Extern.Stop Go.Stop Go.Extern

set_option maxHeartbeats 400000 in
theorem idem_empty (p : Option Addr) (n c : Nat) (at_ f t same a b : Int) (fp : ByteArray) (w : World) (hn : n ≤ 9223372036854775807) (hm : fp.size ≤ 9223372036854775807)
    (h : n = 0 ∨ 131072 < n ∨ 1048576 < fp.size ∨ 1048576 < 8 * n + fp.size) :
    Calls Tryf.prog 4 #[.slice p n c, .int .i64 at_, .int .i64 f, .int .i64 t, .string fp, .int .i64 same, .int .i64 a, .int .i64 b] w fun e w' => e = .returned (.bool true) ∧ w' = w := by
  have hb := bytes11 p n c at_ f t same a b fp w hn hm
  by_cases h0 : n + fp.size ≤ 1048576
  · rw [decide_eq_true h0] at hb
    go_enter Tryf.func4, Tryf.ntmps4
    go_wp2_with (go_at_call 11; refine hb.mono ?_; rintro e w' ⟨rfl, rfl⟩)
    all_goals (go_ret; exact ⟨rfl, rfl⟩)
  · rw [decide_eq_false h0] at hb
    go_enter Tryf.func4, Tryf.ntmps4
    go_wp2_with (go_at_call 11; refine hb.mono ?_; rintro e w' ⟨rfl, rfl⟩)
    go_ret
    exact ⟨rfl, rfl⟩

set_option maxRecDepth 100000 in
set_option maxHeartbeats 1000000 in
theorem idem_main (bk off n c : Nat) (zs : List Int) (at_ f t same a b : Int) (fp : ByteArray) (w : World) (h1 : 1 ≤ n) (hn : n ≤ 131072) (hm : fp.size ≤ 1048576) (hs : 8 * n + fp.size ≤ 1048576) (hbk : bk < w.heap.size)
    (hc : ∀ j, j < n → w.cell? ⟨bk, off + j, none⟩ = some (.int .i64 (zs.getD j 0))) (ha0 : 0 ≤ a) (hb0 : 0 ≤ b) (ha1 : a ≤ zs.getD (n - 1) 0) (hb1 : b ≤ zs.getD (n - 1) 0) :
    Calls Tryf.prog 4 #[.slice (some ⟨bk, off, none⟩) n c, .int .i64 at_, .int .i64 f, .int .i64 t, .string fp, .int .i64 same, .int .i64 a, .int .i64 b] w fun e w' => e = .returned (.bool true) ∧ Below w.heap.size w w' := by
  have hby := bytes11 (some ⟨bk, off, none⟩) n c at_ f t same a b fp w (by omega) (by omega)
  rw [decide_eq_true (by omega)] at hby
  have hcl := clone_any bk off n c zs w (by omega) hbk hc
  have hbud := fun b W hb hc => budget_any b n zs W (by omega) hb hc
  have hA := fun g W hr => start_ok g n zs at_ f t same a fp W (by omega) h1 hr ha0 ha1
  have hAB := fun g W hr => start_ok g n zs at_ (failTo zs n t a f) (tierTo zs n t a) same b fp W (by omega) h1 hr hb0 hb1
  have hB := fun g W hr => start_ok g n zs at_ f t same b fp W (by omega) h1 hr hb0 hb1
  have hBA := fun g W hr => start_ok g n zs at_ (failTo zs n t b f) (tierTo zs n t b) same a fp W (by omega) h1 hr ha0 ha1
  have hAA := fun g W hr => start_ok g n zs at_ (failTo zs n t a f) (tierTo zs n t a) same a fp W (by omega) h1 hr ha0 ha1
  simp only [tier_idem zs n t a h1 ha1, fail_idem zs n t a f h1 ha1] at hAA
  simp only [tier_comm zs n t a b h1 ha1 hb1, fail_comm zs n t a b f h1 ha1 hb1] at hAB
  have heq := fun f t w => eq_run at_ f t same fp w
  have hne := fun f t w => neq_run at_ f t same fp w
  have hgd : Tryf.prog.eqGuardType Tryf.prog.depth 30 = false := by kernel_rfl
  clear hc
  obtain ⟨m, hnm⟩ : ∃ m : Nat, (n : Int) - 1 = m := ⟨n - 1, by omega⟩
  have hmn : m < n := by omega
  rw [show n - 1 = m from by omega] at ha1 hb1
  generalize failTo zs n (tierTo zs n t b) a (failTo zs n t b f) = fT at hAB hBA
  generalize tierTo zs n (tierTo zs n t b) a = tT at hAB hBA
  generalize failTo zs n t a f = fa at hA hAB hAA
  generalize tierTo zs n t a = ta at hA hAB hAA
  generalize failTo zs n t b f = fb at hB hBA
  generalize tierTo zs n t b = tb at hB hBA
  have HA := hide hA
  have HAB := hide hAB
  have HB := hide hB
  have HBA := hide hBA
  have HAA := hide hAA
  have HBud := hide hbud
  have HEQ := hide heq
  have HNE := hide hne
  have HGD := hide hgd
  have HCL := hide hcl
  have HBY := hide hby
  clear hA hAB hB hBA hAA hbud heq hne hgd hcl hby
  have d1 : decide ((131072 : Int) < (n : Int)) = false := decide_eq_false (by omega)
  have d2 : decide ((1048576 : Int) < (fp.size : Int)) = false := decide_eq_false (by omega)
  have d3 : decide ((1048576 : Int) < 8 * (n : Int) + (fp.size : Int)) = false := decide_eq_false (by omega)
  generalize htop : zs.getD m 0 = top at ha1 hb1
  have HTOP := hide htop
  clear htop
  go_enter Tryf.func4, Tryf.ntmps4
  go_wp2_with (first | (go_at_call 11; refine (unhide HBY).mono ?_; rintro e w' ⟨rfl, hw⟩; subst w') | fail)
  refine (unhide HCL).mono ?_
  rintro e w1 ⟨rfl, hr1, hB1, hz1⟩
  have hx1 := hr1.cell (i := m) (by omega)
  rw [HTOP.out] at hx1
  have HR1 := hide hr1
  have HB1 := hide hB1
  have HZ1 := hide hz1
  clear hr1 hB1 hz1
  go_wp2_with fail
  refine ((unhide HBud) _ _ (by have := HZ1.out; omega) (fun j hj => (unhide HR1).cell hj)).mono ?_
  rintro e w2 ⟨rfl, hr2, hB2, hz2⟩
  have HR2 := hide hr2
  have HB2 := hide hB2
  have HZ2 := hide hz2
  have HW2 : Hid (Below w.heap.size w w2) := HB1.out.trans (hB2.mono (by have := HZ1.out; omega))
  have hlw2 : w.heap.size ≤ w2.heap.size := HW2.out.size
  clear hr2 hB2 hz2 HBud HCL HBY HR1 HZ1 HB1 HB2 HZ2 hx1
  generalize w1.heap.size + 1 = G at HR2 ⊢
  go_wp2_with fail
  -- Start(s, a)
  refine ((unhide HA) _ _ (((unhide HR2).alloc _).alloc _)).mono ?_
  rintro e w3 ⟨rfl, hB3⟩
  have HW3 : Hid (Below w.heap.size w w3) := ((HW2.out.alloc hlw2 _).alloc (by simp; omega) _).trans (hB3.mono (by simp; omega))
  have HR3 : Hid (w3.rowIs G 38 (n * 2) (tierCell zs)) := row_below (((unhide HR2).alloc _).alloc _) hB3
  have BB3 : Hid (Blk w3 w2.heap.size [.int .i64 0, .int .i64 0, .int .i64 0, .slice (some ⟨G, 0, none⟩) n n]) := ((Blk.new w2 [.int .i64 0, .int .i64 0, .int .i64 0, .slice (some ⟨G, 0, none⟩) n n] 27).alloc _).below hB3
  have BS3 : Hid (Blk w3 (w2.heap.size + 1) [.int .i64 at_, .int .i64 f, .int .i64 t, .string fp, .int .i64 same]) := by
    have h := (Blk.new (w2.alloc (.cells #[.int .i64 0, .int .i64 0, .int .i64 0, .slice (some ⟨G, 0, none⟩) n n] 27)) [.int .i64 at_, .int .i64 f, .int .i64 t, .string fp, .int .i64 same] 30).below hB3
    rw [World.size_alloc] at h
    exact h
  have hlw3 : w.heap.size ≤ w3.heap.size := HW3.out.size
  clear hB3 HW2 HR2
  generalize w2.heap.size = NB at BB3 BS3 ⊢
  generalize hNS : NB + 1 = NS at BS3 ⊢
  clear hNS
  obtain ⟨b3, b30, b31, b32, b33⟩ := BB3.out.c4
  obtain ⟨s3, s30, s31, s32, s33, s34⟩ := BS3.out.c5
  go_wp2_with fail
  refine ((unhide HAB) _ _ ((unhide HR3).alloc _)).mono ?_
  rintro e w4 ⟨rfl, hB4⟩
  have HW4 : Hid (Below w.heap.size w w4) := (HW3.out.alloc hlw3 _).trans (hB4.mono (by simp; omega))
  have HR4 : Hid (w4.rowIs G 38 (n * 2) (tierCell zs)) := row_below ((unhide HR3).alloc _) hB4
  have hlw4 : w.heap.size ≤ w4.heap.size := HW4.out.size
  have BB4 : Hid (Blk w4 NB [.int .i64 0, .int .i64 0, .int .i64 0, .slice (some ⟨G, 0, none⟩) n n]) := (BB3.out.alloc _).below hB4
  have BS4 : Hid (Blk w4 NS [.int .i64 at_, .int .i64 f, .int .i64 t, .string fp, .int .i64 same]) := (BS3.out.alloc _).below hB4
  have SA4 : Hid (Blk w4 w3.heap.size [.int .i64 at_, .int .i64 fa, .int .i64 ta, .string fp, .int .i64 same]) := (Blk.new w3 [.int .i64 at_, .int .i64 fa, .int .i64 ta, .string fp, .int .i64 same] 30).below hB4
  clear hB4 HW3 HR3 hlw3
  clear BB3 BS3 b3 b30 b31 b32 b33 s3 s30 s31 s32 s33 s34
  generalize w3.heap.size = NSA at SA4 ⊢
  obtain ⟨xBB40, xBB41, xBB42, xBB43, xBB44⟩ := BB4.out.c4
  obtain ⟨xBS40, xBS41, xBS42, xBS43, xBS44, xBS45⟩ := BS4.out.c5
  obtain ⟨xSA40, xSA41, xSA42, xSA43, xSA44, xSA45⟩ := SA4.out.c5
  go_wp2_with fail
  refine ((unhide HB) _ _ ((unhide HR4).alloc _)).mono ?_
  rintro e w5 ⟨rfl, hB5⟩
  have HW5 : Hid (Below w.heap.size w w5) := (HW4.out.alloc hlw4 _).trans (hB5.mono (by simp; omega))
  have HR5 : Hid (w5.rowIs G 38 (n * 2) (tierCell zs)) := row_below ((unhide HR4).alloc _) hB5
  have hlw5 : w.heap.size ≤ w5.heap.size := HW5.out.size
  have BB5 : Hid (Blk w5 NB [.int .i64 0, .int .i64 0, .int .i64 0, .slice (some ⟨G, 0, none⟩) n n]) := (BB4.out.alloc _).below hB5
  have SA5 : Hid (Blk w5 NSA [.int .i64 at_, .int .i64 fa, .int .i64 ta, .string fp, .int .i64 same]) := (SA4.out.alloc _).below hB5
  have SAB5 : Hid (Blk w5 w4.heap.size [.int .i64 at_, .int .i64 fT, .int .i64 tT, .string fp, .int .i64 same]) := (Blk.new w4 [.int .i64 at_, .int .i64 fT, .int .i64 tT, .string fp, .int .i64 same] 30).below hB5
  clear hB5 HW4 HR4 hlw4
  clear BB4 xBB40 xBB41 xBB42 xBB43 xBB44 BS4 xBS40 xBS41 xBS42 xBS43 xBS44 xBS45 SA4 xSA40 xSA41 xSA42 xSA43 xSA44 xSA45
  generalize w4.heap.size = NSAB at SAB5 ⊢
  obtain ⟨xBB50, xBB51, xBB52, xBB53, xBB54⟩ := BB5.out.c4
  obtain ⟨xSA50, xSA51, xSA52, xSA53, xSA54, xSA55⟩ := SA5.out.c5
  obtain ⟨xSAB50, xSAB51, xSAB52, xSAB53, xSAB54, xSAB55⟩ := SAB5.out.c5
  go_wp2_with fail
  refine ((unhide HBA) _ _ ((unhide HR5).alloc _)).mono ?_
  rintro e w6 ⟨rfl, hB6⟩
  have HW6 : Hid (Below w.heap.size w w6) := (HW5.out.alloc hlw5 _).trans (hB6.mono (by simp; omega))
  have HR6 : Hid (w6.rowIs G 38 (n * 2) (tierCell zs)) := row_below ((unhide HR5).alloc _) hB6
  have hlw6 : w.heap.size ≤ w6.heap.size := HW6.out.size
  have BB6 : Hid (Blk w6 NB [.int .i64 0, .int .i64 0, .int .i64 0, .slice (some ⟨G, 0, none⟩) n n]) := (BB5.out.alloc _).below hB6
  have SA6 : Hid (Blk w6 NSA [.int .i64 at_, .int .i64 fa, .int .i64 ta, .string fp, .int .i64 same]) := (SA5.out.alloc _).below hB6
  have SAB6 : Hid (Blk w6 NSAB [.int .i64 at_, .int .i64 fT, .int .i64 tT, .string fp, .int .i64 same]) := (SAB5.out.alloc _).below hB6
  clear hB6 HW5 HR5 hlw5
  clear BB5 xBB50 xBB51 xBB52 xBB53 xBB54 SA5 xSA50 xSA51 xSA52 xSA53 xSA54 xSA55 SAB5 xSAB50 xSAB51 xSAB52 xSAB53 xSAB54 xSAB55
  generalize w5.heap.size = NSB
  obtain ⟨xBB60, xBB61, xBB62, xBB63, xBB64⟩ := BB6.out.c4
  obtain ⟨xSA60, xSA61, xSA62, xSA63, xSA64, xSA65⟩ := SA6.out.c5
  obtain ⟨xSAB60, xSAB61, xSAB62, xSAB63, xSAB64, xSAB65⟩ := SAB6.out.c5
  have hne := (unhide HNE) fT tT
  have hgd := unhide HGD
  go_wp2_with fail
  refine ((unhide HAA) _ _ ((unhide HR6).alloc _)).mono ?_
  rintro e w7 ⟨rfl, hB7⟩
  have HW7 : Hid (Below w.heap.size w w7) := (HW6.out.alloc hlw6 _).trans (hB7.mono (by simp; omega))
  have HR7 : Hid (w7.rowIs G 38 (n * 2) (tierCell zs)) := row_below ((unhide HR6).alloc _) hB7
  have hlw7 : w.heap.size ≤ w7.heap.size := HW7.out.size
  have SA7 : Hid (Blk w7 NSA [.int .i64 at_, .int .i64 fa, .int .i64 ta, .string fp, .int .i64 same]) := (SA6.out.alloc _).below hB7
  clear hB7 HW6 HR6 hlw6
  clear BB6 xBB60 xBB61 xBB62 xBB63 xBB64 SA6 xSA60 xSA61 xSA62 xSA63 xSA64 xSA65 SAB6 xSAB60 xSAB61 xSAB62 xSAB63 xSAB64 xSAB65
  generalize w6.heap.size = NSBA
  obtain ⟨xSA70, xSA71, xSA72, xSA73, xSA74, xSA75⟩ := SA7.out.c5
  clear hne
  have heq := (unhide HEQ) fa ta
  go_wp2_with fail
  go_ret
  exact ⟨rfl, HW7.out.alloc hlw7 _⟩
end Go.Proofs.Qxb6001696aFmt
