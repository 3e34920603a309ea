import Derived.Test.Qxb6600209aFmtIntPlain
namespace Go.Proofs.Qxb6600209aFmt
open Go.RowKit Go.Extern.Stop Go.Stop Go.Extern
set_option linter.unusedVariables false
set_option linter.unusedSimpArgs false

/-- the digit buffer, low digit first -/
def rowF (ds : List UInt8) (j : Nat) : Value := if j < ds.length then bv (ds.getD j 0) else .int .u8 0

theorem dig_nat (m : Nat) (h : m < 10) : (UInt8.ofNat (48 + m)).toNat = 48 + m := by
  rw [UInt8.toNat_ofNat']; omega

theorem dig_snoc {ds : List UInt8} {m : Nat} (h : ∀ c ∈ ds, dig c) (hm : m < 10) : ∀ c ∈ ds ++ [UInt8.ofNat (48 + m)], dig c := by
  intro c hc
  rcases List.mem_append.1 hc with hc | hc
  · exact h c hc
  · rw [List.mem_singleton] at hc
    subst hc
    unfold dig
    rw [dig_nat m hm]
    omega

theorem buf_step {w : World} {B n m : Nat} {ds : List UInt8} (h : w.rowIs B 42 20 (rowF ds)) (hn : ds.length = n) (hm : m < 10) : (w.setCell ⟨B, n, none⟩ (.int .u8 (48 + (m : Int)))).rowIs B 42 20 (rowF (ds ++ [UInt8.ofNat (48 + m)])) := by
  refine (h.set n _).congr (fun j _ => ?_)
  unfold rowF
  by_cases e : j = n
  · subst e
    have hd : (ds ++ [UInt8.ofNat (48 + m)]).getD j 0 = UInt8.ofNat (48 + m) := by simp [List.getD_eq_getElem?_getD, ← hn]
    rw [if_pos rfl, if_pos (by simp; omega), hd, bv, dig_nat m hm]
    rfl
  · rw [if_neg e]
    by_cases e2 : j < ds.length
    · have hd : (ds ++ [UInt8.ofNat (48 + m)]).getD j 0 = ds.getD j 0 := by simp [List.getD_eq_getElem?_getD, List.getElem?_append_left e2]
      rw [if_pos e2, if_pos (by simp; omega), hd]
    · rw [if_neg e2, if_neg (by simp; omega)]

theorem row_at {w : World} {B : Nat} {es : List UInt8} (h : w.rowIs B 42 20 (rowF es)) (j : Nat) (hj : j < es.length) (h20 : j < 20) : w.cell? ⟨B, j, none⟩ = some (.int .u8 ((es.getD j 0).toNat : Int)) := by
  rw [h.cell h20, rowF, if_pos hj, bv]

theorem Out.set {w : World} {g B : Nat} {t : List UInt8} (h : Out w g t) (hne : g < B) (i : Nat) (v : Value) : Out (w.setCell ⟨B, i, none⟩ v) g t :=
  World.ownsRow.kept (row := some B) h ⟨rfl, rfl, rfl, by simp, fun k _ hk => Deep.blk_setCell_other _ _ _ _ (fun e => hk (by rw [e]))⟩ (Or.inr (by simp [Value.ownBlock]; omega))

theorem digs_end (ds : List UInt8) (u1 u m : Nat) (hv : dv 0 ds.reverse + u1 * 10 ^ ds.length = u) (hd : ∀ c ∈ ds, dig c) (hm : u1 % 10 = m) (h0 : u1 / 10 = 0) (hn : ds.length < 20) : Digs u (ds ++ [UInt8.ofNat (48 + m)]).reverse := by
  have hm10 : m < 10 := by omega
  refine ⟨by simp, by simp; omega, fun c hc => dig_snoc hd hm10 c (List.mem_reverse.1 hc), ?_⟩
  have := dig_step ds u1 u hv (UInt8.ofNat (48 + m)) (by rw [hm, dig_nat m hm10])
  rw [h0, Nat.zero_mul, Nat.add_zero] at this
  exact this

theorem take_step (es : List UInt8) (k : Nat) (h0 : k ≠ 0) (hk : k ≤ es.length) : (es.drop (k - 1)).reverse = (es.drop k).reverse ++ [es.getD (k - 1) 0] := by
  have hk1 : k - 1 < es.length := by omega
  rw [List.drop_eq_getElem_cons hk1, show k - 1 + 1 = k from by omega, List.reverse_cons, List.getD_eq_getElem?_getD, List.getElem?_eq_getElem hk1, Option.getD_some]

theorem zero20 : ∀ i, i < (#[Value.int .u8 0, Value.int .u8 0, Value.int .u8 0, Value.int .u8 0, Value.int .u8 0, Value.int .u8 0, Value.int .u8 0, Value.int .u8 0, Value.int .u8 0, Value.int .u8 0, Value.int .u8 0, Value.int .u8 0, Value.int .u8 0, Value.int .u8 0, Value.int .u8 0, Value.int .u8 0, Value.int .u8 0, Value.int .u8 0, Value.int .u8 0, Value.int .u8 0] : Array Value).size → (#[Value.int .u8 0, Value.int .u8 0, Value.int .u8 0, Value.int .u8 0, Value.int .u8 0, Value.int .u8 0, Value.int .u8 0, Value.int .u8 0, Value.int .u8 0, Value.int .u8 0, Value.int .u8 0, Value.int .u8 0, Value.int .u8 0, Value.int .u8 0, Value.int .u8 0, Value.int .u8 0, Value.int .u8 0, Value.int .u8 0, Value.int .u8 0, Value.int .u8 0] : Array Value)[i]? = some ((fun _ => Value.int .u8 0) i) := by
  intro i hi
  rcases i with _ | _ | _ | _ | _ | _ | _ | _ | _ | _ | _ | _ | _ | _ | _ | _ | _ | _ | _ | _ | i
  all_goals first | rfl | (simp at hi; omega)

theorem rep_snoc (k : Nat) : List.replicate (k + 1) (48 : UInt8) = List.replicate k 48 ++ [48] := List.replicate_succ'

set_option maxRecDepth 100000 in
set_option maxHeartbeats 4000000 in
theorem int12_neg (g : Nat) (l : List UInt8) (u z : Nat) (p : Bool) (w : World) (hu : 1 ≤ u) (hu2 : u ≤ 9223372036854775808) (hz : z ≤ 3) (hO : Out w g l) (hroom : l.length + 24 ≤ 96) :
    Calls Tryf.prog 12 #[.slice (some ⟨g, 0, none⟩) l.length 96, .int .i64 (-(u : Int)), .bool p, .int .i64 z] w fun e w' =>
      ∃ D : List UInt8, Digs u D ∧ e = .returned (.slice (some ⟨g, 0, none⟩) (l ++ ([45] ++ (List.replicate z 48 ++ D))).length 96) ∧ Out w' g (l ++ ([45] ++ (List.replicate z 48 ++ D))) ∧ Below g w w' := by
  obtain ⟨i0, hi, hz0, hz1, hz2⟩ := info_parts Tryf.info5
  have hg := hO.lt
  go_enter Tryf.func12, Tryf.ntmps12
  go_upto_region 8 with (at_builtin; refine wpList_append_own_spare _ rfl _ _ 22 rfl g 5 i0 1 Tryf.underlying22 hi hz1 g l.length 96 _ rfl (World.ownsRow.alloc (hO) _) ⟨w.heap.size, 0, none⟩ 1 1 ([45].map bv) rfl rfl (cells_new w [45] _ 5 rfl) (one_cell _) (by omega) ?_; intro w1 hown1 hgrow1)
  have HO1 : Hid (Out w1 g (l ++ [45])) := Out.app (k := 0) rfl rfl hown1
  have HB1 : Hid (Below g w w1) := Out.below hg hgrow1
  have hlen0 : l.length + 1 = (l ++ [45]).length := by simp
  have eu : (-(-(u : Int) + 1) + 1) = (u : Int) := by omega
  rw [eu]
  clear eu
  rw [hlen0]
  have hl0 : (l ++ [45]).length ≤ 73 := by simp; omega
  generalize ht0 : l ++ [45] = t0 at HO1 hl0 ⊢
  have HT0 := hide ht0
  clear hown1 hgrow1 hO hlen0 ht0
  go_wp2
  go_loopw [0, 10] (fun o i wr => ∃ k : Nat, k ≤ z ∧ i = .int .i64 k ∧ o = .slice (some ⟨g, 0, none⟩) (t0 ++ List.replicate k 48).length 96 ∧ Hid (Out wr g (t0 ++ List.replicate k 48)) ∧ Hid (Below g w wr)) (fun _ i _ => z - (intOf i).toNat)
  case atStart => exact ⟨0, Nat.zero_le _, rfl, by simp, by simpa using HO1, HB1⟩
  case round =>
    obtain ⟨k, hk, rfl, rfl, HO2, HB2⟩ := hrel
    by_cases hlt : k < z
    · have hl2 : (t0 ++ List.replicate k (48 : UInt8)).length ≤ 75 := by simp; omega
      generalize ht : t0 ++ List.replicate k (48 : UInt8) = t at HO2 hl2 ⊢
      have HT := hide ht
      have hgr : g < wr.heap.size := HO2.out.lt
      clear ht
      go_wp2_with (at_builtin; refine wpList_append_own_spare _ rfl _ _ 22 rfl g 5 i0 1 Tryf.underlying22 hi hz1 g t.length 96 _ rfl (World.ownsRow.alloc (HO2.out) _) ⟨wr.heap.size, 0, none⟩ 1 1 ([48].map bv) rfl rfl (cells_new wr [48] _ 5 rfl) (one_cell _) (by omega) ?_; intro w2 hown1 hgrow1)
      go_roundw
      case rel =>
        have e : t0 ++ List.replicate (k + 1) (48 : UInt8) = t ++ [48] := by rw [rep_snoc, ← List.append_assoc, HT.out]
        exact ⟨k + 1, by omega, by go_num, by rw [e, List.length_append]; rfl, by rw [e]; exact Out.app (k := 0) rfl rfl hown1, HB2.out.trans (Out.below hgr hgrow1)⟩
      case measure => simp [intOf]; omega
    · obtain rfl : k = z := by omega
      have hl2 : (t0 ++ List.replicate k (48 : UInt8)).length ≤ 76 := by simp; omega
      generalize ht : t0 ++ List.replicate k (48 : UInt8) = t at HO2 hl2 ⊢
      have HT := hide ht
      have hgr : g < wr.heap.size := HO2.out.lt
      clear ht hlt
      go_wp2
      have hrow0 : (wr.alloc (.cells #[.int .u8 0, .int .u8 0, .int .u8 0, .int .u8 0, .int .u8 0, .int .u8 0, .int .u8 0, .int .u8 0, .int .u8 0, .int .u8 0, .int .u8 0, .int .u8 0, .int .u8 0, .int .u8 0, .int .u8 0, .int .u8 0, .int .u8 0, .int .u8 0, .int .u8 0, .int .u8 0] 42)).rowIs wr.heap.size 42 20 (fun _ => .int .u8 0) := World.rowIs_alloc wr #[.int .u8 0, .int .u8 0, .int .u8 0, .int .u8 0, .int .u8 0, .int .u8 0, .int .u8 0, .int .u8 0, .int .u8 0, .int .u8 0, .int .u8 0, .int .u8 0, .int .u8 0, .int .u8 0, .int .u8 0, .int .u8 0, .int .u8 0, .int .u8 0, .int .u8 0, .int .u8 0] 42 (fun _ => .int .u8 0) zero20
      have HO3 : Hid (Out (wr.alloc (.cells #[.int .u8 0, .int .u8 0, .int .u8 0, .int .u8 0, .int .u8 0, .int .u8 0, .int .u8 0, .int .u8 0, .int .u8 0, .int .u8 0, .int .u8 0, .int .u8 0, .int .u8 0, .int .u8 0, .int .u8 0, .int .u8 0, .int .u8 0, .int .u8 0, .int .u8 0, .int .u8 0] 42)) g t) := World.ownsRow.alloc HO2.out _
      have HB3 : Hid (Below g w (wr.alloc (.cells #[.int .u8 0, .int .u8 0, .int .u8 0, .int .u8 0, .int .u8 0, .int .u8 0, .int .u8 0, .int .u8 0, .int .u8 0, .int .u8 0, .int .u8 0, .int .u8 0, .int .u8 0, .int .u8 0, .int .u8 0, .int .u8 0, .int .u8 0, .int .u8 0, .int .u8 0, .int .u8 0] 42))) := HB2.out.alloc (by omega) _
      generalize wr.alloc (.cells #[.int .u8 0, .int .u8 0, .int .u8 0, .int .u8 0, .int .u8 0, .int .u8 0, .int .u8 0, .int .u8 0, .int .u8 0, .int .u8 0, .int .u8 0, .int .u8 0, .int .u8 0, .int .u8 0, .int .u8 0, .int .u8 0, .int .u8 0, .int .u8 0, .int .u8 0, .int .u8 0] 42) = wa at hrow0 HO3 HB3 ⊢
      generalize wr.heap.size = B at hrow0 hgr ⊢
      have HR0 := hide hrow0
      clear hrow0 HO2 HB2
      go_loopw [9, 12] (fun uv nv wq => ∃ (u1 : Nat) (ds : List UInt8), uv = .int .u64 u1 ∧ nv = .int .i64 ds.length ∧ ds.length < 20 ∧ u1 < 18446744073709551616 ∧ Hid (dv 0 ds.reverse + u1 * 10 ^ ds.length = u) ∧ Hid (∀ c ∈ ds, dig c) ∧ Hid (wq.rowIs B 42 20 (rowF ds)) ∧ Hid (Out wq g t) ∧ Hid (Below g w wq)) (fun uv _ _ => (intOf uv).toNat)
      case atStart => exact ⟨u, [], rfl, rfl, by simp, by omega, (by simp [dv_nil] : dv 0 [] + u * 10 ^ 0 = u), (fun c hc => by cases hc), HR0.out.congr (fun j _ => by simp [rowF]), HO3, HB3⟩
      case round =>
        clear HR0 HO3 HB3
        obtain ⟨u1, ds, rfl, rfl, hds, hu1, HV, HD, HR, HO4, HB4⟩ := hrel
        have hdsn : ds.length < 20 := hds
        have hcl := HR.out.cell hds
        have hfz := HR.out.frozen ds.length
        generalize hn : ds.length = n at hcl hfz hds hdsn ⊢
        have HN := hide hn
        have em : (u1 : Int) % 10 = ((u1 % 10 : Nat) : Int) := by omega
        have ed : (u1 : Int) / 10 = ((u1 / 10 : Nat) : Int) := by omega
        have em2 : u1 % 10 < 10 := Nat.mod_lt _ (by decide)
        have HEM := hide em2
        generalize hmm : u1 % 10 = m10 at em em2 HEM ⊢
        generalize hdd : u1 / 10 = d10 at ed ⊢
        have HM := hide hmm
        have HDD := hide hdd
        clear hmm hdd hn
        by_cases hq : d10 = 0
        · subst hq
          have hq2 : ((u1 : Int) / 10 == 0) = true := by rw [ed]; rfl
          go_wp2
          have HR5 : Hid ((wr.setCell ⟨B, n, none⟩ (.int .u8 (48 + (m10 : Int)))).rowIs B 42 20 (rowF (ds ++ [UInt8.ofNat (48 + m10)]))) := buf_step HR.out HN.out HEM.out
          have HO5 : Hid (Out (wr.setCell ⟨B, n, none⟩ (.int .u8 (48 + (m10 : Int)))) g t) := HO4.out.set (by omega) _ _
          have HB5 : Hid (Below g w (wr.setCell ⟨B, n, none⟩ (.int .u8 (48 + (m10 : Int))))) := HB4.out.setCell (by show g ≤ B; omega) _
          have HG : Hid (Digs u (ds ++ [UInt8.ofNat (48 + m10)]).reverse) := digs_end ds u1 u m10 HV.out HD.out HM.out HDD.out (by rw [HN.out]; omega)
          have hnl : n + 1 = (ds ++ [UInt8.ofNat (48 + m10)]).length := by simp [HN.out]
          have en : ((n : Int) + 1) = ((ds ++ [UInt8.ofNat (48 + m10)]).length : Int) := by rw [← hnl]; rfl
          rw [en]
          generalize wr.setCell ⟨B, n, none⟩ (.int .u8 (48 + (m10 : Int))) = wb at HR5 HO5 HB5 ⊢
          generalize ds ++ [UInt8.ofNat (48 + m10)] = es at HR5 HG hnl ⊢
          clear HR HO4 HB4 HV HD hcl hfz hq2 em ed HM HDD en em2 HEM HN
          go_loopw [0, 12] (fun o nv wq => ∃ k : Nat, k ≤ es.length ∧ nv = .int .i64 k ∧ o = .slice (some ⟨g, 0, none⟩) (t ++ (es.drop k).reverse).length 96 ∧ Hid (wq.rowIs B 42 20 (rowF es)) ∧ Hid (Out wq g (t ++ (es.drop k).reverse)) ∧ Hid (Below g w wq)) (fun _ nv _ => (intOf nv).toNat)
          case atStart => exact ⟨es.length, Nat.le_refl _, rfl, by simp, HR5, by simpa using HO5, HB5⟩
          case round =>
            clear HR5 HO5 HB5
            obtain ⟨k, hk, rfl, rfl, HR6, HO6, HB6⟩ := hrel
            have hel : es.length ≤ 20 := by omega
            by_cases hk0 : k = 0
            · subst hk0
              rw [List.drop_zero] at HO6 ⊢
              generalize hs : t ++ es.reverse = s at HO6 ⊢
              have HS := hide hs
              clear hs
              go_wp2
              go_ret
              have e : l ++ ([45] ++ (List.replicate k 48 ++ es.reverse)) = s := by rw [← List.append_assoc, HT0.out, ← List.append_assoc, HT.out, HS.out]
              have e2 := e
              simp only [List.cons_append, List.nil_append] at e2
              exact ⟨es.reverse, HG.out, by rw [e2]; rfl, by rw [e2]; exact HO6.out, HB6.out⟩
            · have hm : ((k : Int) - 1) = ((k - 1 : Nat) : Int) := by omega
              have hkp : (0 : Int) < (k : Int) := by omega
              have hk1 : k - 1 < es.length := by omega
              have hst := take_step es k hk0 hk
              have hx := row_at HR6.out (k - 1) hk1 (by omega)
              have hs75 : (t ++ (es.drop k).reverse).length ≤ 95 := by rw [List.length_append, List.length_reverse, List.length_drop]; omega
              generalize hs : t ++ (es.drop k).reverse = s at HO6 hs75 ⊢
              have HSS : Hid (t ++ (es.drop (k - 1)).reverse = s ++ [es.getD (k - 1) 0]) := by rw [← hs, List.append_assoc, ← hst]; exact rfl
              generalize es.getD (k - 1) 0 = x at hx HSS ⊢
              have hgr2 : g < wr.heap.size := HO6.out.lt
              generalize hkk : k - 1 = k1 at hm hk1 hx HSS ⊢
              have HK := hide hkk
              clear hs hst hkk
              go_wp2_with (at_builtin; refine wpList_append_own_spare _ rfl _ _ 22 rfl g 5 i0 1 Tryf.underlying22 hi hz1 g s.length 96 _ rfl (World.ownsRow.alloc HO6.out _) ⟨wr.heap.size, 0, none⟩ 1 1 ([x].map bv) rfl rfl (cells_new wr [x] _ 5 rfl) (one_cell _) (by omega) ?_; intro w2 hown1 hgrow1)
              have hrw := HR6.out.alloc (.cells #[.int .u8 (x.toNat : Int)] 5)
              have hr2 : w2.rowIs B 42 20 (rowF es) := hrw.of_block (hgrow1.block B hrw.lt (by intro h; injection h with h; omega))
              have hkk := HK.out
              refine ⟨⟨k1, by omega, rfl, by rw [HSS.out, List.length_append]; rfl, hr2, by rw [HSS.out]; exact Out.app (k := 0) rfl rfl hown1, HB6.out.trans (Out.below hgr2 hgrow1)⟩, ?_⟩
              simp only [intOf]
              omega
        · have hq2 : ((d10 : Int) == 0) = false := by simp; omega
          go_wp2
          have e48 : (ds ++ [UInt8.ofNat (48 + m10)]).length = n + 1 := by simp [HN.out]
          have hst := dig_step ds u1 u HV.out (UInt8.ofNat (48 + m10)) (by rw [HM.out, dig_nat _ HEM.out])
          rw [HDD.out] at hst
          refine ⟨⟨d10, ds ++ [UInt8.ofNat (48 + m10)], rfl, by rw [e48]; rfl, len_lt _ d10 u hst (by omega) (by omega), by omega, hst, dig_snoc HD.out HEM.out, buf_step HR.out HN.out HEM.out, HO4.out.set (by omega) _ _, HB4.out.setCell (by show g ≤ B; omega) _⟩, ?_⟩
          have := HDD.out
          simp only [intOf]
          omega

set_option maxRecDepth 100000 in
set_option maxHeartbeats 4000000 in
theorem int12_plus (g : Nat) (l : List UInt8) (u z : Nat) (w : World) (hu2 : u < 9223372036854775808) (hz : z ≤ 3) (hO : Out w g l) (hroom : l.length + 24 ≤ 96) :
    Calls Tryf.prog 12 #[.slice (some ⟨g, 0, none⟩) l.length 96, .int .i64 (u : Int), .bool true, .int .i64 z] w fun e w' =>
      ∃ D : List UInt8, Digs u D ∧ e = .returned (.slice (some ⟨g, 0, none⟩) (l ++ ([43] ++ (List.replicate z 48 ++ D))).length 96) ∧ Out w' g (l ++ ([43] ++ (List.replicate z 48 ++ D))) ∧ Below g w w' := by
  obtain ⟨i0, hi, hz0, hz1, hz2⟩ := info_parts Tryf.info5
  have hg := hO.lt
  go_enter Tryf.func12, Tryf.ntmps12
  go_upto_region 8 with (at_builtin; refine wpList_append_own_spare _ rfl _ _ 22 rfl g 5 i0 1 Tryf.underlying22 hi hz1 g l.length 96 _ rfl (World.ownsRow.alloc (hO) _) ⟨w.heap.size, 0, none⟩ 1 1 ([43].map bv) rfl rfl (cells_new w [43] _ 5 rfl) (one_cell _) (by omega) ?_; intro w1 hown1 hgrow1)
  have HO1 : Hid (Out w1 g (l ++ [43])) := Out.app (k := 0) rfl rfl hown1
  have HB1 : Hid (Below g w w1) := Out.below hg hgrow1
  have hlen0 : l.length + 1 = (l ++ [43]).length := by simp
  rw [hlen0]
  have hl0 : (l ++ [43]).length ≤ 73 := by simp; omega
  generalize ht0 : l ++ [43] = t0 at HO1 hl0 ⊢
  have HT0 := hide ht0
  clear hown1 hgrow1 hO hlen0 ht0
  go_wp2
  go_loopw [0, 10] (fun o i wr => ∃ k : Nat, k ≤ z ∧ i = .int .i64 k ∧ o = .slice (some ⟨g, 0, none⟩) (t0 ++ List.replicate k 48).length 96 ∧ Hid (Out wr g (t0 ++ List.replicate k 48)) ∧ Hid (Below g w wr)) (fun _ i _ => z - (intOf i).toNat)
  case atStart => exact ⟨0, Nat.zero_le _, rfl, by simp, by simpa using HO1, HB1⟩
  case round =>
    obtain ⟨k, hk, rfl, rfl, HO2, HB2⟩ := hrel
    by_cases hlt : k < z
    · have hl2 : (t0 ++ List.replicate k (48 : UInt8)).length ≤ 75 := by simp; omega
      generalize ht : t0 ++ List.replicate k (48 : UInt8) = t at HO2 hl2 ⊢
      have HT := hide ht
      have hgr : g < wr.heap.size := HO2.out.lt
      clear ht
      go_wp2_with (at_builtin; refine wpList_append_own_spare _ rfl _ _ 22 rfl g 5 i0 1 Tryf.underlying22 hi hz1 g t.length 96 _ rfl (World.ownsRow.alloc (HO2.out) _) ⟨wr.heap.size, 0, none⟩ 1 1 ([48].map bv) rfl rfl (cells_new wr [48] _ 5 rfl) (one_cell _) (by omega) ?_; intro w2 hown1 hgrow1)
      go_roundw
      case rel =>
        have e : t0 ++ List.replicate (k + 1) (48 : UInt8) = t ++ [48] := by rw [rep_snoc, ← List.append_assoc, HT.out]
        exact ⟨k + 1, by omega, by go_num, by rw [e, List.length_append]; rfl, by rw [e]; exact Out.app (k := 0) rfl rfl hown1, HB2.out.trans (Out.below hgr hgrow1)⟩
      case measure => simp [intOf]; omega
    · obtain rfl : k = z := by omega
      have hl2 : (t0 ++ List.replicate k (48 : UInt8)).length ≤ 76 := by simp; omega
      generalize ht : t0 ++ List.replicate k (48 : UInt8) = t at HO2 hl2 ⊢
      have HT := hide ht
      have hgr : g < wr.heap.size := HO2.out.lt
      clear ht hlt
      go_wp2
      have hrow0 : (wr.alloc (.cells #[.int .u8 0, .int .u8 0, .int .u8 0, .int .u8 0, .int .u8 0, .int .u8 0, .int .u8 0, .int .u8 0, .int .u8 0, .int .u8 0, .int .u8 0, .int .u8 0, .int .u8 0, .int .u8 0, .int .u8 0, .int .u8 0, .int .u8 0, .int .u8 0, .int .u8 0, .int .u8 0] 42)).rowIs wr.heap.size 42 20 (fun _ => .int .u8 0) := World.rowIs_alloc wr #[.int .u8 0, .int .u8 0, .int .u8 0, .int .u8 0, .int .u8 0, .int .u8 0, .int .u8 0, .int .u8 0, .int .u8 0, .int .u8 0, .int .u8 0, .int .u8 0, .int .u8 0, .int .u8 0, .int .u8 0, .int .u8 0, .int .u8 0, .int .u8 0, .int .u8 0, .int .u8 0] 42 (fun _ => .int .u8 0) zero20
      have HO3 : Hid (Out (wr.alloc (.cells #[.int .u8 0, .int .u8 0, .int .u8 0, .int .u8 0, .int .u8 0, .int .u8 0, .int .u8 0, .int .u8 0, .int .u8 0, .int .u8 0, .int .u8 0, .int .u8 0, .int .u8 0, .int .u8 0, .int .u8 0, .int .u8 0, .int .u8 0, .int .u8 0, .int .u8 0, .int .u8 0] 42)) g t) := World.ownsRow.alloc HO2.out _
      have HB3 : Hid (Below g w (wr.alloc (.cells #[.int .u8 0, .int .u8 0, .int .u8 0, .int .u8 0, .int .u8 0, .int .u8 0, .int .u8 0, .int .u8 0, .int .u8 0, .int .u8 0, .int .u8 0, .int .u8 0, .int .u8 0, .int .u8 0, .int .u8 0, .int .u8 0, .int .u8 0, .int .u8 0, .int .u8 0, .int .u8 0] 42))) := HB2.out.alloc (by omega) _
      generalize wr.alloc (.cells #[.int .u8 0, .int .u8 0, .int .u8 0, .int .u8 0, .int .u8 0, .int .u8 0, .int .u8 0, .int .u8 0, .int .u8 0, .int .u8 0, .int .u8 0, .int .u8 0, .int .u8 0, .int .u8 0, .int .u8 0, .int .u8 0, .int .u8 0, .int .u8 0, .int .u8 0, .int .u8 0] 42) = wa at hrow0 HO3 HB3 ⊢
      generalize wr.heap.size = B at hrow0 hgr ⊢
      have HR0 := hide hrow0
      clear hrow0 HO2 HB2
      go_loopw [9, 12] (fun uv nv wq => ∃ (u1 : Nat) (ds : List UInt8), uv = .int .u64 u1 ∧ nv = .int .i64 ds.length ∧ ds.length < 20 ∧ u1 < 18446744073709551616 ∧ Hid (dv 0 ds.reverse + u1 * 10 ^ ds.length = u) ∧ Hid (∀ c ∈ ds, dig c) ∧ Hid (wq.rowIs B 42 20 (rowF ds)) ∧ Hid (Out wq g t) ∧ Hid (Below g w wq)) (fun uv _ _ => (intOf uv).toNat)
      case atStart => exact ⟨u, [], rfl, rfl, by simp, by omega, (by simp [dv_nil] : dv 0 [] + u * 10 ^ 0 = u), (fun c hc => by cases hc), HR0.out.congr (fun j _ => by simp [rowF]), HO3, HB3⟩
      case round =>
        clear HR0 HO3 HB3
        obtain ⟨u1, ds, rfl, rfl, hds, hu1, HV, HD, HR, HO4, HB4⟩ := hrel
        have hdsn : ds.length < 20 := hds
        have hcl := HR.out.cell hds
        have hfz := HR.out.frozen ds.length
        generalize hn : ds.length = n at hcl hfz hds hdsn ⊢
        have HN := hide hn
        have em : (u1 : Int) % 10 = ((u1 % 10 : Nat) : Int) := by omega
        have ed : (u1 : Int) / 10 = ((u1 / 10 : Nat) : Int) := by omega
        have em2 : u1 % 10 < 10 := Nat.mod_lt _ (by decide)
        have HEM := hide em2
        generalize hmm : u1 % 10 = m10 at em em2 HEM ⊢
        generalize hdd : u1 / 10 = d10 at ed ⊢
        have HM := hide hmm
        have HDD := hide hdd
        clear hmm hdd hn
        by_cases hq : d10 = 0
        · subst hq
          have hq2 : ((u1 : Int) / 10 == 0) = true := by rw [ed]; rfl
          go_wp2
          have HR5 : Hid ((wr.setCell ⟨B, n, none⟩ (.int .u8 (48 + (m10 : Int)))).rowIs B 42 20 (rowF (ds ++ [UInt8.ofNat (48 + m10)]))) := buf_step HR.out HN.out HEM.out
          have HO5 : Hid (Out (wr.setCell ⟨B, n, none⟩ (.int .u8 (48 + (m10 : Int)))) g t) := HO4.out.set (by omega) _ _
          have HB5 : Hid (Below g w (wr.setCell ⟨B, n, none⟩ (.int .u8 (48 + (m10 : Int))))) := HB4.out.setCell (by show g ≤ B; omega) _
          have HG : Hid (Digs u (ds ++ [UInt8.ofNat (48 + m10)]).reverse) := digs_end ds u1 u m10 HV.out HD.out HM.out HDD.out (by rw [HN.out]; omega)
          have hnl : n + 1 = (ds ++ [UInt8.ofNat (48 + m10)]).length := by simp [HN.out]
          have en : ((n : Int) + 1) = ((ds ++ [UInt8.ofNat (48 + m10)]).length : Int) := by rw [← hnl]; rfl
          rw [en]
          generalize wr.setCell ⟨B, n, none⟩ (.int .u8 (48 + (m10 : Int))) = wb at HR5 HO5 HB5 ⊢
          generalize ds ++ [UInt8.ofNat (48 + m10)] = es at HR5 HG hnl ⊢
          clear HR HO4 HB4 HV HD hcl hfz hq2 em ed HM HDD en em2 HEM HN
          go_loopw [0, 12] (fun o nv wq => ∃ k : Nat, k ≤ es.length ∧ nv = .int .i64 k ∧ o = .slice (some ⟨g, 0, none⟩) (t ++ (es.drop k).reverse).length 96 ∧ Hid (wq.rowIs B 42 20 (rowF es)) ∧ Hid (Out wq g (t ++ (es.drop k).reverse)) ∧ Hid (Below g w wq)) (fun _ nv _ => (intOf nv).toNat)
          case atStart => exact ⟨es.length, Nat.le_refl _, rfl, by simp, HR5, by simpa using HO5, HB5⟩
          case round =>
            clear HR5 HO5 HB5
            obtain ⟨k, hk, rfl, rfl, HR6, HO6, HB6⟩ := hrel
            have hel : es.length ≤ 20 := by omega
            by_cases hk0 : k = 0
            · subst hk0
              rw [List.drop_zero] at HO6 ⊢
              generalize hs : t ++ es.reverse = s at HO6 ⊢
              have HS := hide hs
              clear hs
              go_wp2
              go_ret
              have e : l ++ ([43] ++ (List.replicate k 48 ++ es.reverse)) = s := by rw [← List.append_assoc, HT0.out, ← List.append_assoc, HT.out, HS.out]
              have e2 := e
              simp only [List.cons_append, List.nil_append] at e2
              exact ⟨es.reverse, HG.out, by rw [e2]; rfl, by rw [e2]; exact HO6.out, HB6.out⟩
            · have hm : ((k : Int) - 1) = ((k - 1 : Nat) : Int) := by omega
              have hkp : (0 : Int) < (k : Int) := by omega
              have hk1 : k - 1 < es.length := by omega
              have hst := take_step es k hk0 hk
              have hx := row_at HR6.out (k - 1) hk1 (by omega)
              have hs75 : (t ++ (es.drop k).reverse).length ≤ 95 := by rw [List.length_append, List.length_reverse, List.length_drop]; omega
              generalize hs : t ++ (es.drop k).reverse = s at HO6 hs75 ⊢
              have HSS : Hid (t ++ (es.drop (k - 1)).reverse = s ++ [es.getD (k - 1) 0]) := by rw [← hs, List.append_assoc, ← hst]; exact rfl
              generalize es.getD (k - 1) 0 = x at hx HSS ⊢
              have hgr2 : g < wr.heap.size := HO6.out.lt
              generalize hkk : k - 1 = k1 at hm hk1 hx HSS ⊢
              have HK := hide hkk
              clear hs hst hkk
              go_wp2_with (at_builtin; refine wpList_append_own_spare _ rfl _ _ 22 rfl g 5 i0 1 Tryf.underlying22 hi hz1 g s.length 96 _ rfl (World.ownsRow.alloc HO6.out _) ⟨wr.heap.size, 0, none⟩ 1 1 ([x].map bv) rfl rfl (cells_new wr [x] _ 5 rfl) (one_cell _) (by omega) ?_; intro w2 hown1 hgrow1)
              have hrw := HR6.out.alloc (.cells #[.int .u8 (x.toNat : Int)] 5)
              have hr2 : w2.rowIs B 42 20 (rowF es) := hrw.of_block (hgrow1.block B hrw.lt (by intro h; injection h with h; omega))
              have hkk := HK.out
              refine ⟨⟨k1, by omega, rfl, by rw [HSS.out, List.length_append]; rfl, hr2, by rw [HSS.out]; exact Out.app (k := 0) rfl rfl hown1, HB6.out.trans (Out.below hgr2 hgrow1)⟩, ?_⟩
              simp only [intOf]
              omega
        · have hq2 : ((d10 : Int) == 0) = false := by simp; omega
          go_wp2
          have e48 : (ds ++ [UInt8.ofNat (48 + m10)]).length = n + 1 := by simp [HN.out]
          have hst := dig_step ds u1 u HV.out (UInt8.ofNat (48 + m10)) (by rw [HM.out, dig_nat _ HEM.out])
          rw [HDD.out] at hst
          refine ⟨⟨d10, ds ++ [UInt8.ofNat (48 + m10)], rfl, by rw [e48]; rfl, len_lt _ d10 u hst (by omega) (by omega), by omega, hst, dig_snoc HD.out HEM.out, buf_step HR.out HN.out HEM.out, HO4.out.set (by omega) _ _, HB4.out.setCell (by show g ≤ B; omega) _⟩, ?_⟩
          have := HDD.out
          simp only [intOf]
          omega

set_option maxRecDepth 100000 in
set_option maxHeartbeats 4000000 in
theorem int12_bare (g : Nat) (l : List UInt8) (u z : Nat) (w : World) (hu2 : u < 9223372036854775808) (hz : z ≤ 3) (hO : Out w g l) (hroom : l.length + 24 ≤ 96) :
    Calls Tryf.prog 12 #[.slice (some ⟨g, 0, none⟩) l.length 96, .int .i64 (u : Int), .bool false, .int .i64 z] w fun e w' =>
      ∃ D : List UInt8, Digs u D ∧ e = .returned (.slice (some ⟨g, 0, none⟩) (l ++ ([] ++ (List.replicate z 48 ++ D))).length 96) ∧ Out w' g (l ++ ([] ++ (List.replicate z 48 ++ D))) ∧ Below g w w' := by
  obtain ⟨i0, hi, hz0, hz1, hz2⟩ := info_parts Tryf.info5
  have hg := hO.lt
  go_enter Tryf.func12, Tryf.ntmps12
  have HO1 : Hid (Out w g l) := hO
  have HB1 : Hid (Below g w w) := Below.refl _ _
  have hl0 : l.length ≤ 73 := by omega
  have HT0 : Hid (l ++ [] = l) := List.append_nil l
  clear hO
  go_wp2
  go_loopw [0, 10] (fun o i wr => ∃ k : Nat, k ≤ z ∧ i = .int .i64 k ∧ o = .slice (some ⟨g, 0, none⟩) (l ++ List.replicate k 48).length 96 ∧ Hid (Out wr g (l ++ List.replicate k 48)) ∧ Hid (Below g w wr)) (fun _ i _ => z - (intOf i).toNat)
  case atStart => exact ⟨0, Nat.zero_le _, rfl, by simp, by simpa using HO1, HB1⟩
  case round =>
    obtain ⟨k, hk, rfl, rfl, HO2, HB2⟩ := hrel
    by_cases hlt : k < z
    · have hl2 : (l ++ List.replicate k (48 : UInt8)).length ≤ 75 := by simp; omega
      generalize ht : l ++ List.replicate k (48 : UInt8) = t at HO2 hl2 ⊢
      have HT := hide ht
      have hgr : g < wr.heap.size := HO2.out.lt
      clear ht
      go_wp2_with (at_builtin; refine wpList_append_own_spare _ rfl _ _ 22 rfl g 5 i0 1 Tryf.underlying22 hi hz1 g t.length 96 _ rfl (World.ownsRow.alloc (HO2.out) _) ⟨wr.heap.size, 0, none⟩ 1 1 ([48].map bv) rfl rfl (cells_new wr [48] _ 5 rfl) (one_cell _) (by omega) ?_; intro w2 hown1 hgrow1)
      go_roundw
      case rel =>
        have e : l ++ List.replicate (k + 1) (48 : UInt8) = t ++ [48] := by rw [rep_snoc, ← List.append_assoc, HT.out]
        exact ⟨k + 1, by omega, by go_num, by rw [e, List.length_append]; rfl, by rw [e]; exact Out.app (k := 0) rfl rfl hown1, HB2.out.trans (Out.below hgr hgrow1)⟩
      case measure => simp [intOf]; omega
    · obtain rfl : k = z := by omega
      have hl2 : (l ++ List.replicate k (48 : UInt8)).length ≤ 76 := by simp; omega
      generalize ht : l ++ List.replicate k (48 : UInt8) = t at HO2 hl2 ⊢
      have HT := hide ht
      have hgr : g < wr.heap.size := HO2.out.lt
      clear ht hlt
      go_wp2
      have hrow0 : (wr.alloc (.cells #[.int .u8 0, .int .u8 0, .int .u8 0, .int .u8 0, .int .u8 0, .int .u8 0, .int .u8 0, .int .u8 0, .int .u8 0, .int .u8 0, .int .u8 0, .int .u8 0, .int .u8 0, .int .u8 0, .int .u8 0, .int .u8 0, .int .u8 0, .int .u8 0, .int .u8 0, .int .u8 0] 42)).rowIs wr.heap.size 42 20 (fun _ => .int .u8 0) := World.rowIs_alloc wr #[.int .u8 0, .int .u8 0, .int .u8 0, .int .u8 0, .int .u8 0, .int .u8 0, .int .u8 0, .int .u8 0, .int .u8 0, .int .u8 0, .int .u8 0, .int .u8 0, .int .u8 0, .int .u8 0, .int .u8 0, .int .u8 0, .int .u8 0, .int .u8 0, .int .u8 0, .int .u8 0] 42 (fun _ => .int .u8 0) zero20
      have HO3 : Hid (Out (wr.alloc (.cells #[.int .u8 0, .int .u8 0, .int .u8 0, .int .u8 0, .int .u8 0, .int .u8 0, .int .u8 0, .int .u8 0, .int .u8 0, .int .u8 0, .int .u8 0, .int .u8 0, .int .u8 0, .int .u8 0, .int .u8 0, .int .u8 0, .int .u8 0, .int .u8 0, .int .u8 0, .int .u8 0] 42)) g t) := World.ownsRow.alloc HO2.out _
      have HB3 : Hid (Below g w (wr.alloc (.cells #[.int .u8 0, .int .u8 0, .int .u8 0, .int .u8 0, .int .u8 0, .int .u8 0, .int .u8 0, .int .u8 0, .int .u8 0, .int .u8 0, .int .u8 0, .int .u8 0, .int .u8 0, .int .u8 0, .int .u8 0, .int .u8 0, .int .u8 0, .int .u8 0, .int .u8 0, .int .u8 0] 42))) := HB2.out.alloc (by omega) _
      generalize wr.alloc (.cells #[.int .u8 0, .int .u8 0, .int .u8 0, .int .u8 0, .int .u8 0, .int .u8 0, .int .u8 0, .int .u8 0, .int .u8 0, .int .u8 0, .int .u8 0, .int .u8 0, .int .u8 0, .int .u8 0, .int .u8 0, .int .u8 0, .int .u8 0, .int .u8 0, .int .u8 0, .int .u8 0] 42) = wa at hrow0 HO3 HB3 ⊢
      generalize wr.heap.size = B at hrow0 hgr ⊢
      have HR0 := hide hrow0
      clear hrow0 HO2 HB2
      go_loopw [9, 12] (fun uv nv wq => ∃ (u1 : Nat) (ds : List UInt8), uv = .int .u64 u1 ∧ nv = .int .i64 ds.length ∧ ds.length < 20 ∧ u1 < 18446744073709551616 ∧ Hid (dv 0 ds.reverse + u1 * 10 ^ ds.length = u) ∧ Hid (∀ c ∈ ds, dig c) ∧ Hid (wq.rowIs B 42 20 (rowF ds)) ∧ Hid (Out wq g t) ∧ Hid (Below g w wq)) (fun uv _ _ => (intOf uv).toNat)
      case atStart => exact ⟨u, [], rfl, rfl, by simp, by omega, (by simp [dv_nil] : dv 0 [] + u * 10 ^ 0 = u), (fun c hc => by cases hc), HR0.out.congr (fun j _ => by simp [rowF]), HO3, HB3⟩
      case round =>
        clear HR0 HO3 HB3
        obtain ⟨u1, ds, rfl, rfl, hds, hu1, HV, HD, HR, HO4, HB4⟩ := hrel
        have hdsn : ds.length < 20 := hds
        have hcl := HR.out.cell hds
        have hfz := HR.out.frozen ds.length
        generalize hn : ds.length = n at hcl hfz hds hdsn ⊢
        have HN := hide hn
        have em : (u1 : Int) % 10 = ((u1 % 10 : Nat) : Int) := by omega
        have ed : (u1 : Int) / 10 = ((u1 / 10 : Nat) : Int) := by omega
        have em2 : u1 % 10 < 10 := Nat.mod_lt _ (by decide)
        have HEM := hide em2
        generalize hmm : u1 % 10 = m10 at em em2 HEM ⊢
        generalize hdd : u1 / 10 = d10 at ed ⊢
        have HM := hide hmm
        have HDD := hide hdd
        clear hmm hdd hn
        by_cases hq : d10 = 0
        · subst hq
          have hq2 : ((u1 : Int) / 10 == 0) = true := by rw [ed]; rfl
          go_wp2
          have HR5 : Hid ((wr.setCell ⟨B, n, none⟩ (.int .u8 (48 + (m10 : Int)))).rowIs B 42 20 (rowF (ds ++ [UInt8.ofNat (48 + m10)]))) := buf_step HR.out HN.out HEM.out
          have HO5 : Hid (Out (wr.setCell ⟨B, n, none⟩ (.int .u8 (48 + (m10 : Int)))) g t) := HO4.out.set (by omega) _ _
          have HB5 : Hid (Below g w (wr.setCell ⟨B, n, none⟩ (.int .u8 (48 + (m10 : Int))))) := HB4.out.setCell (by show g ≤ B; omega) _
          have HG : Hid (Digs u (ds ++ [UInt8.ofNat (48 + m10)]).reverse) := digs_end ds u1 u m10 HV.out HD.out HM.out HDD.out (by rw [HN.out]; omega)
          have hnl : n + 1 = (ds ++ [UInt8.ofNat (48 + m10)]).length := by simp [HN.out]
          have en : ((n : Int) + 1) = ((ds ++ [UInt8.ofNat (48 + m10)]).length : Int) := by rw [← hnl]; rfl
          rw [en]
          generalize wr.setCell ⟨B, n, none⟩ (.int .u8 (48 + (m10 : Int))) = wb at HR5 HO5 HB5 ⊢
          generalize ds ++ [UInt8.ofNat (48 + m10)] = es at HR5 HG hnl ⊢
          clear HR HO4 HB4 HV HD hcl hfz hq2 em ed HM HDD en em2 HEM HN
          go_loopw [0, 12] (fun o nv wq => ∃ k : Nat, k ≤ es.length ∧ nv = .int .i64 k ∧ o = .slice (some ⟨g, 0, none⟩) (t ++ (es.drop k).reverse).length 96 ∧ Hid (wq.rowIs B 42 20 (rowF es)) ∧ Hid (Out wq g (t ++ (es.drop k).reverse)) ∧ Hid (Below g w wq)) (fun _ nv _ => (intOf nv).toNat)
          case atStart => exact ⟨es.length, Nat.le_refl _, rfl, by simp, HR5, by simpa using HO5, HB5⟩
          case round =>
            clear HR5 HO5 HB5
            obtain ⟨k, hk, rfl, rfl, HR6, HO6, HB6⟩ := hrel
            have hel : es.length ≤ 20 := by omega
            by_cases hk0 : k = 0
            · subst hk0
              rw [List.drop_zero] at HO6 ⊢
              generalize hs : t ++ es.reverse = s at HO6 ⊢
              have HS := hide hs
              clear hs
              go_wp2
              go_ret
              have e : l ++ ([] ++ (List.replicate k 48 ++ es.reverse)) = s := by rw [← List.append_assoc, HT0.out, ← List.append_assoc, HT.out, HS.out]
              have e2 := e
              simp only [List.cons_append, List.nil_append] at e2
              exact ⟨es.reverse, HG.out, by rw [e2]; rfl, by rw [e2]; exact HO6.out, HB6.out⟩
            · have hm : ((k : Int) - 1) = ((k - 1 : Nat) : Int) := by omega
              have hkp : (0 : Int) < (k : Int) := by omega
              have hk1 : k - 1 < es.length := by omega
              have hst := take_step es k hk0 hk
              have hx := row_at HR6.out (k - 1) hk1 (by omega)
              have hs75 : (t ++ (es.drop k).reverse).length ≤ 95 := by rw [List.length_append, List.length_reverse, List.length_drop]; omega
              generalize hs : t ++ (es.drop k).reverse = s at HO6 hs75 ⊢
              have HSS : Hid (t ++ (es.drop (k - 1)).reverse = s ++ [es.getD (k - 1) 0]) := by rw [← hs, List.append_assoc, ← hst]; exact rfl
              generalize es.getD (k - 1) 0 = x at hx HSS ⊢
              have hgr2 : g < wr.heap.size := HO6.out.lt
              generalize hkk : k - 1 = k1 at hm hk1 hx HSS ⊢
              have HK := hide hkk
              clear hs hst hkk
              go_wp2_with (at_builtin; refine wpList_append_own_spare _ rfl _ _ 22 rfl g 5 i0 1 Tryf.underlying22 hi hz1 g s.length 96 _ rfl (World.ownsRow.alloc HO6.out _) ⟨wr.heap.size, 0, none⟩ 1 1 ([x].map bv) rfl rfl (cells_new wr [x] _ 5 rfl) (one_cell _) (by omega) ?_; intro w2 hown1 hgrow1)
              have hrw := HR6.out.alloc (.cells #[.int .u8 (x.toNat : Int)] 5)
              have hr2 : w2.rowIs B 42 20 (rowF es) := hrw.of_block (hgrow1.block B hrw.lt (by intro h; injection h with h; omega))
              have hkk := HK.out
              refine ⟨⟨k1, by omega, rfl, by rw [HSS.out, List.length_append]; rfl, hr2, by rw [HSS.out]; exact Out.app (k := 0) rfl rfl hown1, HB6.out.trans (Out.below hgr2 hgrow1)⟩, ?_⟩
              simp only [intOf]
              omega
        · have hq2 : ((d10 : Int) == 0) = false := by simp; omega
          go_wp2
          have e48 : (ds ++ [UInt8.ofNat (48 + m10)]).length = n + 1 := by simp [HN.out]
          have hst := dig_step ds u1 u HV.out (UInt8.ofNat (48 + m10)) (by rw [HM.out, dig_nat _ HEM.out])
          rw [HDD.out] at hst
          refine ⟨⟨d10, ds ++ [UInt8.ofNat (48 + m10)], rfl, by rw [e48]; rfl, len_lt _ d10 u hst (by omega) (by omega), by omega, hst, dig_snoc HD.out HEM.out, buf_step HR.out HN.out HEM.out, HO4.out.set (by omega) _ _, HB4.out.setCell (by show g ≤ B; omega) _⟩, ?_⟩
          have := HDD.out
          simp only [intOf]
          omega

end Go.Proofs.Qxb6600209aFmt
