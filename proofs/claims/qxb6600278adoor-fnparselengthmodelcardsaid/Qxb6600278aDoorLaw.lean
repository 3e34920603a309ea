import Derived.Test.Qxb6600278aDoorModel
namespace Go.Proofs.Qxb6600278aDoor
open Go.RowKit
set_option linter.unusedVariables false

set_option maxRecDepth 100000 in
set_option maxHeartbeats 1000000 in
/-- digits alone, at least one, out of range -/
theorem plen_rng (s : ByteArray) (w : World) (hn : s.size ≤ 1048576) (h0 : s.size ≠ 0) (h : ∀ j, j < s.size → digAt s j) (n : Int)
    (Q : World → Prop) (hQ : ∀ w q, Q w → Q (World.drewN w q)) (hcall : Calls Tryd.prog 19 #[.string s, .int .i64 10, .int .i64 64] w fun e w' => (∃ a, e = .returned (.tuple #[.int .i64 n, .iface 48 (.pointer (some a))])) ∧ Q w') :
    Calls Tryd.prog 9 #[.string s] w fun e w' => e = .returned (.tuple #[.int .i64 n, .bool false]) ∧ Q w' := by
  have hne := ne_nil h0
  have HA := hide h
  have HC := hide hcall
  have HQ := hide hQ
  clear h hcall hQ
  go_enter Tryd.func9, Tryd.ntmps9
  go_wp2
  go_loopw [4] (fun i wr => (∃ k : Nat, k ≤ s.size ∧ i = .int .i64 k) ∧ wr = w) (fun i _ => s.size - (intOf i).toNat)
  case atStart => exact ⟨⟨0, Nat.zero_le _, rfl⟩, rfl⟩
  case round =>
    obtain ⟨⟨k, hk, rfl⟩, rfl⟩ := hrel
    by_cases hlt : k < s.size
    · have hb := byte_at s k hlt
      have hd' := HA.out k hlt
      unfold digAt isDig at hd'
      rw [hb] at hd'
      obtain ⟨d1, d2⟩ := hd'
      have e1 : (48 : Int) ≤ (s[k].toNat : Int) := by omega
      have e2 : (s[k].toNat : Int) ≤ 57 := by omega
      clear hb d1 d2
      go_wp2
      go_roundw
      case rel => exact ⟨⟨k + 1, by omega, by go_num⟩, by trivial⟩
      case measure => simp [intOf]; omega
    · go_wp2_with fail
      refine (unhide HC).mono ?_
      rintro e w1 ⟨⟨a, rfl⟩, hq⟩
      have HQ1 := hide hq
      clear hq
      go_wp2_with fail
      go_quiet (fail)
      go_wp2
      go_ret2
      exact ⟨rfl, HQ.out _ _ HQ1.out⟩

set_option maxRecDepth 100000 in
set_option maxHeartbeats 1000000 in
theorem model_bad (s : ByteArray) (w : World) (hn : s.size ≤ 1048576) (h : s.size = 0 ∨ ∃ j, j < s.size ∧ ¬ digAt s j) :
    Calls Tryd.prog 10 #[.string s] w fun e w' => e = .returned (.tuple #[.int .i64 0, .bool false]) ∧ w' = w := by
  by_cases h0 : s.size = 0
  · have hz : ((s.size : Int) == 0) = true := by rw [beq_iff_eq]; omega
    clear h
    go_enter Tryd.func10, Tryd.ntmps10
    go_wp2
    go_ret2
    exact ⟨rfl, rfl⟩
  · have hz : ((s.size : Int) == 0) = false := by
      rw [beq_eq_false_iff_ne]; omega
    have hbad : ∃ j, j < s.size ∧ ¬ digAt s j := by rcases h with h | h; exact absurd h h0; exact h
    have HBD := hide hbad
    clear h hbad
    go_enter Tryd.func10, Tryd.ntmps10
    go_wp2
    go_loop [4] (fun i => ∃ k : Nat, k ≤ s.size ∧ i = .int .i64 k ∧ Hid (∀ j, j < k → digAt s j)) (fun i => s.size - (intOf i).toNat)
    case atStart => exact ⟨0, Nat.zero_le _, rfl, fun j hj => absurd hj (Nat.not_lt_zero _)⟩
    case round =>
      obtain ⟨k, hk, rfl, HD⟩ := hrel
      by_cases hlt : k < s.size
      · have hb := byte_at s k hlt
        by_cases hd : digAt s k
        · have hd' := hd
          unfold digAt isDig at hd'
          rw [hb] at hd'
          obtain ⟨d1, d2⟩ := hd'
          have e1 : (48 : Int) ≤ (s[k].toNat : Int) := by omega
          have e2 : (s[k].toNat : Int) ≤ 57 := by omega
          have HDK := hide hd
          clear hd hb d1 d2
          go_wp2
          go_round
          case rel =>
            refine ⟨k + 1, by omega, by go_num, fun j hj => ?_⟩
            by_cases e : j = k
            · subst e; exact HDK.out
            · exact HD.out j (by omega)
          case measure => simp [intOf]; omega
        · unfold digAt isDig at hd
          rw [hb] at hd
          clear hb
          by_cases e1 : (s[k].toNat : Int) < 48
          · clear hd
            go_wp2
            go_ret2
            exact ⟨rfl, rfl⟩
          · have e2 : (57 : Int) < (s[k].toNat : Int) := by omega
            clear hd
            go_wp2
            go_ret2
            exact ⟨rfl, rfl⟩
      · obtain ⟨j, hj, hjd⟩ := HBD.out
        exact absurd (HD.out j (by omega)) hjd

/-- both answers alike: the law answers true -/
theorem law_of (s : ByteArray) (w : World) (hn : s.size ≤ 1048576) (v : Int) (ok : Bool)
    (hp : Calls Tryd.prog 9 #[.string s] w fun e w' => e = .returned (.tuple #[.int .i64 v, .bool ok]) ∧ Below w.heap.size w w')
    (hm : ∀ w, Calls Tryd.prog 10 #[.string s] w fun e w' => e = .returned (.tuple #[.int .i64 v, .bool ok]) ∧ w' = w) :
    Calls Tryd.prog 3 #[.string s] w fun e w' => e = .returned (.bool true) ∧ Below w.heap.size w w' := by
  have HP := hide hp
  have HM := hide hm
  have h1 : decide (s.size ≤ 1048576) = true := by simpa using hn
  have HB := hide (fun w => bytes8 s w (by omega))
  clear hp hm
  go_enter Tryd.func3, Tryd.ntmps3
  go_wp2_with fail
  refine (HB.out _).mono ?_
  rintro e w0 ⟨rfl, rfl⟩
  rw [h1]
  go_wp2_with fail
  refine (unhide HP).mono ?_
  rintro e w1 ⟨rfl, hb⟩
  have HBL := hide hb
  clear hb
  go_wp2_with fail
  refine (HM.out _).mono ?_
  rintro e w2 ⟨rfl, rfl⟩
  have hv : (v == v) = true := by simp
  cases ok
  all_goals
    go_wp2
    go_ret
    exact ⟨rfl, HBL.out⟩

theorem law_long (s : ByteArray) (w : World) (hn : ¬ s.size ≤ 1048576) (hn2 : s.size ≤ 9223372036854775807) :
    Calls Tryd.prog 3 #[.string s] w fun e w' => e = .returned (.bool true) ∧ Below w.heap.size w w' := by
  have h1 : decide (s.size ≤ 1048576) = false := by simpa using hn
  have HB := hide (fun w => bytes8 s w hn2)
  clear hn
  go_enter Tryd.func3, Tryd.ntmps3
  go_wp2_with fail
  refine (HB.out _).mono ?_
  rintro e w0 ⟨rfl, rfl⟩
  rw [h1]
  go_wp2
  go_ret
  exact ⟨rfl, Below.refl _ _⟩

theorem drewN_below {B : Nat} {a w : World} (h : Below B a w) (n : Nat) : Below B a (w.drewN n) := h.trans ⟨rfl, rfl, rfl, Nat.le_refl _, fun _ _ => rfl⟩

/-- every text: the law answers true -/
theorem law_any (s : ByteArray) (w : World) (hn2 : s.size ≤ 9223372036854775807) (te : TypeId) (pe : Value) (hR : w.cell? ⟨1, 0, none⟩ = some (.iface te pe)) :
    Calls Tryd.prog 3 #[.string s] w fun e w' => e = .returned (.bool true) ∧ Below w.heap.size w w' := by
  by_cases hn : s.size ≤ 1048576
  · by_cases h0 : s.size = 0
    · exact law_of s w hn 0 false ((plen_bad s w hn (Or.inl h0)).mono fun e w' ⟨h1, h2⟩ => ⟨h1, by rw [h2]; exact Below.refl _ _⟩) (fun w => model_bad s w hn (Or.inl h0))
    · by_cases hb : ∃ j, j < s.size ∧ ¬ digAt s j
      · exact law_of s w hn 0 false ((plen_bad s w hn (Or.inr hb)).mono fun e w' ⟨h1, h2⟩ => ⟨h1, by rw [h2]; exact Below.refl _ _⟩) (fun w => model_bad s w hn (Or.inr hb))
      · have hd : ∀ j, j < s.size → digAt s j := fun j hj => Classical.byContradiction fun hx => hb ⟨j, hj, hx⟩
        have hne : s.data.toList ≠ [] := by
          intro hx
          have := len_of s
          rw [hx] at this
          exact h0 this.symm
        have hp := parseIntB_dig s.data.toList hne (all_dig s hd)
        by_cases hbig : 9223372036854775807 < dval 0 s.data.toList
        · rw [if_neg (by omega)] at hp
          have hi := intSat_dig s.data.toList hne (all_dig s hd)
          have hc := pint_range s hn hp w te pe hR
          rw [hi] at hc
          refine law_of s w hn 9223372036854775807 false ?_ (fun w => model_big s w hn h0 hd hbig)
          exact plen_rng s w hn h0 hd 9223372036854775807 (Below w.heap.size w) (fun _ q h => drewN_below h q) hc
        · rw [if_pos (by omega)] at hp
          have hc := pint_ok s hn _ hp w
          exact law_of s w hn _ true (plen_of s w hn h0 hd _ .nilIface true (Or.inl ⟨rfl, rfl⟩) (Below w.heap.size w) (fun _ q h => drewN_below h q) hc) (fun w => model_small s w hn h0 hd (by omega))
  · exact law_long s w hn hn2
end Go.Proofs.Qxb6600278aDoor
