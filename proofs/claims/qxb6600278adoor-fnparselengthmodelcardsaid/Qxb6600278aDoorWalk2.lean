import Derived.Test.Qxb6600278aDoorWalk
namespace Go.Proofs.Qxb6600278aDoor
open Go.RowKit

theorem pint_ok (s : ByteArray) (hn : s.size ≤ 1048576) (v : Int) (h : Lib.parseIntB 64 s.data.toList = .ok v) (w : World) :
    Calls Tryd.prog 19 #[.string s, .int .i64 10, .int .i64 64] w fun e w' => e = .returned (.tuple #[.int .i64 v, .nilIface]) ∧ Below w.heap.size w w' :=
  (Any.strconv_ParseInt_10_at64_ok Tryd.laysC174 s (by omega) v h w).mono fun e w' ⟨he, hw⟩ => ⟨he, by
    rcases hw with rfl | ⟨t, rfl⟩
    · exact Below.refl _ _
    · exact Lib.bytesWorld_below _ _ _⟩

theorem pint_range (s : ByteArray) (hn : s.size ≤ 1048576) (h : Lib.parseIntB 64 s.data.toList = .range) (w : World) (te : TypeId) (pe : Value) (hR : w.cell? ⟨1, 0, none⟩ = some (.iface te pe)) :
    Calls Tryd.prog 19 #[.string s, .int .i64 10, .int .i64 64] w fun e w' => (∃ a, e = .returned (.tuple #[.int .i64 (Lib.intSat 64 s.data.toList), .iface 48 (.pointer (some a))])) ∧ Below w.heap.size w w' :=
  (Any.strconv_ParseInt_10_at64_range Tryd.laysC174 s (by omega) h _ w hR (Or.inr ⟨_, _, rfl⟩)).mono fun e w' ⟨N, he, _, _, hb⟩ => ⟨⟨_, he⟩, hb⟩

set_option maxRecDepth 100000 in
set_option maxHeartbeats 1000000 in
/-- digits alone, at least one: as the call of strconv.ParseInt ends -/
theorem plen_of (s : ByteArray) (w : World) (hn : s.size ≤ 1048576) (h0 : s.size ≠ 0) (h : ∀ j, j < s.size → digAt s j) (n : Int) (x : Value) (ok : Bool) (hx : (x = .nilIface ∧ ok = true) ∨ (∃ a, x = .iface 48 (.pointer (some a))) ∧ ok = false)
    (Q : World → Prop) (hQ : ∀ w q, Q w → Q (World.drewN w q)) (hcall : Calls Tryd.prog 19 #[.string s, .int .i64 10, .int .i64 64] w fun e w' => e = .returned (.tuple #[.int .i64 n, x]) ∧ Q w') :
    Calls Tryd.prog 9 #[.string s] w fun e w' => e = .returned (.tuple #[.int .i64 n, .bool ok]) ∧ Q w' := by
  have hne := ne_nil h0
  have HA := hide h
  have HC := hide hcall
  have HQ := hide hQ
  clear h hcall hQ
  go_enter Tryd.func9, Tryd.ntmps9
  go_wp2
  go_loopw [4] (fun i wr => (∃ k : Nat, k ≤ s.size ∧ i = .int .i64 k) ∧ wr = w) (fun i _ => s.size - (intOf i).toNat)
  case atStart => exact ⟨⟨0, Nat.zero_le _, rfl⟩, rfl⟩
  case round =>
    obtain ⟨⟨k, hk, rfl⟩, rfl⟩ := hrel
    by_cases hlt : k < s.size
    · have hb := byte_at s k hlt
      have hd' := HA.out k hlt
      unfold digAt isDig at hd'
      rw [hb] at hd'
      obtain ⟨d1, d2⟩ := hd'
      have e1 : (48 : Int) ≤ (s[k].toNat : Int) := by omega
      have e2 : (s[k].toNat : Int) ≤ 57 := by omega
      clear hb d1 d2
      go_wp2
      go_roundw
      case rel => exact ⟨⟨k + 1, by omega, by go_num⟩, by trivial⟩
      case measure => simp [intOf]; omega
    · go_wp2_with fail
      refine (unhide HC).mono ?_
      rintro e w1 ⟨rfl, hq⟩
      have HQ1 := hide hq
      clear hq
      rcases hx with ⟨rfl, rfl⟩ | ⟨⟨a, rfl⟩, rfl⟩
      all_goals
        go_wp2_with fail
        go_quiet (fail)
        go_wp2
        go_ret2
        exact ⟨rfl, HQ.out _ _ HQ1.out⟩
end Go.Proofs.Qxb6600278aDoor
