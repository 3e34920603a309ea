import Derived.Test.Qxb6600233aBytes
namespace Go.Proofs.Qxb6600233a
open Go.RowKit
set_option linter.unusedVariables false

def IsBool (e : Ending) : Prop := ∃ b : Bool, e = .returned (.bool b)

set_option maxRecDepth 100000 in
set_option maxHeartbeats 4000000 in
theorem zz13 (p p2 : Option Addr) (ss : List St) (os : List Ov) (c c2 : Nat) (w : World) (hl1 : ss.length ≤ 9223372036854775807) (hl2 : os.length ≤ 9223372036854775807) (hS : SetsAt w p ss) (hz : SzS ss) (hO : OvsAt w p2 os) (hzo : SzO os) :
    Calls Try.prog 13 #[.slice p ss.length c, .slice p2 os.length c2] w fun e w' => IsBool e ∧ w' = w := by
  have HS := hide hS
  have HZ := hide hz
  have HO := hide hO
  have HZO := hide hzo
  clear hS hz hO hzo
  by_cases hb1 : (1048576 : Int) < (ss.length : Int)
  · go_enter Try.func13, Try.ntmps13
    go_wp2
    go_ret
    exact ⟨⟨_, rfl⟩, rfl⟩
  · go_enter Try.func13, Try.ntmps13
    go_wp2
    go_loop [5, 6] (fun n i => ∃ k m : Nat, k ≤ ss.length ∧ i = .int .i64 k ∧ n = .int .i64 m ∧ m ≤ 1048576) (fun _ i => ss.length - (intOf i).toNat)
    case atStart => exact ⟨0, _, Nat.zero_le _, rfl, rfl, by omega⟩
    case round =>
      obtain ⟨k, m, hk, rfl, rfl, hm⟩ := hrel
      by_cases hlt : k < ss.length
      · have hget : ss[k]? = some ss[k] := List.getElem?_eq_getElem hlt
        obtain ⟨hz1, hz2⟩ := HZ.out ss[k] (List.getElem_mem hlt)
        obtain ⟨b, off, rfl, c0, c1, c2⟩ := HS.out k ss[k] hget
        generalize ss[k] = s at hz1 hz2 c0 c1 c2
        generalize hx : s.nm = x at hz1 c0
        generalize hy : s.vl = y at hz2 c1
        clear hget hx hy c2
        by_cases hx1 : (1048576 : Int) < (x.size : Int)
        · go_wp2
          go_ret
          exact ⟨⟨_, rfl⟩, rfl⟩
        · by_cases hx2 : (1048576 : Int) < (m : Int) + (x.size : Int)
          · go_wp2
            go_ret
            exact ⟨⟨_, rfl⟩, rfl⟩
          · by_cases hy1 : (1048576 : Int) < (y.size : Int)
            · go_wp2
              go_ret
              exact ⟨⟨_, rfl⟩, rfl⟩
            · by_cases hy2 : (1048576 : Int) < (m : Int) + (x.size : Int) + (y.size : Int)
              · go_wp2
                go_ret
                exact ⟨⟨_, rfl⟩, rfl⟩
              · go_wp2
                go_round
                case rel => exact ⟨k + 1, m + x.size + y.size, by omega, by go_num, by push_cast; rfl, by omega⟩
                case measure => simp [intOf]; omega
      · by_cases hb2 : (1048576 : Int) < (os.length : Int)
        · go_wp2
          go_ret
          exact ⟨⟨_, rfl⟩, rfl⟩
        · by_cases hb3 : (1048576 : Int) < (m : Int) + (os.length : Int)
          · go_wp2
            go_ret
            exact ⟨⟨_, rfl⟩, rfl⟩
          · go_wp2
            have em : (m : Int) + (os.length : Int) = ((m + os.length : Nat) : Int) := by push_cast; rfl
            rw [em]
            have hm2 : m + os.length ≤ 1048576 := by omega
            generalize m + os.length = m0 at hm2 ⊢
            clear em hb3
            go_loop [5, 7] (fun n i => ∃ k m : Nat, k ≤ os.length ∧ i = .int .i64 k ∧ n = .int .i64 m ∧ m ≤ 1048576) (fun _ i => os.length - (intOf i).toNat)
            case atStart => exact ⟨0, _, Nat.zero_le _, rfl, rfl, by omega⟩
            case round =>
              obtain ⟨k, m, hk, rfl, rfl, hm⟩ := hrel
              by_cases hlt : k < os.length
              · have hget : os[k]? = some os[k] := List.getElem?_eq_getElem hlt
                obtain ⟨hz1, hz2⟩ := HZO.out os[k] (List.getElem_mem hlt)
                obtain ⟨b, off, rfl, c0, c1⟩ := HO.out k os[k] hget
                generalize os[k] = s at hz1 hz2 c0 c1
                generalize hx : s.nm = x at hz1 c0
                generalize hy : s.vl = y at hz2 c1
                clear hget hx hy
                by_cases hx1 : (1048576 : Int) < (x.size : Int)
                · go_wp2
                  go_ret
                  exact ⟨⟨_, rfl⟩, rfl⟩
                · by_cases hx2 : (1048576 : Int) < (m : Int) + (x.size : Int)
                  · go_wp2
                    go_ret
                    exact ⟨⟨_, rfl⟩, rfl⟩
                  · by_cases hy1 : (1048576 : Int) < (y.size : Int)
                    · go_wp2
                      go_ret
                      exact ⟨⟨_, rfl⟩, rfl⟩
                    · by_cases hy2 : (1048576 : Int) < (m : Int) + (x.size : Int) + (y.size : Int)
                      · go_wp2
                        go_ret
                        exact ⟨⟨_, rfl⟩, rfl⟩
                      · go_wp2
                        go_round
                        case rel => exact ⟨k + 1, m + x.size + y.size, by omega, by go_num, by push_cast; rfl, by omega⟩
                        case measure => simp [intOf]; omega
              · go_wp2
                go_ret
                exact ⟨⟨_, rfl⟩, rfl⟩
end Go.Proofs.Qxb6600233a
