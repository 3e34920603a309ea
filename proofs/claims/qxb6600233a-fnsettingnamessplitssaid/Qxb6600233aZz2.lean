import Derived.Test.Qxb6600233aZz
namespace Go.Proofs.Qxb6600233a
open Go.RowKit
set_option linter.unusedVariables false

set_option maxRecDepth 100000 in
set_option maxHeartbeats 8000000 in
theorem zz19 (p p1 p2 : Option Addr) (sa sb : List St) (os : List Ov) (c c1 c2 : Nat) (w : World) (hl0 : sa.length ≤ 9223372036854775807) (hl1 : sb.length ≤ 9223372036854775807) (hl2 : os.length ≤ 9223372036854775807) (hS : SetsAt w p sa) (hz : SzS sa) (hS1 : SetsAt w p1 sb) (hz1 : SzS sb) (hO : OvsAt w p2 os) (hzo : SzO os) :
    Calls Try.prog 19 #[.slice p sa.length c, .slice p1 sb.length c1, .slice p2 os.length c2] w fun e w' => IsBool e ∧ w' = w := by
  have HS := hide hS
  have HZ := hide hz
  have HS1 := hide hS1
  have HZ1 := hide hz1
  have HO := hide hO
  have HZO := hide hzo
  clear hS hz hS1 hz1 hO hzo
  by_cases hb1 : (1048576 : Int) < (sa.length : Int)
  · go_enter Try.func19, Try.ntmps19
    go_wp2
    go_ret
    exact ⟨⟨_, rfl⟩, rfl⟩
  · go_enter Try.func19, Try.ntmps19
    go_wp2
    go_loop [7, 8] (fun n i => ∃ k m : Nat, k ≤ sa.length ∧ i = .int .i64 k ∧ n = .int .i64 m ∧ m ≤ 1048576) (fun _ i => sa.length - (intOf i).toNat)
    case atStart => exact ⟨0, _, Nat.zero_le _, rfl, rfl, by omega⟩
    case round =>
      obtain ⟨k, m, hk, rfl, rfl, hm⟩ := hrel
      by_cases hlt : k < sa.length
      · have hget : sa[k]? = some sa[k] := List.getElem?_eq_getElem hlt
        obtain ⟨hz1, hz2⟩ := HZ.out sa[k] (List.getElem_mem hlt)
        obtain ⟨b, off, rfl, c0, c1, c2⟩ := HS.out k sa[k] hget
        generalize sa[k] = s at hz1 hz2 c0 c1 c2
        generalize hx : s.nm = x at hz1 c0
        generalize hy : s.vl = y at hz2 c1
        clear hget hx hy c2
        by_cases hx1 : (1048576 : Int) < (x.size : Int)
        · go_wp2
          go_ret
          exact ⟨⟨_, rfl⟩, rfl⟩
        · by_cases hx2 : (1048576 : Int) < (m : Int) + (x.size : Int)
          · go_wp2
            go_ret
            exact ⟨⟨_, rfl⟩, rfl⟩
          · by_cases hy1 : (1048576 : Int) < (y.size : Int)
            · go_wp2
              go_ret
              exact ⟨⟨_, rfl⟩, rfl⟩
            · by_cases hy2 : (1048576 : Int) < (m : Int) + (x.size : Int) + (y.size : Int)
              · go_wp2
                go_ret
                exact ⟨⟨_, rfl⟩, rfl⟩
              · go_wp2
                go_round
                case rel => exact ⟨k + 1, m + x.size + y.size, by omega, by go_num, by push_cast; rfl, by omega⟩
                case measure => simp [intOf]; omega
      · by_cases hb2sb : (1048576 : Int) < (sb.length : Int)
        · go_wp2
          go_ret
          exact ⟨⟨_, rfl⟩, rfl⟩
        · by_cases hb3 : (1048576 : Int) < (m : Int) + (sb.length : Int)
          · go_wp2
            go_ret
            exact ⟨⟨_, rfl⟩, rfl⟩
          · go_wp2
            have em : (m : Int) + (sb.length : Int) = ((m + sb.length : Nat) : Int) := by push_cast; rfl
            rw [em]
            have hm2 : m + sb.length ≤ 1048576 := by omega
            generalize m + sb.length = m0 at hm2 ⊢
            clear em hb3 hm
            go_loop [7, 9] (fun n i => ∃ k m : Nat, k ≤ sb.length ∧ i = .int .i64 k ∧ n = .int .i64 m ∧ m ≤ 1048576) (fun _ i => sb.length - (intOf i).toNat)
            case atStart => exact ⟨0, _, Nat.zero_le _, rfl, rfl, by omega⟩
            case round =>
              obtain ⟨k, m, hk, rfl, rfl, hm⟩ := hrel
              by_cases hlt : k < sb.length
              · have hget : sb[k]? = some sb[k] := List.getElem?_eq_getElem hlt
                obtain ⟨hz1, hz2⟩ := HZ1.out sb[k] (List.getElem_mem hlt)
                obtain ⟨b, off, rfl, c0, c1, c2⟩ := HS1.out k sb[k] hget
                generalize sb[k] = s at hz1 hz2 c0 c1 c2
                generalize hx : s.nm = x at hz1 c0
                generalize hy : s.vl = y at hz2 c1
                clear hget hx hy c2
                by_cases hx1 : (1048576 : Int) < (x.size : Int)
                · go_wp2
                  go_ret
                  exact ⟨⟨_, rfl⟩, rfl⟩
                · by_cases hx2 : (1048576 : Int) < (m : Int) + (x.size : Int)
                  · go_wp2
                    go_ret
                    exact ⟨⟨_, rfl⟩, rfl⟩
                  · by_cases hy1 : (1048576 : Int) < (y.size : Int)
                    · go_wp2
                      go_ret
                      exact ⟨⟨_, rfl⟩, rfl⟩
                    · by_cases hy2 : (1048576 : Int) < (m : Int) + (x.size : Int) + (y.size : Int)
                      · go_wp2
                        go_ret
                        exact ⟨⟨_, rfl⟩, rfl⟩
                      · go_wp2
                        go_round
                        case rel => exact ⟨k + 1, m + x.size + y.size, by omega, by go_num, by push_cast; rfl, by omega⟩
                        case measure => simp [intOf]; omega
              · by_cases hb2os : (1048576 : Int) < (os.length : Int)
                · go_wp2
                  go_ret
                  exact ⟨⟨_, rfl⟩, rfl⟩
                · by_cases hb3 : (1048576 : Int) < (m : Int) + (os.length : Int)
                  · go_wp2
                    go_ret
                    exact ⟨⟨_, rfl⟩, rfl⟩
                  · go_wp2
                    have em : (m : Int) + (os.length : Int) = ((m + os.length : Nat) : Int) := by push_cast; rfl
                    rw [em]
                    have hm2 : m + os.length ≤ 1048576 := by omega
                    generalize m + os.length = m0 at hm2 ⊢
                    clear em hb3 hm
                    go_loop [7, 10] (fun n i => ∃ k m : Nat, k ≤ os.length ∧ i = .int .i64 k ∧ n = .int .i64 m ∧ m ≤ 1048576) (fun _ i => os.length - (intOf i).toNat)
                    case atStart => exact ⟨0, _, Nat.zero_le _, rfl, rfl, by omega⟩
                    case round =>
                      obtain ⟨k, m, hk, rfl, rfl, hm⟩ := hrel
                      by_cases hlt : k < os.length
                      · have hget : os[k]? = some os[k] := List.getElem?_eq_getElem hlt
                        obtain ⟨hz1, hz2⟩ := HZO.out os[k] (List.getElem_mem hlt)
                        obtain ⟨b, off, rfl, c0, c1⟩ := HO.out k os[k] hget
                        generalize os[k] = s at hz1 hz2 c0 c1
                        generalize hx : s.nm = x at hz1 c0
                        generalize hy : s.vl = y at hz2 c1
                        clear hget hx hy
                        by_cases hx1 : (1048576 : Int) < (x.size : Int)
                        · go_wp2
                          go_ret
                          exact ⟨⟨_, rfl⟩, rfl⟩
                        · by_cases hx2 : (1048576 : Int) < (m : Int) + (x.size : Int)
                          · go_wp2
                            go_ret
                            exact ⟨⟨_, rfl⟩, rfl⟩
                          · by_cases hy1 : (1048576 : Int) < (y.size : Int)
                            · go_wp2
                              go_ret
                              exact ⟨⟨_, rfl⟩, rfl⟩
                            · by_cases hy2 : (1048576 : Int) < (m : Int) + (x.size : Int) + (y.size : Int)
                              · go_wp2
                                go_ret
                                exact ⟨⟨_, rfl⟩, rfl⟩
                              · go_wp2
                                go_round
                                case rel => exact ⟨k + 1, m + x.size + y.size, by omega, by go_num, by push_cast; rfl, by omega⟩
                                case measure => simp [intOf]; omega
                      · go_wp2
                        go_ret
                        exact ⟨⟨_, rfl⟩, rfl⟩
end Go.Proofs.Qxb6600233a
