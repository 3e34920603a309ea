import Derived.Test.Qxb6600209aFmtWrite
import Derived.Shelf.Spec.TrailingZeros
namespace Go.Proofs.Qxb6600209aFmt
open Go.RowKit Go.Extern.Stop Go.Stop Go.Extern
set_option linter.unusedVariables false

/-- white space: a run of the law's characters -/
def pads (ks : List Nat) : List UInt8 := (ks.map fun k => spaceOf (k % 25)).flatten

theorem space_len (k : Nat) : (spaceOf k).length ≤ 3 := by
  unfold spaceOf
  repeat' split
  all_goals simp

theorem pads_snoc (ks : List Nat) (k : Nat) : pads (ks ++ [k]) = pads ks ++ spaceOf (k % 25) := by simp [pads]

theorem pads_len (ks : List Nat) : (pads ks).length ≤ 3 * ks.length := by
  induction ks with
  | nil => simp [pads]
  | cons k r ih =>
    have := space_len (k % 25)
    simp [pads] at ih ⊢
    omega

theorem and3 (x : Nat) (hx : x < 4294967296) : bits .and .u32 (x : Int) 3 = ((x % 4 : Nat) : Int) := by
  have := bits_and_u32_nat x 3 hx (by decide)
  rw [show ((3 : Nat) : Int) = 3 from rfl] at this
  rw [this, Nat.and_two_pow_sub_one_eq_mod x 2]

theorem and31 (x : Nat) (hx : x < 4294967296) : bits .and .u32 (x : Int) 31 = ((x % 32 : Nat) : Int) := by
  have := bits_and_u32_nat x 31 hx (by decide)
  rw [show ((31 : Nat) : Int) = 31 from rfl] at this
  rw [this, Nat.and_two_pow_sub_one_eq_mod x 5]

set_option maxRecDepth 100000 in
set_option maxHeartbeats 2000000 in
theorem pad11 (g : Nat) (l : List UInt8) (x m : Nat) (w : World) (hx : x < 4294967296) (hm : m ≤ 1) (hO : Out w g l) (hroom : l.length + 12 ≤ 96) :
    Calls Tryf.prog 11 #[.slice (some ⟨g, 0, none⟩) l.length 96, .int .u32 x, .int .i64 m] w fun e w' =>
      ∃ ks : List Nat, ks.length = x % 4 + m ∧ e = .returned (.slice (some ⟨g, 0, none⟩) (l ++ pads ks).length 96) ∧ Out w' g (l ++ pads ks) ∧ Below g w w' := by
  have HO := hide hO
  have HS := hide space16
  have hand := and3 x hx
  have hb4 : x % 4 ≤ 3 := by omega
  generalize x % 4 = q at hand hb4 ⊢
  clear hO
  go_enter Tryf.func11, Tryf.ntmps11
  go_wp2
  go_loopw [0, 8] (fun o i wr => ∃ (k : Nat) (ks : List Nat), k ≤ q + m ∧ i = .int .i64 k ∧ ks.length = k ∧ o = .slice (some ⟨g, 0, none⟩) (l ++ pads ks).length 96 ∧ Hid (Out wr g (l ++ pads ks)) ∧ Hid (Below g w wr)) (fun _ i _ => q + m - (intOf i).toNat)
  case atStart => exact ⟨0, [], Nat.zero_le _, rfl, rfl, by simp [pads], by simpa [pads] using HO, Below.refl _ _⟩
  case round =>
    obtain ⟨k, ks, hk, rfl, hks, rfl, HO1, HB1⟩ := hrel
    by_cases hlt : k < q + m
    · have hlen : (l ++ pads ks).length ≤ 93 := by
        have := pads_len ks
        rw [List.length_append]; omega
      generalize ht : l ++ pads ks = t at HO1 hlen ⊢
      have HT := hide ht
      have HL := hide hlen
      have hsh : bits .and .u32 ((x : Int) / 2 ^ (2 + 5 * k)) 31 = ((x / 2 ^ (2 + 5 * k) % 32 : Nat) : Int) := by
        have e := and31 (x / 2 ^ (2 + 5 * k)) (Nat.lt_of_le_of_lt (Nat.div_le_self _ _) hx)
        rw [← e]
        push_cast
        rfl
      have HSH := hide hsh
      clear hlen ht hsh
      go_wp2_with fail
      rw [HSH.out]
      refine (HS.out g t _ wr (by omega) HO1.out (by have := HL.out; omega)).mono ?_
      rintro e w1 ⟨rfl, ho, hb⟩
      have HO2 := hide ho
      have HB2 := hide hb
      generalize ht2 : t ++ spaceOf (x / 2 ^ (2 + 5 * k) % 32 % 25) = t2 at HO2 ⊢
      have HT2 := hide ht2
      clear ho hb ht2
      go_wp2
      go_roundw
      case rel =>
        have e : l ++ pads (ks ++ [x / 2 ^ (2 + 5 * k) % 32]) = t2 := by rw [pads_snoc, ← List.append_assoc, HT.out, HT2.out]
        exact ⟨k + 1, ks ++ [x / 2 ^ (2 + 5 * k) % 32], by omega, by go_num, by simp [hks], by rw [e], by rw [e]; exact HO2, HB1.out.trans HB2.out⟩
      case measure => simp [intOf]; omega
    · generalize ht : l ++ pads ks = t at HO1 ⊢
      have HT := hide ht
      clear ht
      go_wp2
      go_ret
      exact ⟨ks, by omega, by rw [HT.out]; rfl, by rw [HT.out]; exact HO1.out, HB1.out⟩
end Go.Proofs.Qxb6600209aFmt
