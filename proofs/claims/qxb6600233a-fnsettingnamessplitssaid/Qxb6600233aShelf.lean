/-
  One laying of the shelf at this dump (strings.Join), written by the tool of the kit in plain words.
-/
import Derived.Shelf.Strings.OnBuilder
import Derived.Test.Qxb6600233aProg
namespace Go.Proofs
open Go.Shelf
def Try.lays156_ren : Go.Shelf.Ren := ⟨fun | 156 => 26 | 165 => 29 | 166 => 30 | 169 => 31 | 240 => 32 | 241 => 33 | 276 => 34 | 277 => 35 | n => n, fun | 31 => 23 | 9 => 9 | 3 => 3 | 4 => 4 | 0 => 0 | 20 => 20 | 72 => 64 | 76 => 68 | 70 => 61 | 37 => 62 | 75 => 67 | 127 => 71 | 164 => 72 | 5 => 5 | 80 => 70 | n => n, fun | n => n⟩
theorem Try.lays156 : Go.Proofs.Lays.n156 Try.prog Try.lays156_ren := {
  mixed := by kernel_rfl
  f156 := Try.func26.trans (congrArg some (by kernel_rfl))
  f165 := Try.func29.trans (congrArg some (by kernel_rfl))
  f166 := Try.func30.trans (congrArg some (by kernel_rfl))
  f169 := Try.func31.trans (congrArg some (by kernel_rfl))
  f240 := Try.func32.trans (congrArg some (by kernel_rfl))
  f241 := Try.func33.trans (congrArg some (by kernel_rfl))
  f276 := Try.func34.trans (congrArg some (by kernel_rfl))
  f277 := Try.func35.trans (congrArg some (by kernel_rfl))
  t0 := Try.underlying0
  a0 := Try.isAgg0
  z0 := Try.sizeOf0
  v0 := Try.zeroValue0
  t3 := Try.underlying3
  a3 := Try.isAgg3
  z3 := Try.sizeOf3
  v3 := Try.zeroValue3
  t4 := Try.underlying4
  a4 := Try.isAgg4
  z4 := Try.sizeOf4
  v4 := Try.zeroValue4
  t9 := Try.underlying9
  a9 := Try.isAgg9
  z9 := Try.sizeOf9
  v9 := Try.zeroValue9
  t20 := Try.underlying20
  a20 := Try.isAgg20
  z20 := Try.sizeOf20
  v20 := Try.zeroValue20
  t31 := Try.underlying23
  a31 := Try.isAgg23
  z31 := Try.sizeOf23
  v31 := Try.zeroValue23
  t37 := Try.underlying62
  a37 := Try.isAgg62
  z37 := Try.sizeOf62
  v37 := Try.zeroValue62
  t70 := Try.underlying61
  a70 := Try.isAgg61
  z70 := Try.sizeOf61
  v70 := Try.zeroValue61
  t72 := Try.underlying64
  a72 := Try.isAgg64
  z72 := Try.sizeOf64
  v72 := Try.zeroValue64
  t75 := Try.underlying67
  a75 := Try.isAgg67
  z75 := Try.sizeOf67
  v75 := Try.zeroValue67
  t76 := Try.underlying68
  a76 := Try.isAgg68
  z76 := Try.sizeOf68
  v76 := Try.zeroValue68
  t127 := Try.underlying71
  a127 := Try.isAgg71
  z127 := Try.sizeOf71
  v127 := Try.zeroValue71
  t164 := Try.underlying72
  a164 := Try.isAgg72
  z164 := Try.sizeOf72
  v164 := Try.zeroValue72 }
theorem Try.Builder_Extra_156 : Builder.Extra Try.prog Try.lays156_ren := {
  sizeBuilder := by kernel_rfl
  liesBuilder := by kernel_rfl
  t5 := Try.underlying5
  a5 := Try.isAgg5
  z5 := Try.sizeOf5
  v5 := Try.zeroValue5
  infoByte := by kernel_rfl
  cellsByte := by kernel_rfl
  sizeByte := by kernel_rfl
  neB5 := by decide }
open Go.RowKit in
/-- No element: the empty string; the world is as it was. (Whatever the slice's address and capacity: a nil slice too.) (LAID: no walk: one application.) -/
theorem Try.strings_Join_none (a : Option Addr) (c : Nat) (sep : ByteArray) (w : World) :
    Calls Try.prog 26 #[.slice a 0 c, .string sep] w fun e w' => e = .returned (.string ⟨#[]⟩) ∧ w' = w := Any.strings_Join_none Try.lays156 Try.Builder_Extra_156 a c sep w
open Go.RowKit in
/-- strings.Join: "Join concatenates the elements of its first argument to create a single string. The separator string sep is placed between elements in the resulting string.": HOWEVER MANY ELEMENTS. Below the heap's end the world is as it was. (LAID: no walk: one application.) -/
theorem Try.strings_Join (bk o c : Nat) (xs : List ByteArray) (sep : ByteArray) (w : World) (hcells : ∀ (j : Nat) x, xs[j]? = some x → w.cell? ⟨bk, o + j, none⟩ = some (.string x)) (hbk : bk < w.heap.size) (hN : xs.length ≤ 140737488355328) (hcap : xs.length ≤ c) (hlen : (Lib.join (xs.map (·.data.toList)) sep.data.toList).length ≤ 140737488355328) :
    Calls Try.prog 26 #[.slice (some ⟨bk, o, none⟩) xs.length c, .string sep] w fun e w' => e = .returned (.string ⟨(Lib.join (xs.map (·.data.toList)) sep.data.toList).toArray⟩) ∧ Below w.heap.size w w' := Any.strings_Join Try.lays156 Try.Builder_Extra_156 bk o c xs sep w hcells hbk hN hcap hlen
end Go.Proofs
