/-
  The shelf's contract of strings.Join at this seat's program: laid by the kit's tools (lay-shelf, then lay-plain), cut down to what is used here.
-/
import Derived.Shelf.Strings.OnBuilder
import Derived.Test.YbulkdoisDoorProg
namespace Go.Proofs
open Go.Shelf
def Ybad.lays156_ren : Go.Shelf.Ren := ⟨fun | 156 => 7 | 165 => 8 | 166 => 9 | 169 => 10 | 240 => 11 | 241 => 12 | 276 => 13 | 277 => 14 | n => n, fun | 31 => 34 | 9 => 9 | 3 => 3 | 4 => 4 | 0 => 0 | 20 => 20 | 72 => 44 | 76 => 46 | 70 => 41 | 37 => 42 | 75 => 24 | 127 => 49 | 164 => 50 | 5 => 5 | 80 => 48 | n => n, fun | n => n⟩
theorem Ybad.lays156 : Go.Proofs.Lays.n156 Ybad.prog Ybad.lays156_ren := {
  mixed := by kernel_rfl
  f156 := Ybad.func7.trans (congrArg some (by kernel_rfl))
  f165 := Ybad.func8.trans (congrArg some (by kernel_rfl))
  f166 := Ybad.func9.trans (congrArg some (by kernel_rfl))
  f169 := Ybad.func10.trans (congrArg some (by kernel_rfl))
  f240 := Ybad.func11.trans (congrArg some (by kernel_rfl))
  f241 := Ybad.func12.trans (congrArg some (by kernel_rfl))
  f276 := Ybad.func13.trans (congrArg some (by kernel_rfl))
  f277 := Ybad.func14.trans (congrArg some (by kernel_rfl))
  t0 := Ybad.underlying0
  a0 := Ybad.isAgg0
  z0 := Ybad.sizeOf0
  v0 := Ybad.zeroValue0
  t3 := Ybad.underlying3
  a3 := Ybad.isAgg3
  z3 := Ybad.sizeOf3
  v3 := Ybad.zeroValue3
  t4 := Ybad.underlying4
  a4 := Ybad.isAgg4
  z4 := Ybad.sizeOf4
  v4 := Ybad.zeroValue4
  t9 := Ybad.underlying9
  a9 := Ybad.isAgg9
  z9 := Ybad.sizeOf9
  v9 := Ybad.zeroValue9
  t20 := Ybad.underlying20
  a20 := Ybad.isAgg20
  z20 := Ybad.sizeOf20
  v20 := Ybad.zeroValue20
  t31 := Ybad.underlying34
  a31 := Ybad.isAgg34
  z31 := Ybad.sizeOf34
  v31 := Ybad.zeroValue34
  t37 := Ybad.underlying42
  a37 := Ybad.isAgg42
  z37 := Ybad.sizeOf42
  v37 := Ybad.zeroValue42
  t70 := Ybad.underlying41
  a70 := Ybad.isAgg41
  z70 := Ybad.sizeOf41
  v70 := Ybad.zeroValue41
  t72 := Ybad.underlying44
  a72 := Ybad.isAgg44
  z72 := Ybad.sizeOf44
  v72 := Ybad.zeroValue44
  t75 := Ybad.underlying24
  a75 := Ybad.isAgg24
  z75 := Ybad.sizeOf24
  v75 := Ybad.zeroValue24
  t76 := Ybad.underlying46
  a76 := Ybad.isAgg46
  z76 := Ybad.sizeOf46
  v76 := Ybad.zeroValue46
  t127 := Ybad.underlying49
  a127 := Ybad.isAgg49
  z127 := Ybad.sizeOf49
  v127 := Ybad.zeroValue49
  t164 := Ybad.underlying50
  a164 := Ybad.isAgg50
  z164 := Ybad.sizeOf50
  v164 := Ybad.zeroValue50 }
theorem Ybad.Builder_Extra_156 : Builder.Extra Ybad.prog Ybad.lays156_ren := {
  sizeBuilder := by kernel_rfl
  liesBuilder := by kernel_rfl
  t5 := Ybad.underlying5
  a5 := Ybad.isAgg5
  z5 := Ybad.sizeOf5
  v5 := Ybad.zeroValue5
  infoByte := by kernel_rfl
  cellsByte := by kernel_rfl
  sizeByte := by kernel_rfl
  neB5 := by decide }
open Go.RowKit in
/-- strings.Join: "Join concatenates the elements of its first argument to create a single string. The separator string sep is placed between elements in the resulting string.": HOWEVER MANY ELEMENTS. Below the heap's end the world is as it was. (LAID: no walk: one application.) -/
theorem Ybad.strings_Join (bk o c : Nat) (xs : List ByteArray) (sep : ByteArray) (w : World) (hcells : ∀ (j : Nat) x, xs[j]? = some x → w.cell? ⟨bk, o + j, none⟩ = some (.string x)) (hbk : bk < w.heap.size) (hN : xs.length ≤ 140737488355328) (hcap : xs.length ≤ c) (hlen : (Lib.join (xs.map (·.data.toList)) sep.data.toList).length ≤ 140737488355328) :
    Calls Ybad.prog 7 #[.slice (some ⟨bk, o, none⟩) xs.length c, .string sep] w fun e w' => e = .returned (.string ⟨(Lib.join (xs.map (·.data.toList)) sep.data.toList).toArray⟩) ∧ Below w.heap.size w w' := Any.strings_Join Ybad.lays156 Ybad.Builder_Extra_156 bk o c xs sep w hcells hbk hN hcap hlen
end Go.Proofs
