/-
  strings.Join BY ITS CONTRACT, off the kit's shelf, at this program's numbers: the layings in plain words as the kit's tool writes them; remarks shortened.
-/
import Derived.Shelf.Strings.OnBuilder
import Derived.Test.YoeanwProg
namespace Go.Proofs
open Go.Shelf
def Eang.lays156_ren : Go.Shelf.Ren := ⟨fun | 156 => 13 | 165 => 14 | 166 => 15 | 169 => 16 | 240 => 17 | 241 => 18 | 276 => 19 | 277 => 20 | n => n, fun | 31 => 43 | 9 => 9 | 3 => 3 | 4 => 4 | 0 => 0 | 20 => 20 | 72 => 53 | 76 => 57 | 70 => 51 | 37 => 49 | 75 => 56 | 127 => 59 | 164 => 60 | 5 => 5 | 80 => 41 | n => n, fun | n => n⟩
theorem Eang.lays156 : Go.Proofs.Lays.n156 Eang.prog Eang.lays156_ren := {
  mixed := by kernel_rfl
  f156 := Eang.func13.trans (congrArg some (by kernel_rfl))
  f165 := Eang.func14.trans (congrArg some (by kernel_rfl))
  f166 := Eang.func15.trans (congrArg some (by kernel_rfl))
  f169 := Eang.func16.trans (congrArg some (by kernel_rfl))
  f240 := Eang.func17.trans (congrArg some (by kernel_rfl))
  f241 := Eang.func18.trans (congrArg some (by kernel_rfl))
  f276 := Eang.func19.trans (congrArg some (by kernel_rfl))
  f277 := Eang.func20.trans (congrArg some (by kernel_rfl))
  t0 := Eang.underlying0
  a0 := Eang.isAgg0
  z0 := Eang.sizeOf0
  v0 := Eang.zeroValue0
  t3 := Eang.underlying3
  a3 := Eang.isAgg3
  z3 := Eang.sizeOf3
  v3 := Eang.zeroValue3
  t4 := Eang.underlying4
  a4 := Eang.isAgg4
  z4 := Eang.sizeOf4
  v4 := Eang.zeroValue4
  t9 := Eang.underlying9
  a9 := Eang.isAgg9
  z9 := Eang.sizeOf9
  v9 := Eang.zeroValue9
  t20 := Eang.underlying20
  a20 := Eang.isAgg20
  z20 := Eang.sizeOf20
  v20 := Eang.zeroValue20
  t31 := Eang.underlying43
  a31 := Eang.isAgg43
  z31 := Eang.sizeOf43
  v31 := Eang.zeroValue43
  t37 := Eang.underlying49
  a37 := Eang.isAgg49
  z37 := Eang.sizeOf49
  v37 := Eang.zeroValue49
  t70 := Eang.underlying51
  a70 := Eang.isAgg51
  z70 := Eang.sizeOf51
  v70 := Eang.zeroValue51
  t72 := Eang.underlying53
  a72 := Eang.isAgg53
  z72 := Eang.sizeOf53
  v72 := Eang.zeroValue53
  t75 := Eang.underlying56
  a75 := Eang.isAgg56
  z75 := Eang.sizeOf56
  v75 := Eang.zeroValue56
  t76 := Eang.underlying57
  a76 := Eang.isAgg57
  z76 := Eang.sizeOf57
  v76 := Eang.zeroValue57
  t127 := Eang.underlying59
  a127 := Eang.isAgg59
  z127 := Eang.sizeOf59
  v127 := Eang.zeroValue59
  t164 := Eang.underlying60
  a164 := Eang.isAgg60
  z164 := Eang.sizeOf60
  v164 := Eang.zeroValue60 }
theorem Eang.Builder_Extra_156 : Builder.Extra Eang.prog Eang.lays156_ren := {
  sizeBuilder := by kernel_rfl
  liesBuilder := by kernel_rfl
  t5 := Eang.underlying5
  a5 := Eang.isAgg5
  z5 := Eang.sizeOf5
  v5 := Eang.zeroValue5
  infoByte := by kernel_rfl
  cellsByte := by kernel_rfl
  sizeByte := by kernel_rfl
  neB5 := by decide }
open Go.RowKit in
/-- strings.Join of no element. -/
theorem Eang.strings_Join_none (a : Option Addr) (c : Nat) (sep : ByteArray) (w : World) :
    Calls Eang.prog 13 #[.slice a 0 c, .string sep] w fun e w' => e = .returned (.string ⟨#[]⟩) ∧ w' = w := Any.strings_Join_none Eang.lays156 Eang.Builder_Extra_156 a c sep w
open Go.RowKit in
/-- strings.Join of a slice whose cells are known. -/
theorem Eang.strings_Join (bk o c : Nat) (xs : List ByteArray) (sep : ByteArray) (w : World) (hcells : ∀ (j : Nat) x, xs[j]? = some x → w.cell? ⟨bk, o + j, none⟩ = some (.string x)) (hbk : bk < w.heap.size) (hN : xs.length ≤ 140737488355328) (hcap : xs.length ≤ c) (hlen : (Lib.join (xs.map (·.data.toList)) sep.data.toList).length ≤ 140737488355328) :
    Calls Eang.prog 13 #[.slice (some ⟨bk, o, none⟩) xs.length c, .string sep] w fun e w' => e = .returned (.string ⟨(Lib.join (xs.map (·.data.toList)) sep.data.toList).toArray⟩) ∧ Below w.heap.size w w' := Any.strings_Join Eang.lays156 Eang.Builder_Extra_156 bk o c xs sep w hcells hbk hN hcap hlen
end Go.Proofs
