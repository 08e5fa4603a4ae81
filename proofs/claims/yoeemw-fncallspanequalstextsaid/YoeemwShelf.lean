/-
  strings.Join (19) by the library's own contract, laid at this program by the kit's two tools (lay-shelf, lay-plain).
-/
import Derived.Shelf.Strings.OnBuilder
import Derived.Test.YoeemwProg
namespace Go.Proofs
open Go.Shelf
def Eemg.lays156_ren : Go.Shelf.Ren := ⟨fun | 156 => 19 | 165 => 20 | 166 => 21 | 169 => 22 | 240 => 23 | 241 => 24 | 276 => 25 | 277 => 26 | n => n, fun | 31 => 22 | 9 => 9 | 3 => 3 | 4 => 4 | 0 => 0 | 20 => 20 | 72 => 47 | 76 => 51 | 70 => 44 | 37 => 45 | 75 => 50 | 127 => 53 | 164 => 54 | 5 => 5 | 80 => 37 | n => n, fun | n => n⟩
theorem Eemg.lays156 : Go.Proofs.Lays.n156 Eemg.prog Eemg.lays156_ren := {
  mixed := by kernel_rfl
  f156 := Eemg.func19.trans (congrArg some (by kernel_rfl))
  f165 := Eemg.func20.trans (congrArg some (by kernel_rfl))
  f166 := Eemg.func21.trans (congrArg some (by kernel_rfl))
  f169 := Eemg.func22.trans (congrArg some (by kernel_rfl))
  f240 := Eemg.func23.trans (congrArg some (by kernel_rfl))
  f241 := Eemg.func24.trans (congrArg some (by kernel_rfl))
  f276 := Eemg.func25.trans (congrArg some (by kernel_rfl))
  f277 := Eemg.func26.trans (congrArg some (by kernel_rfl))
  t0 := Eemg.underlying0
  a0 := Eemg.isAgg0
  z0 := Eemg.sizeOf0
  v0 := Eemg.zeroValue0
  t3 := Eemg.underlying3
  a3 := Eemg.isAgg3
  z3 := Eemg.sizeOf3
  v3 := Eemg.zeroValue3
  t4 := Eemg.underlying4
  a4 := Eemg.isAgg4
  z4 := Eemg.sizeOf4
  v4 := Eemg.zeroValue4
  t9 := Eemg.underlying9
  a9 := Eemg.isAgg9
  z9 := Eemg.sizeOf9
  v9 := Eemg.zeroValue9
  t20 := Eemg.underlying20
  a20 := Eemg.isAgg20
  z20 := Eemg.sizeOf20
  v20 := Eemg.zeroValue20
  t31 := Eemg.underlying22
  a31 := Eemg.isAgg22
  z31 := Eemg.sizeOf22
  v31 := Eemg.zeroValue22
  t37 := Eemg.underlying45
  a37 := Eemg.isAgg45
  z37 := Eemg.sizeOf45
  v37 := Eemg.zeroValue45
  t70 := Eemg.underlying44
  a70 := Eemg.isAgg44
  z70 := Eemg.sizeOf44
  v70 := Eemg.zeroValue44
  t72 := Eemg.underlying47
  a72 := Eemg.isAgg47
  z72 := Eemg.sizeOf47
  v72 := Eemg.zeroValue47
  t75 := Eemg.underlying50
  a75 := Eemg.isAgg50
  z75 := Eemg.sizeOf50
  v75 := Eemg.zeroValue50
  t76 := Eemg.underlying51
  a76 := Eemg.isAgg51
  z76 := Eemg.sizeOf51
  v76 := Eemg.zeroValue51
  t127 := Eemg.underlying53
  a127 := Eemg.isAgg53
  z127 := Eemg.sizeOf53
  v127 := Eemg.zeroValue53
  t164 := Eemg.underlying54
  a164 := Eemg.isAgg54
  z164 := Eemg.sizeOf54
  v164 := Eemg.zeroValue54 }
theorem Eemg.Builder_Extra_156 : Builder.Extra Eemg.prog Eemg.lays156_ren := {
  sizeBuilder := by kernel_rfl
  liesBuilder := by kernel_rfl
  t5 := Eemg.underlying5
  a5 := Eemg.isAgg5
  z5 := Eemg.sizeOf5
  v5 := Eemg.zeroValue5
  infoByte := by kernel_rfl
  cellsByte := by kernel_rfl
  sizeByte := by kernel_rfl
  neB5 := by decide }
open Go.RowKit in
/-- No element: the empty string; the world is as it was. (Whatever the slice's address and capacity: a nil slice too.) (LAID: no walk: one application.) -/
theorem Eemg.strings_Join_none (a : Option Addr) (c : Nat) (sep : ByteArray) (w : World) :
    Calls Eemg.prog 19 #[.slice a 0 c, .string sep] w fun e w' => e = .returned (.string ⟨#[]⟩) ∧ w' = w := Any.strings_Join_none Eemg.lays156 Eemg.Builder_Extra_156 a c sep w
open Go.RowKit in
/-- strings.Join, however many elements; below the heap's end the world is as it was. -/
theorem Eemg.strings_Join (bk o c : Nat) (xs : List ByteArray) (sep : ByteArray) (w : World) (hcells : ∀ (j : Nat) x, xs[j]? = some x → w.cell? ⟨bk, o + j, none⟩ = some (.string x)) (hbk : bk < w.heap.size) (hN : xs.length ≤ 140737488355328) (hcap : xs.length ≤ c) (hlen : (Lib.join (xs.map (·.data.toList)) sep.data.toList).length ≤ 140737488355328) :
    Calls Eemg.prog 19 #[.slice (some ⟨bk, o, none⟩) xs.length c, .string sep] w fun e w' => e = .returned (.string ⟨(Lib.join (xs.map (·.data.toList)) sep.data.toList).toArray⟩) ∧ Below w.heap.size w w' := Any.strings_Join Eemg.lays156 Eemg.Builder_Extra_156 bk o c xs sep w hcells hbk hN hcap hlen
end Go.Proofs
