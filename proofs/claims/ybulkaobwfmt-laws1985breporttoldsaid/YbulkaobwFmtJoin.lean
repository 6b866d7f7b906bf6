import Derived.Shelf.Strings.OnBuilder
import Derived.Test.YbulkaobwFmtRows
namespace Go.Proofs.YbulkaobwFmt
open Go Go.Shelf Go.Proofs
def Ybaf.lays156_ren : Go.Shelf.Ren := ⟨fun | 156 => 13 | 165 => 14 | 166 => 15 | 169 => 16 | 240 => 17 | 241 => 18 | 276 => 19 | 277 => 20 | n => n, fun | 31 => 107 | 9 => 9 | 3 => 3 | 4 => 4 | 0 => 0 | 20 => 20 | 72 => 113 | 76 => 117 | 70 => 111 | 37 => 56 | 75 => 116 | 127 => 120 | 164 => 121 | 5 => 5 | 80 => 119 | n => n, fun | n => n⟩
theorem Ybaf.lays156 : Go.Proofs.Lays.n156 Ybaf.prog Ybaf.lays156_ren := {
  mixed := by kernel_rfl
  f156 := Ybaf.func13.trans (congrArg some (by kernel_rfl))
  f165 := Ybaf.func14.trans (congrArg some (by kernel_rfl))
  f166 := Ybaf.func15.trans (congrArg some (by kernel_rfl))
  f169 := Ybaf.func16.trans (congrArg some (by kernel_rfl))
  f240 := Ybaf.func17.trans (congrArg some (by kernel_rfl))
  f241 := Ybaf.func18.trans (congrArg some (by kernel_rfl))
  f276 := Ybaf.func19.trans (congrArg some (by kernel_rfl))
  f277 := Ybaf.func20.trans (congrArg some (by kernel_rfl))
  t0 := Ybaf.underlying0
  a0 := Ybaf.isAgg0
  z0 := Ybaf.sizeOf0
  v0 := Ybaf.zeroValue0
  t3 := Ybaf.underlying3
  a3 := Ybaf.isAgg3
  z3 := Ybaf.sizeOf3
  v3 := Ybaf.zeroValue3
  t4 := Ybaf.underlying4
  a4 := Ybaf.isAgg4
  z4 := Ybaf.sizeOf4
  v4 := Ybaf.zeroValue4
  t9 := Ybaf.underlying9
  a9 := Ybaf.isAgg9
  z9 := Ybaf.sizeOf9
  v9 := Ybaf.zeroValue9
  t20 := Ybaf.underlying20
  a20 := Ybaf.isAgg20
  z20 := Ybaf.sizeOf20
  v20 := Ybaf.zeroValue20
  t31 := Ybaf.underlying107
  a31 := Ybaf.isAgg107
  z31 := Ybaf.sizeOf107
  v31 := Ybaf.zeroValue107
  t37 := Ybaf.underlying56
  a37 := Ybaf.isAgg56
  z37 := Ybaf.sizeOf56
  v37 := Ybaf.zeroValue56
  t70 := Ybaf.underlying111
  a70 := Ybaf.isAgg111
  z70 := Ybaf.sizeOf111
  v70 := Ybaf.zeroValue111
  t72 := Ybaf.underlying113
  a72 := Ybaf.isAgg113
  z72 := Ybaf.sizeOf113
  v72 := Ybaf.zeroValue113
  t75 := Ybaf.underlying116
  a75 := Ybaf.isAgg116
  z75 := Ybaf.sizeOf116
  v75 := Ybaf.zeroValue116
  t76 := Ybaf.underlying117
  a76 := Ybaf.isAgg117
  z76 := Ybaf.sizeOf117
  v76 := Ybaf.zeroValue117
  t127 := Ybaf.underlying120
  a127 := Ybaf.isAgg120
  z127 := Ybaf.sizeOf120
  v127 := Ybaf.zeroValue120
  t164 := Ybaf.underlying121
  a164 := Ybaf.isAgg121
  z164 := Ybaf.sizeOf121
  v164 := Ybaf.zeroValue121 }
theorem Ybaf.Builder_Extra_156 : Builder.Extra Ybaf.prog Ybaf.lays156_ren := {
  sizeBuilder := by kernel_rfl
  liesBuilder := by kernel_rfl
  t5 := Ybaf.underlying5
  a5 := Ybaf.isAgg5
  z5 := Ybaf.sizeOf5
  v5 := Ybaf.zeroValue5
  infoByte := by kernel_rfl
  cellsByte := by kernel_rfl
  sizeByte := by kernel_rfl
  neB5 := by decide }
open Go.RowKit in
theorem Ybaf.strings_Join_none (a : Option Addr) (c : Nat) (sep : ByteArray) (w : World) :
    Calls Ybaf.prog 13 #[.slice a 0 c, .string sep] w fun e w' => e = .returned (.string ⟨#[]⟩) ∧ w' = w := Any.strings_Join_none Ybaf.lays156 Ybaf.Builder_Extra_156 a c sep w
open Go.RowKit in
theorem Ybaf.strings_Join (bk o c : Nat) (xs : List ByteArray) (sep : ByteArray) (w : World) (hcells : ∀ (j : Nat) x, xs[j]? = some x → w.cell? ⟨bk, o + j, none⟩ = some (.string x)) (hbk : bk < w.heap.size) (hN : xs.length ≤ 140737488355328) (hcap : xs.length ≤ c) (hlen : (Lib.join (xs.map (·.data.toList)) sep.data.toList).length ≤ 140737488355328) :
    Calls Ybaf.prog 13 #[.slice (some ⟨bk, o, none⟩) xs.length c, .string sep] w fun e w' => e = .returned (.string ⟨(Lib.join (xs.map (·.data.toList)) sep.data.toList).toArray⟩) ∧ Below w.heap.size w w' := Any.strings_Join Ybaf.lays156 Ybaf.Builder_Extra_156 bk o c xs sep w hcells hbk hN hcap hlen
end Go.Proofs.YbulkaobwFmt
