/- strings.Index at this program's numbers: the shelf's theorem, applied (laid by the kit's lay-plain tool) -/
import Derived.Shelf.Strings.Search3
import Derived.Test.Qxb6001402aProg
namespace Go.Proofs
open Go.Shelf
def Try.lays143_ren : Go.Shelf.Ren := ⟨fun | 143 => 29 | 219 => 38 | 217 => 37 | 225 => 41 | 224 => 42 | 267 => 43 | 266 => 40 | 314 => 45 | n => n, fun | 9 => 9 | 3 => 3 | 4 => 4 | 5 => 5 | 46 => 58 | 146 => 62 | 51 => 61 | n => n, fun | 1 => 0 | n => n⟩
theorem Try.lays143 : Go.Proofs.Lays.n143 Try.prog Try.lays143_ren := {
  mixed := by kernel_rfl
  f143 := Try.func29.trans (congrArg some (by kernel_rfl))
  f217 := Try.func37.trans (congrArg some (by kernel_rfl))
  f219 := Try.func38.trans (congrArg some (by kernel_rfl))
  f224 := Try.func42.trans (congrArg some (by kernel_rfl))
  f225 := Try.func41.trans (congrArg some (by kernel_rfl))
  f266 := Try.func40.trans (congrArg some (by kernel_rfl))
  f267 := Try.func43.trans (congrArg some (by kernel_rfl))
  f314 := Try.func45.trans (congrArg some (by kernel_rfl))
  t3 := Try.underlying3
  a3 := Try.isAgg3
  z3 := Try.sizeOf3
  v3 := Try.zeroValue3
  t4 := Try.underlying4
  a4 := Try.isAgg4
  z4 := Try.sizeOf4
  v4 := Try.zeroValue4
  t5 := Try.underlying5
  a5 := Try.isAgg5
  z5 := Try.sizeOf5
  v5 := Try.zeroValue5
  t9 := Try.underlying9
  a9 := Try.isAgg9
  z9 := Try.sizeOf9
  v9 := Try.zeroValue9
  t46 := Try.underlying58
  a46 := Try.isAgg58
  z46 := Try.sizeOf58
  v46 := Try.zeroValue58
  t51 := Try.underlying61
  a51 := Try.isAgg61
  z51 := Try.sizeOf61
  v51 := Try.zeroValue61
  t146 := Try.underlying62
  a146 := Try.isAgg62
  z146 := Try.sizeOf62
  v146 := Try.zeroValue62
  g1 := by kernel_rfl }
open Go.RowKit Go.Lib in
theorem Try.strings_Index (s sub : ByteArray) (m : Int) (w : World) (hs : s.size < 4294967281) (hm : w.cell? ⟨0, 0, none⟩ = some (.int .i64 m)) :
    Calls Try.prog 29 #[.string s, .string sub] w fun e w' => e = .returned (.int .i64 (Lib.index s.data.toList sub.data.toList)) ∧ w' = w := Any.strings_Index Try.lays143 s sub m w hs hm
end Go.Proofs
