/- the library's (*strings.Builder) at this program's numbers: the shelf's theorems, applied; the renaming is typed by hand -/
import Derived.Shelf.Strings.Builder1
import Derived.Shelf.Strings.BuilderK
import Derived.Test.Qxb6001476aProg
namespace Go.Proofs
open Go.Shelf Go.RowKit
def Try.bren : Go.Shelf.Ren := ⟨fun | 240 => 27 | 166 => 24 | 276 => 29 | 169 => 25 | n => n, fun | 70 => 44 | 72 => 46 | 37 => 26 | 75 => 49 | 80 => 52 | 164 => 54 | 127 => 53 | n => n, fun | n => n⟩
theorem Try.blays166 : Go.Proofs.Lays.n166 Try.prog Try.bren := {
  mixed := by kernel_rfl
  f166 := Try.func24.trans (congrArg some (by kernel_rfl))
  f240 := Try.func27.trans (congrArg some (by kernel_rfl))
  f276 := Try.func29.trans (congrArg some (by kernel_rfl))
  t0 := Try.underlying0
  a0 := Try.isAgg0
  z0 := Try.sizeOf0
  v0 := Try.zeroValue0
  t3 := Try.underlying3
  a3 := Try.isAgg3
  z3 := Try.sizeOf3
  v3 := Try.zeroValue3
  t4 := Try.underlying4
  a4 := Try.isAgg4
  z4 := Try.sizeOf4
  v4 := Try.zeroValue4
  t9 := Try.underlying9
  a9 := Try.isAgg9
  z9 := Try.sizeOf9
  v9 := Try.zeroValue9
  t20 := Try.underlying20
  a20 := Try.isAgg20
  z20 := Try.sizeOf20
  v20 := Try.zeroValue20
  t37 := Try.underlying26
  a37 := Try.isAgg26
  z37 := Try.sizeOf26
  v37 := Try.zeroValue26
  t70 := Try.underlying44
  a70 := Try.isAgg44
  z70 := Try.sizeOf44
  v70 := Try.zeroValue44
  t72 := Try.underlying46
  a72 := Try.isAgg46
  z72 := Try.sizeOf46
  v72 := Try.zeroValue46
  t75 := Try.underlying49
  a75 := Try.isAgg49
  z75 := Try.sizeOf49
  v75 := Try.zeroValue49
  t164 := Try.underlying54
  a164 := Try.isAgg54
  z164 := Try.sizeOf54
  v164 := Try.zeroValue54 }
theorem Try.blays169 : Go.Proofs.Lays.n169 Try.prog Try.bren := {
  mixed := by kernel_rfl
  f169 := Try.func25.trans (congrArg some (by kernel_rfl))
  t0 := Try.underlying0
  a0 := Try.isAgg0
  z0 := Try.sizeOf0
  v0 := Try.zeroValue0
  t3 := Try.underlying3
  a3 := Try.isAgg3
  z3 := Try.sizeOf3
  v3 := Try.zeroValue3
  t9 := Try.underlying9
  a9 := Try.isAgg9
  z9 := Try.sizeOf9
  v9 := Try.zeroValue9
  t37 := Try.underlying26
  a37 := Try.isAgg26
  z37 := Try.sizeOf26
  v37 := Try.zeroValue26
  t70 := Try.underlying44
  a70 := Try.isAgg44
  z70 := Try.sizeOf44
  v70 := Try.zeroValue44
  t72 := Try.underlying46
  a72 := Try.isAgg46
  z72 := Try.sizeOf46
  v72 := Try.zeroValue46
  t127 := Try.underlying53
  a127 := Try.isAgg53
  z127 := Try.sizeOf53
  v127 := Try.zeroValue53 }
theorem Try.bextra : Builder.Extra Try.prog Try.bren := {
  sizeBuilder := by kernel_rfl
  liesBuilder := by kernel_rfl
  t5 := Try.underlying5
  a5 := Try.isAgg5
  z5 := Try.sizeOf5
  v5 := Try.zeroValue5
  infoByte := by kernel_rfl
  cellsByte := by kernel_rfl
  sizeByte := by kernel_rfl
  neB5 := by decide }
theorem Try.WriteString_k (B b : Nat) (bs : List Value) (s : ByteArray) (w : World) (h : Lib.IsBuilderF 46 5 B b bs w) (hlen : bs.length + s.size ≤ 140737488355328) (hBw : B ≤ w.heap.size) :
    Calls Try.prog 24 #[.pointer (some ⟨b, 0, none⟩), .string s] w fun e w' => e = .returned (.tuple #[.int .i64 s.size, .nilIface]) ∧ (Lib.IsBuilderF 46 5 B b (bs ++ Lib.strCells s) w' ∧ Below B w w' ∧ Lib.OthersKept 5 (some b) w w') :=
  (Any.Builder_WriteString_k Try.blays166 Try.bextra B b bs s w h hlen hBw).mono fun _ _ ⟨he, hb, hr⟩ => ⟨he, .inr hb, hr⟩
theorem Try.String_any_k (B b : Nat) (l : List UInt8) (w : World) (h : Lib.IsBuilderF 46 5 B b (Lib.byteCells l) w) (hBw : B ≤ w.heap.size) :
    Calls Try.prog 25 #[.pointer (some ⟨b, 0, none⟩)] w fun e w' => e = .returned (.string ⟨l.toArray⟩) ∧ (Lib.IsBuilderF 46 5 B b (Lib.byteCells l) w' ∧ Below B w w' ∧ Lib.OthersKept 5 (some b) w w') :=
  (Any.Builder_String_any_k Try.blays169 Try.bextra B b l w h hBw)
end Go.Proofs
