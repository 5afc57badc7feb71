/- the library's (*strings.Builder) at this program's numbers: the shelf's theorems, applied; the renaming is typed by hand -/
import Derived.Shelf.Strings.Builder1
import Derived.Shelf.Strings.BuilderK
import Derived.Test.Qxb6001402aProg
namespace Go.Proofs
open Go.Shelf Go.RowKit
def Try.bren : Go.Shelf.Ren := ⟨fun | 240 => 39 | 166 => 32 | 167 => 34 | 276 => 44 | 169 => 35 | n => n, fun | 70 => 47 | 72 => 49 | 37 => 30 | 75 => 51 | 80 => 40 | 164 => 59 | 127 => 56 | n => n, fun | n => n⟩
theorem Try.blays166 : Go.Proofs.Lays.n166 Try.prog Try.bren := {
  mixed := by kernel_rfl
  f166 := Try.func32.trans (congrArg some (by kernel_rfl))
  f240 := Try.func39.trans (congrArg some (by kernel_rfl))
  f276 := Try.func44.trans (congrArg some (by kernel_rfl))
  t0 := Try.underlying0
  a0 := Try.isAgg0
  z0 := Try.sizeOf0
  v0 := Try.zeroValue0
  t3 := Try.underlying3
  a3 := Try.isAgg3
  z3 := Try.sizeOf3
  v3 := Try.zeroValue3
  t4 := Try.underlying4
  a4 := Try.isAgg4
  z4 := Try.sizeOf4
  v4 := Try.zeroValue4
  t9 := Try.underlying9
  a9 := Try.isAgg9
  z9 := Try.sizeOf9
  v9 := Try.zeroValue9
  t20 := Try.underlying20
  a20 := Try.isAgg20
  z20 := Try.sizeOf20
  v20 := Try.zeroValue20
  t37 := Try.underlying30
  a37 := Try.isAgg30
  z37 := Try.sizeOf30
  v37 := Try.zeroValue30
  t70 := Try.underlying47
  a70 := Try.isAgg47
  z70 := Try.sizeOf47
  v70 := Try.zeroValue47
  t72 := Try.underlying49
  a72 := Try.isAgg49
  z72 := Try.sizeOf49
  v72 := Try.zeroValue49
  t75 := Try.underlying51
  a75 := Try.isAgg51
  z75 := Try.sizeOf51
  v75 := Try.zeroValue51
  t164 := Try.underlying59
  a164 := Try.isAgg59
  z164 := Try.sizeOf59
  v164 := Try.zeroValue59 }
theorem Try.blays167 : Go.Proofs.Lays.n167 Try.prog Try.bren := {
  mixed := by kernel_rfl
  f167 := Try.func34.trans (congrArg some (by kernel_rfl))
  f240 := Try.func39.trans (congrArg some (by kernel_rfl))
  f276 := Try.func44.trans (congrArg some (by kernel_rfl))
  t0 := Try.underlying0
  a0 := Try.isAgg0
  z0 := Try.sizeOf0
  v0 := Try.zeroValue0
  t4 := Try.underlying4
  a4 := Try.isAgg4
  z4 := Try.sizeOf4
  v4 := Try.zeroValue4
  t5 := Try.underlying5
  a5 := Try.isAgg5
  z5 := Try.sizeOf5
  v5 := Try.zeroValue5
  t9 := Try.underlying9
  a9 := Try.isAgg9
  z9 := Try.sizeOf9
  v9 := Try.zeroValue9
  t20 := Try.underlying20
  a20 := Try.isAgg20
  z20 := Try.sizeOf20
  v20 := Try.zeroValue20
  t37 := Try.underlying30
  a37 := Try.isAgg30
  z37 := Try.sizeOf30
  v37 := Try.zeroValue30
  t70 := Try.underlying47
  a70 := Try.isAgg47
  z70 := Try.sizeOf47
  v70 := Try.zeroValue47
  t72 := Try.underlying49
  a72 := Try.isAgg49
  z72 := Try.sizeOf49
  v72 := Try.zeroValue49
  t75 := Try.underlying51
  a75 := Try.isAgg51
  z75 := Try.sizeOf51
  v75 := Try.zeroValue51
  t164 := Try.underlying59
  a164 := Try.isAgg59
  z164 := Try.sizeOf59
  v164 := Try.zeroValue59 }
theorem Try.blays169 : Go.Proofs.Lays.n169 Try.prog Try.bren := {
  mixed := by kernel_rfl
  f169 := Try.func35.trans (congrArg some (by kernel_rfl))
  t0 := Try.underlying0
  a0 := Try.isAgg0
  z0 := Try.sizeOf0
  v0 := Try.zeroValue0
  t3 := Try.underlying3
  a3 := Try.isAgg3
  z3 := Try.sizeOf3
  v3 := Try.zeroValue3
  t9 := Try.underlying9
  a9 := Try.isAgg9
  z9 := Try.sizeOf9
  v9 := Try.zeroValue9
  t37 := Try.underlying30
  a37 := Try.isAgg30
  z37 := Try.sizeOf30
  v37 := Try.zeroValue30
  t70 := Try.underlying47
  a70 := Try.isAgg47
  z70 := Try.sizeOf47
  v70 := Try.zeroValue47
  t72 := Try.underlying49
  a72 := Try.isAgg49
  z72 := Try.sizeOf49
  v72 := Try.zeroValue49
  t127 := Try.underlying56
  a127 := Try.isAgg56
  z127 := Try.sizeOf56
  v127 := Try.zeroValue56 }
theorem Try.bextra : Builder.Extra Try.prog Try.bren := {
  sizeBuilder := by kernel_rfl
  liesBuilder := by kernel_rfl
  t5 := Try.underlying5
  a5 := Try.isAgg5
  z5 := Try.sizeOf5
  v5 := Try.zeroValue5
  infoByte := by kernel_rfl
  cellsByte := by kernel_rfl
  sizeByte := by kernel_rfl
  neB5 := by decide }
theorem Try.WriteString_k (B b : Nat) (bs : List Value) (s : ByteArray) (w : World) (h : Lib.IsBuilderF 49 5 B b bs w) (hlen : bs.length + s.size ≤ 140737488355328) (hBw : B ≤ w.heap.size) :
    Calls Try.prog 32 #[.pointer (some ⟨b, 0, none⟩), .string s] w fun e w' => e = .returned (.tuple #[.int .i64 s.size, .nilIface]) ∧ (Lib.IsBuilderF 49 5 B b (bs ++ Lib.strCells s) w' ∧ Below B w w' ∧ Lib.OthersKept 5 (some b) w w') :=
  (Any.Builder_WriteString_k Try.blays166 Try.bextra B b bs s w h hlen hBw).mono fun _ _ ⟨he, hb, hr⟩ => ⟨he, .inr hb, hr⟩
theorem Try.WriteByte_k (B b : Nat) (bs : List Value) (c : Int) (w : World) (h : Lib.IsBuilderF 49 5 B b bs w) (hlen : bs.length + 1 ≤ 140737488355328) (hBw : B ≤ w.heap.size) :
    Calls Try.prog 34 #[.pointer (some ⟨b, 0, none⟩), .int .u8 c] w fun e w' => e = .returned .nilIface ∧ (Lib.IsBuilderF 49 5 B b (bs ++ [.int .u8 c]) w' ∧ Below B w w' ∧ Lib.OthersKept 5 (some b) w w') :=
  (Any.Builder_WriteByte_k Try.blays167 Try.bextra B b bs c w h hlen hBw).mono fun _ _ ⟨he, hb, hr⟩ => ⟨he, .inr hb, hr⟩
theorem Try.String_any_k (B b : Nat) (l : List UInt8) (w : World) (h : Lib.IsBuilderF 49 5 B b (Lib.byteCells l) w) (hBw : B ≤ w.heap.size) :
    Calls Try.prog 35 #[.pointer (some ⟨b, 0, none⟩)] w fun e w' => e = .returned (.string ⟨l.toArray⟩) ∧ (Lib.IsBuilderF 49 5 B b (Lib.byteCells l) w' ∧ Below B w w' ∧ Lib.OthersKept 5 (some b) w w') :=
  (Any.Builder_String_any_k Try.blays169 Try.bextra B b l w h hBw)
end Go.Proofs
