import Derived.Test.Qxb6001402aRows
import Derived.WalkKit
import Derived.WalkSpells
import Derived.Lib.Bytealg
import Derived.Lib.Strings
import Derived.Lib.Walk
import Derived.BigGuardPart
namespace Go.Proofs.Qxb6001402a
open Go.RowKit
set_option linter.unusedVariables false
set_option linter.unusedSimpArgs false

theorem hide {p : Prop} (h : p) : Hid p := h
theorem unhide {p : Prop} (h : Hid p) : p := h

theorem byte_lt (x : UInt8) : (x.toNat : Int) < 256 := by have := x.toNat_lt; omega

theorem ret_bool {a b : Bool} (h : a = b) : Ending.returned (.bool a) = .returned (.bool b) := by rw [h]

theorem space_any (c : Int) (w : World) : Calls Try.prog 25 #[.int .u8 c] w fun e w' => e = .returned (.bool (decide (c ≤ 32) || (c == 127))) ∧ w' = w := by
  by_cases h : c ≤ 32
  · go_enter Try.func25, Try.ntmps25
    go_wp2
    go_ret
    exact ⟨by simp [h], rfl⟩
  · go_enter Try.func25, Try.ntmps25
    go_wp2
    all_goals (go_ret; refine ⟨ret_bool ?_, rfl⟩; simp; omega)

/-- the bytes of a word -/
def wordB (c : Int) : Bool := (decide (97 ≤ c) && decide (c ≤ 122)) || (decide (65 ≤ c) && decide (c ≤ 90)) || (decide (48 ≤ c) && decide (c ≤ 57)) || c == 95 || c == 36 || decide (128 ≤ c)

set_option maxHeartbeats 1000000 in
theorem word_any (c : Int) (w : World) : Calls Try.prog 30 #[.int .u8 c] w fun e w' => e = .returned (.bool (wordB c)) ∧ w' = w := by
  go_enter Try.func30, Try.ntmps30
  go_wp2
  all_goals (go_ret; refine ⟨ret_bool ?_, rfl⟩; unfold wordB; first | (simp_all; done) | (simp_all; omega))

set_option maxRecDepth 100000 in
theorem liteIndexByte_any (s : ByteArray) (c : Int) (w : World) :
    Calls Try.prog 37 #[.string s, .int .u8 c] w fun e w' => e = .returned (.int .i64 (Lib.indexByte s.data.toList c.toNat.toUInt8)) ∧ w' = w := by
  go_enter Try.func37, Try.ntmps37
  go_wp2
  rw [run_callFunc_extern Try.func40 (by kernel_rfl) (by kernel_rfl) (by kernel_rfl) (e := Extern.BytealgIndexByte.indexByte) (by kernel_rfl), Lib.run_indexByteString]
  simp only [Result.andThen]
  rw [Oper.upon_value]
  go_wp2
  go_ret
  exact ⟨rfl, rfl⟩

theorem indexByte_any (s : ByteArray) (c : Int) (w : World) :
    Calls Try.prog 27 #[.string s, .int .u8 c] w fun e w' => e = .returned (.int .i64 (Lib.indexByte s.data.toList c.toNat.toUInt8)) ∧ w' = w := by
  go_enter Try.func27, Try.ntmps27
  go_wp2_with (go_at_call 37; refine (liteIndexByte_any _ _ _).mono ?_; rintro e w' ⟨rfl, rfl⟩)
  go_ret
  exact ⟨rfl, rfl⟩

theorem hasPrefix_any (s p : ByteArray) (w : World) :
    Calls Try.prog 26 #[.string s, .string p] w fun e w' => e = .returned (.bool (Lib.hasPrefix s.data.toList p.data.toList)) ∧ w' = w := by
  rw [← Lib.hasPrefix_of_take, ← Lib.size_eq, ← Lib.size_eq]
  go_enter Try.func26, Try.ntmps26
  go_wp2
  · rename_i h
    go_ret
    refine ⟨?_, rfl⟩
    show Ending.returned (Value.bool ((s.extract 0 p.size).toList == p.toList)) = _
    rw [Lib.extract_toList, Lib.toList_data]
    simp [h]
  · rename_i h
    go_ret
    refine ⟨?_, rfl⟩
    show Ending.returned (Value.bool false) = _
    simp [h]

/-- versionLen answers a length within its text -/
theorem version_any (s : ByteArray) (w : World) (hs : s.size ≤ 1048576) : Calls Try.prog 28 #[.string s] w fun e w' => (∃ k : Nat, k ≤ s.size ∧ e = .returned (.int .i64 (k : Int))) ∧ w' = w := by
  go_enter Try.func28, Try.ntmps28
  go_wp2
  go_loop [3] (fun vn => ∃ k : Nat, vn = .int .i64 (k : Int) ∧ k ≤ s.size ∧ k ≤ 6) (fun vn => s.size - (intOf vn).toNat)
  case atStart => exact ⟨0, rfl, by omega, by omega⟩
  case round =>
    obtain ⟨k, rfl, hk, hk6⟩ := hrel
    have fin : ∀ j : Nat, j ≤ s.size → (∃ k : Nat, k ≤ s.size ∧ Ending.returned (.int .i64 (j : Int)) = .returned (.int .i64 (k : Int))) := fun j hj => ⟨j, hj, rfl⟩
    have F0 := hide (fin 0 (by omega))
    have FK := hide (fin k hk)
    clear fin
    by_cases hlt : k < s.size
    · by_cases h6 : k < 6
      · go_wp2
        all_goals first
          | exact ⟨⟨k + 1, by go_num, by omega, by omega⟩, by simp [intOf]; omega⟩
          | (go_ret; exact ⟨unhide F0, rfl⟩)
          | (go_ret; exact ⟨unhide FK, rfl⟩)
      · go_wp2
        all_goals first
          | (go_ret; exact ⟨unhide F0, rfl⟩)
          | (go_ret; exact ⟨unhide FK, rfl⟩)
    · go_wp2
      all_goals first
          | (go_ret; exact ⟨unhide F0, rfl⟩)
          | (go_ret; exact ⟨unhide FK, rfl⟩)

end Go.Proofs.Qxb6001402a
