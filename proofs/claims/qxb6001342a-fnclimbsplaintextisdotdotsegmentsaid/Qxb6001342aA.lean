import Derived.Test.Qxb6001342aRows
import Derived.WalkKit
import Derived.WalkSpells
import Derived.Lib.Bytealg
import Derived.Lib.Strings
import Derived.Lib.Walk
import Derived.BigGuardPart
namespace Go.Proofs.Qxb6001342a
open Go.RowKit
set_option linter.unusedVariables false
set_option linter.unusedSimpArgs false

/-- reading a byte in one state -/
def afterF (st c : Int) (syn : Bool) : Int :=
  if st = 64 then 64
  else if st = 32 then (if syn = true ∧ c = 40 then 16 else 0)
  else if c = 47 ∧ (st = 4 ∨ st = 16) then 64
  else if c = 47 then 1
  else if st = 8 ∨ st = 16 then st
  else
    (if c = 46 ∧ st = 1 then 2 else if c = 46 ∧ st = 2 then 4
      else if syn = true ∧ c = 42 ∧ st = 2 then 14 else if syn = true ∧ c = 42 ∧ st = 4 then 12
      else if syn = true ∧ c = 63 ∧ st = 2 then 12 else if syn = true ∧ c = 91 ∧ st = 2 then 16 else 8) +
    (if syn = true ∧ (c = 63 ∨ c = 42 ∨ c = 43 ∨ c = 64 ∨ c = 33) then 32 else 0)

theorem idx_ext (c : Int) (h0 : 0 ≤ c) (h1 : c < 256) : (0 ≤ Lib.indexByte [63, 42, 43, 64, 33] c.toNat.toUInt8) ↔ (c = 63 ∨ c = 42 ∨ c = 43 ∨ c = 64 ∨ c = 33) := by
  obtain ⟨n, rfl⟩ := Int.eq_ofNat_of_zero_le h0
  have hn : n < 256 := by omega
  have key : ∀ n : Fin 256, (0 ≤ Lib.indexByte [63, 42, 43, 64, 33] (n.val : Int).toNat.toUInt8) ↔ ((n.val : Int) = 63 ∨ (n.val : Int) = 42 ∨ (n.val : Int) = 43 ∨ (n.val : Int) = 64 ∨ (n.val : Int) = 33) := by decide +kernel
  exact key ⟨n, hn⟩

set_option maxRecDepth 100000 in
theorem liteIndexByte_any (s : ByteArray) (c : Int) (w : World) :
    Calls Try.prog 23 #[.string s, .int .u8 c] w fun e w' => e = .returned (.int .i64 (Lib.indexByte s.data.toList c.toNat.toUInt8)) ∧ w' = w := by
  go_enter Try.func23, Try.ntmps23
  go_wp2
  rw [run_callFunc_extern Try.func25 (by kernel_rfl) (by kernel_rfl) (by kernel_rfl) (e := Extern.BytealgIndexByte.indexByte) (by kernel_rfl), Lib.run_indexByteString]
  simp only [Result.andThen]
  rw [Oper.upon_value]
  go_wp2
  go_ret
  exact ⟨rfl, rfl⟩

theorem indexByte_any (s : ByteArray) (c : Int) (w : World) :
    Calls Try.prog 19 #[.string s, .int .u8 c] w fun e w' => e = .returned (.int .i64 (Lib.indexByte s.data.toList c.toNat.toUInt8)) ∧ w' = w := by
  go_enter Try.func19, Try.ntmps19
  go_wp2_with (go_at_call 23; refine (liteIndexByte_any _ _ _).mono ?_; rintro e w' ⟨rfl, rfl⟩)
  go_ret
  exact ⟨rfl, rfl⟩

theorem hasPrefix_any (s p : ByteArray) (w : World) :
    Calls Try.prog 22 #[.string s, .string p] w fun e w' => e = .returned (.bool (Lib.hasPrefix s.data.toList p.data.toList)) ∧ w' = w := by
  rw [← Lib.hasPrefix_of_take, ← Lib.size_eq, ← Lib.size_eq]
  go_enter Try.func22, Try.ntmps22
  go_wp2
  · rename_i h
    go_ret
    refine ⟨?_, rfl⟩
    show Ending.returned (Value.bool ((s.extract 0 p.size).toList == p.toList)) = _
    rw [Lib.extract_toList, Lib.toList_data]
    simp [h]
  · rename_i h
    go_ret
    refine ⟨?_, rfl⟩
    show Ending.returned (Value.bool false) = _
    simp [h]


theorem ret_u8 {a b : Int} (h : a = b) : Ending.returned (.int .u8 a) = .returned (.int .u8 b) := by rw [h]
theorem or_8_32 : bits .or .u8 8 32 = 40 := by decide
theorem or_2_32 : bits .or .u8 2 32 = 34 := by decide
theorem or_14_32 : bits .or .u8 14 32 = 46 := by decide
theorem or_12_32 : bits .or .u8 12 32 = 44 := by decide

theorem after64 (c : Int) (syn : Bool) (w : World) (h0 : 0 ≤ c) (h1 : c < 256) :
    Calls Try.prog 17 #[.int .u8 64, .int .u8 c, .bool syn] w fun e w' => e = .returned (.int .u8 (afterF 64 c syn)) ∧ w' = w := by
  have hx := idx_ext c h0 h1
  cases syn
  · go_enter Try.func17, Try.ntmps17
    go_wp2_with (go_at_call 19; refine (indexByte_any _ _ _).mono ?_; rintro e w' ⟨rfl, rfl⟩)
    all_goals (go_ret; refine ⟨ret_u8 ?_, rfl⟩; simp [afterF, *])
  · go_enter Try.func17, Try.ntmps17
    go_wp2_with (go_at_call 19; refine (indexByte_any _ _ _).mono ?_; rintro e w' ⟨rfl, rfl⟩)
    all_goals (go_ret; refine ⟨ret_u8 ?_, rfl⟩; simp [afterF, or_8_32, or_2_32, or_14_32, or_12_32, *])

theorem after32 (c : Int) (syn : Bool) (w : World) (h0 : 0 ≤ c) (h1 : c < 256) :
    Calls Try.prog 17 #[.int .u8 32, .int .u8 c, .bool syn] w fun e w' => e = .returned (.int .u8 (afterF 32 c syn)) ∧ w' = w := by
  cases syn
  · go_enter Try.func17, Try.ntmps17
    go_wp2
    go_ret
    exact ⟨rfl, rfl⟩
  · by_cases h : c = 40
    · subst h
      go_enter Try.func17, Try.ntmps17
      go_wp2
      go_ret
      exact ⟨rfl, rfl⟩
    · have hb : (c == 40) = false := by simpa using h
      go_enter Try.func17, Try.ntmps17
      go_wp2
      go_ret
      refine ⟨ret_u8 ?_, rfl⟩
      simp [afterF, h]

theorem after16 (c : Int) (syn : Bool) (w : World) (h0 : 0 ≤ c) (h1 : c < 256) :
    Calls Try.prog 17 #[.int .u8 16, .int .u8 c, .bool syn] w fun e w' => e = .returned (.int .u8 (afterF 16 c syn)) ∧ w' = w := by
  have hx := idx_ext c h0 h1
  cases syn
  · go_enter Try.func17, Try.ntmps17
    go_wp2_with (go_at_call 19; refine (indexByte_any _ _ _).mono ?_; rintro e w' ⟨rfl, rfl⟩)
    all_goals (go_ret; refine ⟨ret_u8 ?_, rfl⟩; simp [afterF, *])
  · go_enter Try.func17, Try.ntmps17
    go_wp2_with (go_at_call 19; refine (indexByte_any _ _ _).mono ?_; rintro e w' ⟨rfl, rfl⟩)
    all_goals (go_ret; refine ⟨ret_u8 ?_, rfl⟩; simp [afterF, or_8_32, or_2_32, or_14_32, or_12_32, *])

theorem after8 (c : Int) (syn : Bool) (w : World) (h0 : 0 ≤ c) (h1 : c < 256) :
    Calls Try.prog 17 #[.int .u8 8, .int .u8 c, .bool syn] w fun e w' => e = .returned (.int .u8 (afterF 8 c syn)) ∧ w' = w := by
  have hx := idx_ext c h0 h1
  cases syn
  · go_enter Try.func17, Try.ntmps17
    go_wp2_with (go_at_call 19; refine (indexByte_any _ _ _).mono ?_; rintro e w' ⟨rfl, rfl⟩)
    all_goals (go_ret; refine ⟨ret_u8 ?_, rfl⟩; simp [afterF, *])
  · go_enter Try.func17, Try.ntmps17
    go_wp2_with (go_at_call 19; refine (indexByte_any _ _ _).mono ?_; rintro e w' ⟨rfl, rfl⟩)
    all_goals (go_ret; refine ⟨ret_u8 ?_, rfl⟩; simp [afterF, or_8_32, or_2_32, or_14_32, or_12_32, *])

theorem after4 (c : Int) (syn : Bool) (w : World) (h0 : 0 ≤ c) (h1 : c < 256) :
    Calls Try.prog 17 #[.int .u8 4, .int .u8 c, .bool syn] w fun e w' => e = .returned (.int .u8 (afterF 4 c syn)) ∧ w' = w := by
  have hx := idx_ext c h0 h1
  cases syn
  · go_enter Try.func17, Try.ntmps17
    go_wp2_with (go_at_call 19; refine (indexByte_any _ _ _).mono ?_; rintro e w' ⟨rfl, rfl⟩)
    all_goals (go_ret; refine ⟨ret_u8 ?_, rfl⟩; simp [afterF, *])
  · go_enter Try.func17, Try.ntmps17
    go_wp2_with (go_at_call 19; refine (indexByte_any _ _ _).mono ?_; rintro e w' ⟨rfl, rfl⟩)
    all_goals (go_ret; refine ⟨ret_u8 ?_, rfl⟩; simp [afterF, or_8_32, or_2_32, or_14_32, or_12_32, *])

theorem after2 (c : Int) (syn : Bool) (w : World) (h0 : 0 ≤ c) (h1 : c < 256) :
    Calls Try.prog 17 #[.int .u8 2, .int .u8 c, .bool syn] w fun e w' => e = .returned (.int .u8 (afterF 2 c syn)) ∧ w' = w := by
  have hx := idx_ext c h0 h1
  cases syn
  · go_enter Try.func17, Try.ntmps17
    go_wp2_with (go_at_call 19; refine (indexByte_any _ _ _).mono ?_; rintro e w' ⟨rfl, rfl⟩)
    all_goals (go_ret; refine ⟨ret_u8 ?_, rfl⟩; simp [afterF, *])
  · go_enter Try.func17, Try.ntmps17
    go_wp2_with (go_at_call 19; refine (indexByte_any _ _ _).mono ?_; rintro e w' ⟨rfl, rfl⟩)
    all_goals (go_ret; refine ⟨ret_u8 ?_, rfl⟩; simp [afterF, or_8_32, or_2_32, or_14_32, or_12_32, *])

theorem after1 (c : Int) (syn : Bool) (w : World) (h0 : 0 ≤ c) (h1 : c < 256) :
    Calls Try.prog 17 #[.int .u8 1, .int .u8 c, .bool syn] w fun e w' => e = .returned (.int .u8 (afterF 1 c syn)) ∧ w' = w := by
  have hx := idx_ext c h0 h1
  cases syn
  · go_enter Try.func17, Try.ntmps17
    go_wp2_with (go_at_call 19; refine (indexByte_any _ _ _).mono ?_; rintro e w' ⟨rfl, rfl⟩)
    all_goals (go_ret; refine ⟨ret_u8 ?_, rfl⟩; simp [afterF, *])
  · go_enter Try.func17, Try.ntmps17
    go_wp2_with (go_at_call 19; refine (indexByte_any _ _ _).mono ?_; rintro e w' ⟨rfl, rfl⟩)
    all_goals (go_ret; refine ⟨ret_u8 ?_, rfl⟩; simp [afterF, or_8_32, or_2_32, or_14_32, or_12_32, *])

end Go.Proofs.Qxb6001342a
