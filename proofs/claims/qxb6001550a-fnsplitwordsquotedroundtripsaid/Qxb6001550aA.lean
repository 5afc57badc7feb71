import Derived.Test.Qxb6001550aRows
import Derived.Test.Qxb6001550aBuild
import Derived.WalkKit
import Derived.WalkSpells
import Derived.Lib.Bytealg
import Derived.Lib.Strings
import Derived.Lib.Walk
import Derived.BigGuardPart
import Derived.Lib.OwnKind
namespace Go.Proofs.Qxb6001550a
open Go.RowKit
set_option linter.unusedVariables false
set_option linter.unusedSimpArgs false

theorem hide {p : Prop} (h : p) : Hid p := h
theorem unhide {p : Prop} (h : Hid p) : p := h

set_option maxRecDepth 100000 in
theorem liteIndexByte_any (s : ByteArray) (c : Int) (w : World) :
    Calls Try.prog 21 #[.string s, .int .u8 c] w fun e w' => e = .returned (.int .i64 (Lib.indexByte s.data.toList c.toNat.toUInt8)) ∧ w' = w := by
  go_enter Try.func21, Try.ntmps21
  go_wp2
  rw [run_callFunc_extern Try.func23 (by kernel_rfl) (by kernel_rfl) (by kernel_rfl) (e := Extern.BytealgIndexByte.indexByte) (by kernel_rfl), Lib.run_indexByteString]
  simp only [Result.andThen]
  rw [Oper.upon_value]
  go_wp2
  go_ret
  exact ⟨rfl, rfl⟩

theorem indexByte_any (s : ByteArray) (c : Int) (w : World) :
    Calls Try.prog 16 #[.string s, .int .u8 c] w fun e w' => e = .returned (.int .i64 (Lib.indexByte s.data.toList c.toNat.toUInt8)) ∧ w' = w := by
  go_enter Try.func16, Try.ntmps16
  go_wp2_with (go_at_call 21; refine (liteIndexByte_any _ _ _).mono ?_; rintro e w' ⟨rfl, rfl⟩)
  go_ret
  exact ⟨rfl, rfl⟩

/-- the place of a separator -/
def sepI (c : UInt8) : Int := if c.toNat = 32 then 0 else if c.toNat = 9 then 1 else -1

theorem sep_any (c : UInt8) (w : World) : Calls Try.prog 16 #[.string ⟨#[32, 9]⟩, .int .u8 (c.toNat : Int)] w fun e w' => e = .returned (.int .i64 (sepI c)) ∧ w' = w := by
  refine (indexByte_any _ _ _).mono ?_
  rintro e w' ⟨rfl, rfl⟩
  refine ⟨?_, rfl⟩
  congr 2
  have h : ((c.toNat : Int).toNat.toUInt8) = c := by simp
  rw [h]
  unfold sepI
  by_cases h1 : c = 32
  · subst h1; rfl
  · by_cases h2 : c = 9
    · subst h2; rfl
    · have e1 : ¬ c.toNat = 32 := fun e => h1 (UInt8.toNat.inj e)
      have e2 : ¬ c.toNat = 9 := fun e => h2 (UInt8.toNat.inj e)
      rw [if_neg e1, if_neg e2]
      simp [Lib.indexByte, h1, h2, Ne.symm h1, Ne.symm h2, beq_iff_eq]

/-- a slice of numbers that can be read -/
def JoinsAt (w : World) (v : Value) (js : List Int) : Prop :=
  (v = .slice none 0 0 ∧ js = []) ∨ ∃ g cap, v = .slice (some ⟨g, 0, none⟩) js.length cap ∧ g < w.heap.size ∧ ∀ k, k < js.length → w.cell? ⟨g, k, none⟩ = some (.int .i64 (js.getD k 0))

theorem JoinsAt.below {w w' : World} {v : Value} {js : List Int} (h : JoinsAt w v js) (hb : Below w.heap.size w w') : JoinsAt w' v js := by
  rcases h with h | ⟨g, cap, hv, hg, hc⟩
  · exact .inl h
  · exact .inr ⟨g, cap, hv, by have := hb.size; omega, fun k hk => (hb.cell (p := ⟨g, k, none⟩) hg).trans (hc k hk)⟩

theorem JoinsAt.alloc {w : World} {v : Value} {js : List Int} (h : JoinsAt w v js) (o : Obj) : JoinsAt (w.alloc o) v js :=
  h.below ((Below.refl _ _).alloc (Nat.le_refl _) o)

/-- the line of a place -/
def lineF (i : Int) : List Int → Int → Int
  | [], n => n
  | j :: js, n => lineF i js (if j ≤ i then wrap64 (n + 1) else n)

theorem lineF_snoc (i : Int) (js : List Int) (j n : Int) : lineF i (js ++ [j]) n = if j ≤ i then wrap64 (lineF i js n + 1) else lineF i js n := by
  induction js generalizing n with
  | nil => rfl
  | cons a bs ih => exact ih _

theorem lineF_take (i n : Int) (js : List Int) (k : Nat) (hk : k < js.length) : lineF i (js.take (k + 1)) n = if js.getD k 0 ≤ i then wrap64 (lineF i (js.take k) n + 1) else lineF i (js.take k) n := by
  rw [List.take_add_one, List.getElem?_eq_getElem hk, Option.toList_some, lineF_snoc]
  simp [List.getD_eq_getElem?_getD, List.getElem?_eq_getElem hk]

def lineBox (t : ByteArray) (n : Int) (vj : Value) : Obj := .cells #[.string t, .int .i64 n, vj] 45

set_option maxRecDepth 100000 in
set_option maxHeartbeats 1000000 in
theorem lineAt_any (t : ByteArray) (n i : Int) (vj : Value) (js : List Int) (w : World) (hj : JoinsAt w vj js) (hl : js.length ≤ 1048576) :
    Calls Try.prog 19 #[.agg #[.string t, .int .i64 n, vj], .int .i64 i] w fun e w' => e = .returned (.int .i64 (lineF i js n)) ∧ w' = w.alloc (lineBox t n vj) := by
  rcases hj with ⟨rfl, rfl⟩ | ⟨g, cap, rfl, hg, hc⟩
  · go_enter Try.func19, Try.ntmps19
    go_wp2
    go_loop [5, 13] (fun vn vi => vn = .int .i64 n ∧ vi = .int .i64 0) (fun _ _ => 0)
    case atStart => exact ⟨rfl, rfl⟩
    case round =>
      obtain ⟨rfl, rfl⟩ := hrel
      go_wp2
      go_ret
      exact ⟨rfl, rfl⟩
  · go_enter Try.func19, Try.ntmps19
    go_wp2
    go_loop [5, 13] (fun vn vk => ∃ (k : Nat) (x : Int), vk = .int .i64 (k : Int) ∧ k ≤ js.length ∧ vn = .int .i64 x ∧ Hid (x = lineF i (js.take k) n)) (fun _ vk => js.length - (intOf vk).toNat)
    case atStart => exact ⟨0, n, rfl, by omega, rfl, hide rfl⟩
    case round =>
      obtain ⟨k, x, rfl, hk, rfl, HX⟩ := hrel
      by_cases hlt : k < js.length
      · have hck : (w.alloc (lineBox t n (.slice (some ⟨g, 0, none⟩) js.length cap))).cell? ⟨g, k, none⟩ = some (.int .i64 (js.getD k 0)) := (World.cell?_alloc_old _ _ _ (by simp; omega)).trans (hc k hlt)
        obtain ⟨j, hj⟩ : ∃ j, js.getD k 0 = j := ⟨_, rfl⟩
        have HN := hide (lineF_take i n js k hlt)
        rw [hj] at hck HN
        clear hj hc
        simp only [lineBox] at hck
        by_cases hji : j ≤ i
        · go_wp2
          refine ⟨⟨k + 1, _, by go_num, by omega, rfl, ?_⟩, by simp [intOf]; omega⟩
          have hn := unhide HN
          rw [if_pos hji] at hn
          refine hide ?_
          rw [unhide HX, hn]
        · go_wp2
          refine ⟨⟨k + 1, _, by go_num, by omega, rfl, ?_⟩, by simp [intOf]; omega⟩
          have hn := unhide HN
          rw [if_neg hji] at hn
          refine hide ?_
          rw [unhide HX, hn]
      · go_wp2
        go_ret
        refine ⟨?_, rfl⟩
        show Ending.returned (.int .i64 x) = _
        rw [unhide HX, List.take_of_length_le (by omega)]

end Go.Proofs.Qxb6001550a
