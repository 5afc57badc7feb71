import Derived.Test.Qxb6001476aRows
import Derived.Test.Qxb6001476aBuild
import Derived.WalkKit
import Derived.WalkSpells
import Derived.Lib.Bytealg
import Derived.Lib.IndexLaws
import Derived.Lib.Strings
import Derived.Lib.Walk
import Derived.BigGuardPart
namespace Go.Proofs.Qxb6001476a
open Go.RowKit
set_option linter.unusedVariables false
set_option linter.unusedSimpArgs false

theorem hide {p : Prop} (h : p) : Hid p := h
theorem unhide {p : Prop} (h : Hid p) : p := h

set_option maxRecDepth 100000 in
theorem liteIndexByte_any (s : ByteArray) (c : Int) (w : World) :
    Calls Try.prog 26 #[.string s, .int .u8 c] w fun e w' => e = .returned (.int .i64 (Lib.indexByte s.data.toList c.toNat.toUInt8)) ∧ w' = w := by
  go_enter Try.func26, Try.ntmps26
  go_wp2
  rw [run_callFunc_extern Try.func28 (by kernel_rfl) (by kernel_rfl) (by kernel_rfl) (e := Extern.BytealgIndexByte.indexByte) (by kernel_rfl), Lib.run_indexByteString]
  simp only [Result.andThen]
  rw [Oper.upon_value]
  go_wp2
  go_ret
  exact ⟨rfl, rfl⟩

theorem indexByte_any (s : ByteArray) (c : Int) (w : World) :
    Calls Try.prog 20 #[.string s, .int .u8 c] w fun e w' => e = .returned (.int .i64 (Lib.indexByte s.data.toList c.toNat.toUInt8)) ∧ w' = w := by
  go_enter Try.func20, Try.ntmps20
  go_wp2_with (go_at_call 26; refine (liteIndexByte_any _ _ _).mono ?_; rintro e w' ⟨rfl, rfl⟩)
  go_ret
  exact ⟨rfl, rfl⟩

theorem idx_bd (l : List UInt8) (c : UInt8) : -1 ≤ Lib.indexByte l c ∧ Lib.indexByte l c < l.length := by
  refine ⟨Lib.indexByte_ge l c, ?_⟩
  by_cases h : 0 ≤ Lib.indexByte l c
  · obtain ⟨o, ho⟩ := Int.eq_ofNat_of_zero_le h
    have := (Lib.indexByte_some (l := l) (c := c) (o := o) ho).1
    have := (List.getElem?_eq_some_iff.1 this).1
    omega
  · omega

theorem member_nil (s : ByteArray) (w : World) : Calls Try.prog 23 #[.pointer none, .string s] w fun e w' => e = .returned (.pointer none) ∧ w' = w := by
  go_enter Try.func23, Try.ntmps23
  go_wp2
  go_ret
  exact ⟨rfl, rfl⟩

theorem member_empty (s : ByteArray) (w : World) (jb : Nat) (h0 : w.cell? ⟨jb, 0, none⟩ = some (.int .i64 5)) (h3 : w.cell? ⟨jb, 3, none⟩ = some (.slice none 0 0)) :
    Calls Try.prog 23 #[.pointer (some ⟨jb, 0, none⟩), .string s] w fun e w' => e = .returned (.pointer none) ∧ w' = w := by
  go_enter Try.func23, Try.ntmps23
  go_wp2
  refine wp_loop_rounds 1 ?_
  rw [rounds_succ]
  go_wp2
  go_ret
  exact ⟨rfl, rfl⟩

/-- no variables: nil, or an object without members -/
def NoVars (V : Value) (B : Nat) (w : World) : Prop :=
  V = .pointer none ∨ ∃ jb, jb < B ∧ V = .pointer (some ⟨jb, 0, none⟩) ∧ w.cell? ⟨jb, 0, none⟩ = some (.int .i64 5) ∧ w.cell? ⟨jb, 3, none⟩ = some (.slice none 0 0)

theorem NoVars.later {V : Value} {B : Nat} {w w' : World} (h : NoVars V B w) (hb : Below B w w') : NoVars V B w' := by
  rcases h with h | ⟨jb, hj, hv, h0, h3⟩
  · exact .inl h
  · exact .inr ⟨jb, hj, hv, (hb.cell (p := ⟨jb, 0, none⟩) hj).trans h0, (hb.cell (p := ⟨jb, 3, none⟩) hj).trans h3⟩

theorem member_any (V : Value) (B : Nat) (s : ByteArray) (w : World) (h : NoVars V B w) : Calls Try.prog 23 #[V, .string s] w fun e w' => e = .returned (.pointer none) ∧ w' = w := by
  rcases h with rfl | ⟨jb, hj, rfl, h0, h3⟩
  · exact member_nil s w
  · exact member_empty s w jb h0 h3

theorem ext_list (a : ByteArray) (i j : Nat) : (a.extract i j).data.toList = (a.data.toList.take j).drop i := by
  simp [ByteArray.data_extract, List.drop_take]

theorem cut_three (l r : List UInt8) (i j n : Nat) (h1 : i ≤ j) (h2 : j ≤ n) (h3 : r.length ≤ n) : l ++ (r.take i).drop 0 ++ (r.take j).drop i ++ (r.take n).drop j = l ++ r := by
  rw [List.drop_zero, List.take_of_length_le h3, List.append_assoc, List.append_assoc]
  congr 1
  rw [← List.append_assoc]
  have e : r.take i ++ (r.take j).drop i = r.take j := by
    have := List.take_append_drop i (r.take j)
    rwa [List.take_take, Nat.min_eq_left h1] at this
  rw [e, List.take_append_drop]

/-- what has been written, and what is left -/
def RelU (a : ByteArray) (w : World) (V v0 : Value) (wr : World) : Prop :=
  ∃ (r : ByteArray) (l : List UInt8), v0 = .string r ∧ l ++ r.data.toList = a.data.toList ∧ Lib.IsBuilderF 46 5 w.heap.size w.heap.size (Lib.byteCells l) wr ∧ NoVars V w.heap.size wr ∧ Below w.heap.size w wr ∧ w.heap.size ≤ wr.heap.size

def strOf : Value → Nat | .string s => s.size | _ => 0

set_option maxRecDepth 100000 in
set_option maxHeartbeats 1000000 in
theorem with_any (a : ByteArray) (V : Value) (w : World) (hs : a.size ≤ 1048576) (hV : NoVars V w.heap.size w) :
    Calls Try.prog 19 #[.string a, V] w fun e w' => e = .returned (.string a) ∧ Below w.heap.size w w' := by
  go_enter Try.func19, Try.ntmps19
  go_wp2_with fail
  go_loopw [0] (fun v0 wr => RelU a w V v0 wr) (fun v0 _ => strOf v0)
  case atStart => exact ⟨a, [], rfl, rfl, Lib.IsBuilderF.of (Lib.fresh_isBuilder 46 5 w), hV.later ((Below.refl _ _).alloc (Nat.le_refl _) _), (Below.refl _ _).alloc (Nat.le_refl _) _, by simp⟩
  case round =>
    obtain ⟨r, l, rfl, hlr, hbd, hnv, hbel, hsz⟩ := hrel
    have hlen : l.length + r.size ≤ 1048576 := by
      have := congrArg List.length hlr
      simp at this
      omega
    have HLR := hide hlr
    have HBD := hide hbd
    have HNV := hide hnv
    clear hlr hbd hnv
    obtain ⟨q, hq⟩ : ∃ q, Lib.indexByte r.data.toList 123 = q := ⟨_, rfl⟩
    have hqb := idx_bd r.data.toList 123
    rw [hq] at hqb
    simp only [Array.length_toList, ByteArray.size_data] at hqb
    by_cases hq0 : q < 0
    · go_wp2_with (go_at_call 20; refine (indexByte_any _ _ _).mono ?_; rintro e w' ⟨rfl, rfl⟩)
      refine (Try.WriteString_k w.heap.size w.heap.size _ r _ (unhide HBD) (by rw [Lib.byteCells_length]; omega) hsz).mono ?_
      rintro e w1 ⟨rfl, hb1, hbel1, _⟩
      rw [Lib.strCells_eq, ← Lib.byteCells_append, unhide HLR] at hb1
      have HB1 := hide hb1
      clear hb1
      have hsz1 := hbel1.size
      go_wp2_with fail
      refine (Try.String_any_k w.heap.size w.heap.size a.data.toList _ (unhide HB1) (by omega)).mono ?_
      rintro e w2 ⟨rfl, _, hbel2, _⟩
      go_wp2
      go_ret
      exact ⟨rfl, (hbel.trans hbel1).trans hbel2⟩
    · obtain ⟨s, rfl⟩ : ∃ s : Nat, q = (s : Int) := ⟨q.toNat, by omega⟩
      have hsr : s < r.size := by omega
      obtain ⟨n, hn⟩ : ∃ n, Lib.indexByte (List.take (r.size - s) (List.drop s r.data.toList)) 125 = n := ⟨_, rfl⟩
      have hnb := idx_bd (List.take (r.size - s) (List.drop s r.data.toList)) 125
      rw [hn] at hnb
      simp only [List.length_take, List.length_drop, Array.length_toList, ByteArray.size_data] at hnb
      by_cases hn0 : n < 0
      · go_wp2_with (go_at_call 20; refine (indexByte_any _ _ _).mono ?_; rintro e w' ⟨rfl, rfl⟩)
        refine (Try.WriteString_k w.heap.size w.heap.size _ r _ (unhide HBD) (by rw [Lib.byteCells_length]; omega) hsz).mono ?_
        rintro e w1 ⟨rfl, hb1, hbel1, _⟩
        rw [Lib.strCells_eq, ← Lib.byteCells_append, unhide HLR] at hb1
        have HB1 := hide hb1
        clear hb1
        have hsz1 := hbel1.size
        go_wp2_with fail
        refine (Try.String_any_k w.heap.size w.heap.size a.data.toList _ (unhide HB1) (by omega)).mono ?_
        rintro e w2 ⟨rfl, _, hbel2, _⟩
        go_wp2
        go_ret
        exact ⟨rfl, (hbel.trans hbel1).trans hbel2⟩
      · obtain ⟨k, rfl⟩ : ∃ k : Nat, n = (k : Int) := ⟨n.toNat, by omega⟩
        have hkr : s + k < r.size := by omega
        have hk0 : k ≠ 0 := by
          rintro rfl
          have h1 := (Lib.indexByte_some hq).1
          have h2 := (Lib.indexByte_some (o := 0) hn).1
          rw [List.getElem?_take, if_pos (by omega), List.getElem?_drop, Nat.add_zero, h1] at h2
          exact absurd h2 (by decide)
        have hk1 : 1 ≤ k := by omega
        go_wp2_with (first | (go_at_call 20; refine (indexByte_any _ _ _).mono ?_; rintro e w' ⟨rfl, rfl⟩))
        refine (member_any V w.heap.size _ _ (unhide HNV)).mono ?_
        rintro e w1 ⟨rfl, rfl⟩
        go_wp2_with fail
        refine (member_nil _ _).mono ?_
        rintro e w1 ⟨rfl, rfl⟩
        go_wp2_with fail
        refine (Try.WriteString_k w.heap.size w.heap.size _ _ _ (unhide HBD) (by rw [Lib.byteCells_length]; simp; omega) hsz).mono ?_
        rintro e w2 ⟨rfl, hb2, hbel2, _⟩
        rw [Lib.strCells_eq, ← Lib.byteCells_append] at hb2
        have HB2 := hide hb2
        clear hb2
        have hsz2 := hbel2.size
        go_wp2_with fail
        refine (Try.WriteString_k w.heap.size w.heap.size _ _ _ (unhide HB2) (by rw [Lib.byteCells_length]; simp; omega) (by omega)).mono ?_
        rintro e w3 ⟨rfl, hb3, hbel3, _⟩
        rw [Lib.strCells_eq, ← Lib.byteCells_append] at hb3
        have HB3 := hide hb3
        clear hb3
        have hsz3 := hbel3.size
        have HN3 := hide (((unhide HNV).later hbel2).later hbel3)
        have HBL := hide ((hbel.trans hbel2).trans hbel3)
        go_wp2
        refine ⟨⟨_, _, rfl, ?_, unhide HB3, unhide HN3, unhide HBL, by omega⟩, ?_⟩
        · rw [← unhide HLR]
          simp only [ext_list]
          exact cut_three l r.data.toList s (s + k + 1) r.size (by omega) (by omega) (by simp)
        · simp [strOf]; omega

end Go.Proofs.Qxb6001476a
