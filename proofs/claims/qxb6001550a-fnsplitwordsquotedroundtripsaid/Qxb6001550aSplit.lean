import Derived.Test.Qxb6001550aSp
import Derived.Deep.QuietTactic
import Derived.BigQuiet
import Derived.Deep.RegionHeld3
import Derived.Deep.RegionWith
import Derived.Deep.DrawnRows
import Derived.Deep.DeepCutAuto
import Derived.Deep.AppendLies
import Derived.OwnWalk
namespace Go.Proofs.Qxb6001550a
open Go.RowKit
set_option linter.unusedVariables false
set_option linter.unusedSimpArgs false
attribute [local go_sem ↓] Go.wp_at_zero Go.wp_at_succ

theorem byte_snoc (l : List UInt8) (c : UInt8) : Lib.byteCells l ++ [.int .u8 (c.toNat : Int)] = Lib.byteCells (l ++ [c]) := by
  simp [Lib.byteCells]

def RelP (a : ByteArray) (n : Int) (js : List Int) (keep : Bool) (w0 : World) (b : Nat) (R : List (ByteArray × Int) × Int) (vw viw viq vst vi : Value) (wr : World) : Prop :=
  ∃ (i d st : Nat) (inw inq : Bool) (cur : List UInt8) (ws : List (ByteArray × Int)), vi = .int .i64 (i : Int) ∧ viw = .bool inw ∧ viq = .bool inq ∧ vst = .int .i64 (st : Int) ∧ i ≤ a.size ∧ a.size ≤ i + d ∧ st ≤ i ∧ cur.length ≤ i ∧ ws.length ≤ i ∧
    Hid (spF (at8 a) a.size keep (fun s => lineF s js n) d i inw inq st cur ws = R) ∧ Mem w0 b cur vw ws wr

theorem info47 : (Try.prog.info? 47).map (fun i => (i.zero, i.size, i.bytes)) = some (some (.agg #[.string ⟨#[]⟩, .int .i64 0]), 2, 24) := by kernel_rfl

theorem sepI_neg {c : UInt8} (h : sepB c = false) : sepI c < 0 := by
  unfold sepB at h; unfold sepI
  simp at h
  rw [if_neg h.1, if_neg h.2]; omega
theorem sepI_pos {c : UInt8} (h : sepB c = true) : ¬ sepI c < 0 := by
  unfold sepB at h; unfold sepI
  simp at h
  rcases h with h | h
  · rw [if_pos h]; omega
  · split <;> omega

theorem nW_true {inw : Bool} {c : UInt8} {i st : Nat} (h : (!inw && !sepB c) = true) : nW inw c = true ∧ nS inw c i st = i := by
  cases inw <;> cases hs : sepB c <;> simp_all [nW, nS]
theorem nW_false {inw : Bool} {c : UInt8} {i st : Nat} (h : (!inw && !sepB c) = false) : nW inw c = inw ∧ nS inw c i st = st := by
  cases inw <;> cases hs : sepB c <;> simp_all [nW, nS]

theorem joins_mem {w w2 : World} {b : Nat} {vj v : Value} {js : List Int} {o : Obj} {cur : List UInt8} {ws : List (ByteArray × Int)} (hj : JoinsAt w vj js) (hb : w.heap.size + 1 = b) (h : Mem (w.alloc o) b cur v ws w2) : JoinsAt w2 vj js :=
  hj.below (((Below.refl _ _).alloc (Nat.le_refl _) o).trans (h.below.mono (by omega)))

theorem mem_string {w0 w w1 w2 : World} {b : Nat} {v : Value} {cur : List UInt8} {ws : List (ByteArray × Int)} (h : Mem w0 b cur v ws w) (hb : Lib.IsBuilderF 50 5 b b (Lib.byteCells cur) w2) (h2 : Below b w1 w2) (ho : Lib.OthersKept 5 (some b) w1 w2) (h1 : Below b w w1) (ho1 : Lib.OthersKept 5 (some b) w w1) : Mem w0 b cur v ws w2 :=
  h.others hb (h1.trans h2) (ho1.trans ho)

theorem alloc2_new (w : World) (o1 o2 : Obj) : ((w.alloc o1).alloc o2).heap[w.heap.size + 1]? = some o2 := by
  have := heap_alloc_new (w.alloc o1) o2
  simpa using this

theorem mem_push {w0 w2 w1 : World} {b : Nat} {v v' : Value} {cur : List UInt8} {ws : List (ByteArray × Int)} {o1 o2 : Obj} {x : ByteArray} {l : Int} (h : Mem w0 b cur v ws w2) (hg : ((w2.alloc o1).alloc o2).grownBy w1 v.ownBlock) (hr : w1.ownsRow (b + 1) 47 2 v' (ws.length + 1) (flat ws ++ [.string x, .int .i64 l])) : Mem w0 b cur v' (ws ++ [(x, l)]) w1 :=
  ((h.alloc o1).alloc o2).appended hg (by rw [flat_snoc, List.length_append]; exact hr)

theorem line_cells {w wx : World} {b : Nat} {vj v : Value} {a : ByteArray} {n : Int} {cur : List UInt8} {ws : List (ByteArray × Int)} (hb : w.heap.size + 1 = b) (h : Mem (w.alloc (lineBox a n vj)) b cur v ws wx) : wx.cell? ⟨w.heap.size, 0, none⟩ = some (.string a) ∧ wx.cell? ⟨w.heap.size, 1, none⟩ = some (.int .i64 n) ∧ wx.cell? ⟨w.heap.size, 2, none⟩ = some vj :=
  ⟨(h.below.cell (by simp; omega)).trans (cell_of_row _ _ _ _ _ _ (heap_alloc_new w _)), (h.below.cell (by simp; omega)).trans (cell_of_row _ _ _ _ _ _ (heap_alloc_new w _)), (h.below.cell (by simp; omega)).trans (cell_of_row _ _ _ _ _ _ (heap_alloc_new w _))⟩

theorem own_base {w : World} {b b' n : Nat} {v : Value} {xs : List Value} (h : w.ownsRow b 47 2 v n xs) (hb : b' ≤ b) : w.ownsRow b' 47 2 v n xs := by
  refine ⟨h.1, ?_⟩
  rcases h.2 with hn | ⟨g, cap, cur, rfl, hbg, rest⟩
  · exact .inl hn
  · exact .inr ⟨g, cap, cur, rfl, by omega, rest⟩

theorem split_end {w wx : World} {b : Nat} {vj v : Value} {a : ByteArray} {n u : Int} {cur : List UInt8} {ws : List (ByteArray × Int)} {e : Ending} (hb : w.heap.size + 1 = b) (h : Mem (w.alloc (lineBox a n vj)) b cur v ws wx) (he : e = .returned (.tuple #[v, .int .i64 u])) :
    ∃ v, e = .returned (.tuple #[v, .int .i64 u]) ∧ wx.ownsRow w.heap.size 47 2 v ws.length (flat ws) ∧ Below w.heap.size w wx :=
  ⟨v, he, own_base h.row (by omega), ((Below.refl _ _).alloc (Nat.le_refl _) _).trans (h.below.mono (by omega))⟩

theorem nW_nosep {inw : Bool} {c : UInt8} (h : sepB c = false) : nW inw c = true := by
  simp [nW, h]

set_option maxRecDepth 100000 in
set_option maxHeartbeats 4000000 in
theorem split_any (a : ByteArray) (n : Int) (vj : Value) (js : List Int) (keep : Bool) (w : World) (hs : a.size ≤ 4194304) (hj : JoinsAt w vj js) (hl : js.length ≤ 1048576) (F : Nat) (hF : a.size ≤ F) :
    Calls Try.prog 15 #[.agg #[.string a, .int .i64 n, vj], .int .i64 (if keep then 1 else 0)] w fun e w' => ∃ v, e = .returned (.tuple #[v, .int .i64 (spF (at8 a) a.size keep (fun s => lineF s js n) F 0 false false 0 [] []).2]) ∧
      w'.ownsRow w.heap.size 47 2 v (spF (at8 a) a.size keep (fun s => lineF s js n) F 0 false false 0 [] []).1.length (flat (spF (at8 a) a.size keep (fun s => lineF s js n) F 0 false false 0 [] []).1) ∧ Below w.heap.size w w' := by
  obtain ⟨R, hR⟩ : ∃ R, spF (at8 a) a.size keep (fun s => lineF s js n) F 0 false false 0 [] [] = R := ⟨_, rfl⟩
  rw [hR]
  have HR := hide hR
  clear hR
  obtain ⟨b, hb⟩ : ∃ b, w.heap.size + 1 = b := ⟨_, rfl⟩
  obtain ⟨i0, hi0, hz0, hz1, hz2⟩ := info_parts info47
  obtain ⟨r, hr⟩ : ∃ r : Int, (if keep then (1 : Int) else 0) = r := ⟨_, rfl⟩
  rw [hr]
  have HRR := hide hr
  clear hr
  go_enter Try.func15, Try.ntmps15
  go_wp2_with fail
  go_loopw [4, 7, 8, 9, 11] (fun vw viw viq vst vi wr => RelP a n js keep (w.alloc (lineBox a n vj)) b R vw viw viq vst vi wr) (fun _ _ _ _ vi _ => a.size - (intOf vi).toNat)
  case atStart =>
    refine ⟨0, F, 0, false, false, [], [], rfl, rfl, rfl, rfl, by omega, by omega, by omega, by simp, by simp, HR, ?_, World.ownsRow_nil _ _ _ _, by simp; omega, ?_⟩
    · subst hb
      refine .inl ⟨Nat.le_refl _, .slice none 0 0, ?_, ⟨rfl, .inl ⟨rfl, rfl⟩⟩, by simp [Value.ownBlock]⟩
      have := heap_alloc_new (w.alloc (Obj.cells #[Value.string a, Value.int IntKind.i64 n, vj] 45)) (Obj.cells #[Value.pointer none, Value.slice none 0 0] 50)
      simpa using this
    · subst hb
      exact (Below.refl _ _).alloc (by simp) _
  case round =>
    obtain ⟨i, d, st, inw, inq, cur, ws, rfl, rfl, rfl, rfl, hi, hd, hst, hcu, hws, HU, hm⟩ := hrel
    have HM := hide hm
    clear hm
    by_cases hlt : i < a.size
    · obtain ⟨c, hc⟩ : ∃ c : UInt8, (a[i]'hlt) = c := ⟨_, rfl⟩
      have HC : Hid (at8 a i = c) := hide ((at8_at a i hlt).symm.trans hc)
      go_upto_region 9 with fail
      go_cut [30] from 15 to 84 (fun v wx => v = .bool (!inw && !sepB c) ∧ Mem (w.alloc (lineBox a n vj)) b cur u4 ws wx)
      case first =>
        cases inw with
        | true =>
          go_wp2
          go_meet
          case rel => exact ⟨rfl, unhide HM⟩
        | false =>
          cases hsep : sepB c with
          | true =>
            have hn := sepI_pos hsep
            go_wp2_with (go_at_call 16; refine (sep_any c _).mono ?_; rintro e w' ⟨rfl, rfl⟩)
            go_meet
            case rel => exact ⟨by rw [hsep]; simp; try omega, unhide HM⟩
          | false =>
            have hn := sepI_neg hsep
            go_wp2_with (go_at_call 16; refine (sep_any c _).mono ?_; rintro e w' ⟨rfl, rfl⟩)
            go_meet
            case rel => exact ⟨by rw [hsep]; simp; try omega, unhide HM⟩
      case rest =>
        obtain ⟨tb, htb⟩ : ∃ tb, (!inw && !sepB c) = tb := ⟨_, rfl⟩
        rw [htb] at hcut
        have HT := hide htb
        clear htb
        obtain ⟨rfl, hm1⟩ := hcut
        replace HM := hide hm1
        clear hm1
        go_upto_if 30 with fail
        go_cut [7, 9] from 15 to 84 (fun v7 v9 wx => v7 = .bool (nW inw c) ∧ v9 = .int .i64 ((nS inw c i st : Nat) : Int) ∧ Mem (w.alloc (lineBox a n vj)) b cur u4 ws wx)
        case first =>
          cases tb with
          | true =>
            go_wp2
            go_meet
            case rel => exact ⟨by rw [(nW_true (i := i) (st := st) (unhide HT)).1], by rw [(nW_true (i := i) (st := st) (unhide HT)).2], unhide HM⟩
          | false =>
            go_wp2
            go_meet
            case rel => exact ⟨by rw [(nW_false (i := i) (st := st) (unhide HT)).1], by rw [(nW_false (i := i) (st := st) (unhide HT)).2], unhide HM⟩
        case rest =>
          obtain ⟨rfl, rfl, hm1⟩ := hcut
          replace HM := hide hm1
          clear hm1
          have hSle := nS_le inw c i st hst
          have HNB := hide (nW_nosep (inw := inw) (c := c))
          obtain ⟨d, rfl⟩ : ∃ g, d = g + 1 := ⟨d - 1, by omega⟩
          have hun := unhide HU
          rw [spF, if_pos hlt, unhide HC] at hun
          obtain ⟨J, hJ⟩ : ∃ J, nW inw c = J := ⟨_, rfl⟩
          obtain ⟨S, hS⟩ : ∃ S, nS inw c i st = S := ⟨_, rfl⟩
          rw [hJ, hS] at hun
          rw [hS] at hSle
          rw [hJ] at HNB
          rw [hJ, hS]
          clear hJ hS HU
          by_cases h92 : c.toNat = 92
          · have h92' : ((c.toNat : Int) == 92) = true := by simp; omega
            have h34' : ((c.toNat : Int) == 34) = false := by simp; omega
            have hn : ¬ 0 ≤ sepI c := by have := sepI_neg (c := c) (by simp [sepB]; omega); omega
            have hsb : sepB c = false := by simp [sepB]; omega
            by_cases hi1 : i + 1 < a.size
            · have hi1' : (i : Int) + 1 < a.size := by omega
              obtain ⟨c2, hc2⟩ : ∃ c2 : UInt8, (a[i + 1]'hi1) = c2 := ⟨_, rfl⟩
              have HC2 : Hid (at8 a (i + 1) = c2) := hide ((at8_at a (i + 1) hi1).symm.trans hc2)
              cases keep with
              | true =>
                obtain rfl : (1 : Int) = r := unhide HRR
                cases inq with
                | true =>
                  rw [if_pos ⟨by rw [unhide HC]; exact h92, hi1, .inl rfl⟩, if_pos rfl, unhide HC2] at hun
                  have HU := hide hun
                  clear hun h92
                  go_wp2_with (fail)
                  refine (Try.WriteByte_k b b _ _ _ (unhide HM).bd (by rw [Lib.byteCells_length]; omega) (by have := (unhide HM).size; omega)).mono ?_
                  rintro e w2 ⟨rfl, hb2, hbel2, hoth2⟩
                  rw [byte_snoc] at hb2
                  replace HM := hide ((unhide HM).others hb2 hbel2 hoth2)
                  clear hb2 hbel2 hoth2
                  go_wp2_with (fail)
                  refine (Try.WriteByte_k b b _ _ _ (unhide HM).bd (by rw [Lib.byteCells_length]; simp; omega) (by have := (unhide HM).size; omega)).mono ?_
                  rintro e w2 ⟨rfl, hb2, hbel2, hoth2⟩
                  rw [byte_snoc] at hb2
                  replace HM := hide ((unhide HM).others hb2 hbel2 hoth2)
                  clear hb2 hbel2 hoth2
                  go_wp2
                  exact ⟨⟨i + 2, d, S, J, true, cur ++ [c] ++ [c2], ws, by go_num, rfl, rfl, rfl, by omega, by omega, by omega, by simp; omega, by omega, HU, unhide HM⟩, by simp [intOf]; omega⟩
                | false =>
                  rw [if_neg (fun h => by rcases h.2.2 with h | h <;> cases h), if_neg (by omega), if_neg (by simp), if_neg (by simp [hsb])] at hun
                  have HU := hide hun
                  clear hun h92
                  go_wp2_with (first | (go_at_call 16; refine (sep_any c _).mono ?_; rintro e w' ⟨rfl, rfl⟩) | fail)
                  refine (Try.WriteByte_k b b _ _ _ (unhide HM).bd (by rw [Lib.byteCells_length]; omega) (by have := (unhide HM).size; omega)).mono ?_
                  rintro e w2 ⟨rfl, hb2, hbel2, hoth2⟩
                  rw [byte_snoc] at hb2
                  replace HM := hide ((unhide HM).others hb2 hbel2 hoth2)
                  clear hb2 hbel2 hoth2
                  go_wp2
                  exact ⟨⟨i + 1, d, S, J, false, cur ++ [c], ws, by go_num, rfl, rfl, rfl, by omega, by omega, by omega, by simp; omega, by omega, HU, unhide HM⟩, by simp [intOf]; omega⟩
              | false =>
                obtain rfl : (0 : Int) = r := unhide HRR
                rw [if_pos ⟨by rw [unhide HC]; exact h92, hi1, .inr rfl⟩, if_neg (by simp), unhide HC2] at hun
                cases inq with
                | true =>
                  have HU := hide hun
                  clear hun h92
                  go_wp2_with (fail)
                  refine (Try.WriteByte_k b b _ _ _ (unhide HM).bd (by rw [Lib.byteCells_length]; omega) (by have := (unhide HM).size; omega)).mono ?_
                  rintro e w2 ⟨rfl, hb2, hbel2, hoth2⟩
                  rw [byte_snoc] at hb2
                  replace HM := hide ((unhide HM).others hb2 hbel2 hoth2)
                  clear hb2 hbel2 hoth2
                  go_wp2
                  exact ⟨⟨i + 2, d, S, J, true, cur ++ [c2], ws, by go_num, rfl, rfl, rfl, by omega, by omega, by omega, by simp; omega, by omega, HU, unhide HM⟩, by simp [intOf]; omega⟩
                | false =>
                  have HU := hide hun
                  clear hun h92
                  go_wp2_with (fail)
                  refine (Try.WriteByte_k b b _ _ _ (unhide HM).bd (by rw [Lib.byteCells_length]; omega) (by have := (unhide HM).size; omega)).mono ?_
                  rintro e w2 ⟨rfl, hb2, hbel2, hoth2⟩
                  rw [byte_snoc] at hb2
                  replace HM := hide ((unhide HM).others hb2 hbel2 hoth2)
                  clear hb2 hbel2 hoth2
                  go_wp2
                  exact ⟨⟨i + 2, d, S, J, false, cur ++ [c2], ws, by go_num, rfl, rfl, rfl, by omega, by omega, by omega, by simp; omega, by omega, HU, unhide HM⟩, by simp [intOf]; omega⟩
            · have hi1' : ¬ (i : Int) + 1 < a.size := by omega
              rw [if_neg (fun h => hi1 h.2.1), if_neg (by omega)] at hun
              cases inq with
              | true =>
                rw [if_pos rfl] at hun
                have HU := hide hun
                clear hun h92
                go_wp2_with (fail)
                refine (Try.WriteByte_k b b _ _ _ (unhide HM).bd (by rw [Lib.byteCells_length]; omega) (by have := (unhide HM).size; omega)).mono ?_
                rintro e w2 ⟨rfl, hb2, hbel2, hoth2⟩
                rw [byte_snoc] at hb2
                replace HM := hide ((unhide HM).others hb2 hbel2 hoth2)
                clear hb2 hbel2 hoth2
                go_wp2
                exact ⟨⟨i + 1, d, S, J, true, cur ++ [c], ws, by go_num, rfl, rfl, rfl, by omega, by omega, by omega, by simp; omega, by omega, HU, unhide HM⟩, by simp [intOf]; omega⟩
              | false =>
                rw [if_neg (by simp), if_neg (by simp [hsb])] at hun
                have HU := hide hun
                clear hun h92
                go_wp2_with (first | (go_at_call 16; refine (sep_any c _).mono ?_; rintro e w' ⟨rfl, rfl⟩) | fail)
                refine (Try.WriteByte_k b b _ _ _ (unhide HM).bd (by rw [Lib.byteCells_length]; omega) (by have := (unhide HM).size; omega)).mono ?_
                rintro e w2 ⟨rfl, hb2, hbel2, hoth2⟩
                rw [byte_snoc] at hb2
                replace HM := hide ((unhide HM).others hb2 hbel2 hoth2)
                clear hb2 hbel2 hoth2
                go_wp2
                exact ⟨⟨i + 1, d, S, J, false, cur ++ [c], ws, by go_num, rfl, rfl, rfl, by omega, by omega, by omega, by simp; omega, by omega, HU, unhide HM⟩, by simp [intOf]; omega⟩
          · have h92' : ((c.toNat : Int) == 92) = false := by simp; omega
            rw [if_neg (fun h => h92 (by rw [← unhide HC]; exact h.1))] at hun
            by_cases h34 : c.toNat = 34
            · have h34' : ((c.toNat : Int) == 34) = true := by simp; omega
              rw [if_pos h34] at hun
              have HU := hide hun
              clear hun
              go_wp2
              exact ⟨⟨i + 1, d, S, J, !inq, cur, ws, by go_num, rfl, by simp, rfl, by omega, by omega, by omega, by omega, by omega, HU, unhide HM⟩, by simp [intOf]; omega⟩
            · have h34' : ((c.toNat : Int) == 34) = false := by simp; omega
              rw [if_neg h34] at hun
              cases inq with
              | true =>
                rw [if_pos rfl] at hun
                have HU := hide hun
                clear hun
                go_wp2_with (fail)
                refine (Try.WriteByte_k b b _ _ _ (unhide HM).bd (by rw [Lib.byteCells_length]; omega) (by have := (unhide HM).size; omega)).mono ?_
                rintro e w2 ⟨rfl, hb2, hbel2, hoth2⟩
                rw [byte_snoc] at hb2
                replace HM := hide ((unhide HM).others hb2 hbel2 hoth2)
                clear hb2 hbel2 hoth2
                go_wp2
                exact ⟨⟨i + 1, d, S, J, true, cur ++ [c], ws, by go_num, rfl, rfl, rfl, by omega, by omega, by omega, by simp; omega, by omega, HU, unhide HM⟩, by simp [intOf]; omega⟩
              | false =>
                rw [if_neg (by simp)] at hun
                cases hsb : sepB c with
                | false =>
                  have hn : ¬ 0 ≤ sepI c := by have := sepI_neg hsb; omega
                  rw [if_neg (by simp [hsb])] at hun
                  have HU := hide hun
                  clear hun
                  go_wp2_with (first | (go_at_call 16; refine (sep_any c _).mono ?_; rintro e w' ⟨rfl, rfl⟩) | fail)
                  refine (Try.WriteByte_k b b _ _ _ (unhide HM).bd (by rw [Lib.byteCells_length]; omega) (by have := (unhide HM).size; omega)).mono ?_
                  rintro e w2 ⟨rfl, hb2, hbel2, hoth2⟩
                  rw [byte_snoc] at hb2
                  replace HM := hide ((unhide HM).others hb2 hbel2 hoth2)
                  clear hb2 hbel2 hoth2
                  go_wp2
                  exact ⟨⟨i + 1, d, S, J, false, cur ++ [c], ws, by go_num, rfl, rfl, rfl, by omega, by omega, by omega, by simp; omega, by omega, HU, unhide HM⟩, by simp [intOf]; omega⟩
                | true =>
                  have hn : 0 ≤ sepI c := by have := sepI_pos hsb; omega
                  rw [if_pos hsb] at hun
                  cases J with
                  | false =>
                    rw [if_neg (by simp)] at hun
                    have HU := hide hun
                    clear hun
                    go_wp2_with (first | (go_at_call 16; refine (sep_any c _).mono ?_; rintro e w' ⟨rfl, rfl⟩) | fail)
                    exact ⟨⟨i + 1, d, S, false, false, cur, ws, by go_num, rfl, rfl, rfl, by omega, by omega, by omega, by omega, by omega, HU, unhide HM⟩, by simp [intOf]; omega⟩
                  | true =>
                    rw [if_pos rfl] at hun
                    have HU := hide hun
                    clear hun
                    have hm := unhide HM
                    clear HM
                    have hsz := hm.size
                    have hbel0 : Below w.heap.size w wc := ((Below.refl _ _).alloc (Nat.le_refl _) _).trans (hm.below.mono (by omega))
                    have hjw : JoinsAt wc vj js := hj.below hbel0
                    have l0 : wc.cell? ⟨w.heap.size, 0, none⟩ = some (.string a) := (hm.below.cell (by simp; omega)).trans (cell_of_row _ _ _ _ _ _ (heap_alloc_new w _))
                    have l1 : wc.cell? ⟨w.heap.size, 1, none⟩ = some (.int .i64 n) := (hm.below.cell (by simp; omega)).trans (cell_of_row _ _ _ _ _ _ (heap_alloc_new w _))
                    have l2 : wc.cell? ⟨w.heap.size, 2, none⟩ = some vj := (hm.below.cell (by simp; omega)).trans (cell_of_row _ _ _ _ _ _ (heap_alloc_new w _))
                    have HJW := hide hjw
                    have HMM := hide hm
                    clear hjw hm hbel0
                    go_upto_region 23 with (go_at_call 16; refine (sep_any c _).mono ?_; rintro e w' ⟨rfl, hw⟩; replace hw := hw.symm; subst hw)
                    go_cut [4] from 15 to 84 (fun v4 wx => Mem (w.alloc (lineBox a n vj)) b cur v4 (ws ++ [(⟨cur.toArray⟩, lineF (S : Int) js n)]) wx)
                    case first =>
                      go_region_held3 (fun w' => w'.cell? ⟨w.heap.size, 0, none⟩ = some (.string a) ∧ w'.cell? ⟨w.heap.size, 1, none⟩ = some (.int .i64 n) ∧ w'.cell? ⟨w.heap.size, 2, none⟩ = some vj)
                        (first
                          | go_keep
                          | (go_split_ands; refine ⟨?_, ?_, ?_⟩ <;> (rw [hbel2.cell (by simp; omega)]; go_keep))
                          | (go_split_ands; refine ⟨?_, ?_, ?_⟩ <;> (rw [hgrow.cell_far _ (by simp; omega) (fun e => by have := ((unhide HMM).row.lt _ e.symm).1; simp at this; omega)]; go_keep)))
                        (first
                          | (go_at_call 18; refine (Try.String_any_k b b cur _ (by first | exact (unhide HMM).bd | exact (unhide HMM).bd.alloc _) (by simp; omega)).mono ?_; rintro e w2 ⟨rfl, hb2, hbel2, hoth2⟩; have hmS := hide (mem_string (unhide HMM) hb2 hbel2 hoth2 (by first | exact Below.refl _ _ | exact (Below.refl _ _).drew | exact (Below.refl _ _).alloc (by omega) _ | exact ((Below.refl _ _).alloc (by omega) _).drew | exact ((Below.refl _ _).drew.alloc (by omega) _)) (by first | exact Lib.OthersKept.refl _ _ _ | exact (Lib.OthersKept.refl _ _ _).alloc _)); have hsz2 := (unhide hmS).size)
                          | (go_at_call 19; refine (lineAt_any a n (S : Int) vj js _ (by first | exact (unhide HJW) | exact joins_mem hj hb (unhide hmS)) hl).mono ?_; rintro e w3 ⟨rfl, rfl⟩)
                          | ((refine step_append_lies _ (by rfl) _ _ _ (by rfl) (b + 1) 47 i0 _ 2 24 Try.underlying41 hi0 hz0 hz1 hz2 rfl (by omega) u4 ws.length (flat ws) (by rfl) (((unhide hmS).row.alloc _).alloc _) ⟨w2.heap.size + 1, 0, none⟩ 1 1 [.string ⟨cur.toArray⟩, .int .i64 (lineF (S : Int) js n)] (by rfl) (by rfl) (World.news_of_block (cs := #[.string ⟨cur.toArray⟩, .int .i64 (lineF (S : Int) js n)]) (t := 47) (fr := (0, 0)) (alloc2_new _ _ _)) (by simp [Value.oneCell']) (by omega) (by have : maxLen = 9223372036854775807 := rfl; omega) (by omega) (by simp; omega) (w2.heap.size + 2) (by simp) ?_; intro g cap w1 hown1 hgrow hat hlt2)))
                      go_wp2_with fail
                      go_meet
                      case rel => exact mem_push (unhide hmS) hgrow hown1
                    case rest =>
                      have HM := hide hcut
                      clear hcut HMM HJW l0 l1 l2 hsz
                      go_wp2_with fail
                      refine (reset_any b _ _ (unhide HM).bd).mono ?_
                      rintro e w5 ⟨rfl, hb5, hbel5, ho5, hs5⟩
                      replace HM := hide ((unhide HM).others (cur' := []) hb5 hbel5 ho5)
                      clear hb5 hbel5 ho5 hs5
                      go_wp2
                      exact ⟨⟨i + 1, d, S, false, false, [], _, by go_num, rfl, rfl, rfl, by omega, by omega, by omega, by simp, by simp; omega, HU, unhide HM⟩, by simp [intOf]; omega⟩
    · have hun := unhide HU
      rw [spF_past _ _ _ _ _ _ _ _ _ _ _ (by omega)] at hun
      clear HU HR
      subst hun
      have hj0 := hj
      cases inq with
      | false =>
        obtain ⟨l0, l1, l2⟩ := line_cells hb (unhide HM)
        have hsz := (unhide HM).size
        have HJW := hide (joins_mem hj0 hb (unhide HM))
        have HMM := HM
        clear HM hj0
        cases inw with
        | false =>
          go_wp2_with fail
          refine bodyPost_ret (v := .tuple #[u4, .int .i64 0]) (by simp [results, Try.results15, go_sem]) rfl ?_
          exact split_end hb (unhide HMM) rfl
        | true =>
          go_wp2_with fail
          go_region_held3 (fun w' => w'.cell? ⟨w.heap.size, 0, none⟩ = some (.string a) ∧ w'.cell? ⟨w.heap.size, 1, none⟩ = some (.int .i64 n) ∧ w'.cell? ⟨w.heap.size, 2, none⟩ = some vj)
              (first
                | go_keep
                | (go_split_ands; refine ⟨?_, ?_, ?_⟩ <;> (rw [hbel2.cell (by simp; omega)]; go_keep))
                | (go_split_ands; refine ⟨?_, ?_, ?_⟩ <;> (rw [hgrow.cell_far _ (by simp; omega) (fun e => by have := ((unhide HMM).row.lt _ e.symm).1; simp at this; omega)]; go_keep)))
              (first
                | (go_at_call 18; refine (Try.String_any_k b b cur _ (by first | exact (unhide HMM).bd | exact (unhide HMM).bd.alloc _) (by simp; omega)).mono ?_; rintro e w2 ⟨rfl, hb2, hbel2, hoth2⟩; have hmS := hide (mem_string (unhide HMM) hb2 hbel2 hoth2 (by first | exact Below.refl _ _ | exact (Below.refl _ _).drew | exact (Below.refl _ _).alloc (by omega) _ | exact ((Below.refl _ _).alloc (by omega) _).drew | exact ((Below.refl _ _).drew.alloc (by omega) _)) (by first | exact Lib.OthersKept.refl _ _ _ | exact (Lib.OthersKept.refl _ _ _).alloc _)); have hsz2 := (unhide hmS).size)
                | (go_at_call 19; refine (lineAt_any a n (st : Int) vj js _ (by first | exact (unhide HJW) | exact joins_mem hj hb (unhide hmS)) hl).mono ?_; rintro e w3 ⟨rfl, rfl⟩)
                | ((refine step_append_lies _ (by rfl) _ _ _ (by rfl) (b + 1) 47 i0 _ 2 24 Try.underlying41 hi0 hz0 hz1 hz2 rfl (by omega) u4 ws.length (flat ws) (by rfl) (((unhide hmS).row.alloc _).alloc _) ⟨w2.heap.size + 1, 0, none⟩ 1 1 [.string ⟨cur.toArray⟩, .int .i64 (lineF (st : Int) js n)] (by rfl) (by rfl) (World.news_of_block (cs := #[.string ⟨cur.toArray⟩, .int .i64 (lineF (st : Int) js n)]) (t := 47) (fr := (0, 0)) (alloc2_new _ _ _)) (by simp [Value.oneCell']) (by omega) (by have : maxLen = 9223372036854775807 := rfl; omega) (by omega) (by simp; omega) (w2.heap.size + 2) (by simp) ?_; intro g cap w1 hown1 hgrow hat hlt2)))
          go_wp2_with fail
          refine bodyPost_ret (v := .tuple #[.slice (some ⟨g, 0, none⟩) (ws.length + 1) cap, .int .i64 0]) (by simp [results, Try.results15, go_sem]) rfl ?_
          exact split_end hb (mem_push (unhide hmS) hgrow hown1) rfl
      | true =>
        obtain ⟨l0, l1, l2⟩ := line_cells hb (unhide HM)
        have hsz := (unhide HM).size
        have HJW := hide (joins_mem hj0 hb (unhide HM))
        go_upto_if 89 with (go_at_call 19; refine (lineAt_any a n (st : Int) vj js _ (unhide HJW) hl).mono ?_; rintro e w3 ⟨rfl, rfl⟩)
        have HMM : Hid (Mem (w.alloc (lineBox a n vj)) b cur u4 ws (wr.alloc (lineBox a n vj))) := hide ((unhide HM).alloc _)
        clear l0 l1 l2 HJW HM
        obtain ⟨l0, l1, l2⟩ := line_cells hb (unhide HMM)
        have HJW := hide (joins_mem hj0 hb (unhide HMM))
        have hsz := (unhide HMM).size
        obtain ⟨wq, hwq⟩ : ∃ wq, wr.alloc (lineBox a n vj) = wq := ⟨_, rfl⟩
        rw [hwq] at HMM l0 l1 l2 HJW hsz
        rw [hwq]
        clear hwq hj0
        cases inw with
        | false =>
          go_wp2_with fail
          refine bodyPost_ret (v := .tuple #[u4, .int .i64 (lineF (st : Int) js n)]) (by simp [results, Try.results15, go_sem]) rfl ?_
          exact split_end hb (unhide HMM) rfl
        | true =>
          go_wp2_with fail
          go_region_held3 (fun w' => w'.cell? ⟨w.heap.size, 0, none⟩ = some (.string a) ∧ w'.cell? ⟨w.heap.size, 1, none⟩ = some (.int .i64 n) ∧ w'.cell? ⟨w.heap.size, 2, none⟩ = some vj)
              (first
                | go_keep
                | (go_split_ands; refine ⟨?_, ?_, ?_⟩ <;> (rw [hbel2.cell (by simp; omega)]; go_keep))
                | (go_split_ands; refine ⟨?_, ?_, ?_⟩ <;> (rw [hgrow.cell_far _ (by simp; omega) (fun e => by have := ((unhide HMM).row.lt _ e.symm).1; simp at this; omega)]; go_keep)))
              (first
                | (go_at_call 18; refine (Try.String_any_k b b cur _ (by first | exact (unhide HMM).bd | exact (unhide HMM).bd.alloc _) (by simp; omega)).mono ?_; rintro e w2 ⟨rfl, hb2, hbel2, hoth2⟩; have hmS := hide (mem_string (unhide HMM) hb2 hbel2 hoth2 (by first | exact Below.refl _ _ | exact (Below.refl _ _).drew | exact (Below.refl _ _).alloc (by omega) _ | exact ((Below.refl _ _).alloc (by omega) _).drew | exact ((Below.refl _ _).drew.alloc (by omega) _)) (by first | exact Lib.OthersKept.refl _ _ _ | exact (Lib.OthersKept.refl _ _ _).alloc _)); have hsz2 := (unhide hmS).size)
                | (go_at_call 19; refine (lineAt_any a n (st : Int) vj js _ (by first | exact (unhide HJW) | exact joins_mem hj hb (unhide hmS)) hl).mono ?_; rintro e w3 ⟨rfl, rfl⟩)
                | ((refine step_append_lies _ (by rfl) _ _ _ (by rfl) (b + 1) 47 i0 _ 2 24 Try.underlying41 hi0 hz0 hz1 hz2 rfl (by omega) u4 ws.length (flat ws) (by rfl) (((unhide hmS).row.alloc _).alloc _) ⟨w2.heap.size + 1, 0, none⟩ 1 1 [.string ⟨cur.toArray⟩, .int .i64 (lineF (st : Int) js n)] (by rfl) (by rfl) (World.news_of_block (cs := #[.string ⟨cur.toArray⟩, .int .i64 (lineF (st : Int) js n)]) (t := 47) (fr := (0, 0)) (alloc2_new _ _ _)) (by simp [Value.oneCell']) (by omega) (by have : maxLen = 9223372036854775807 := rfl; omega) (by omega) (by simp; omega) (w2.heap.size + 2) (by simp) ?_; intro g cap w1 hown1 hgrow hat hlt2)))
          go_wp2_with fail
          refine bodyPost_ret (v := .tuple #[.slice (some ⟨g, 0, none⟩) (ws.length + 1) cap, .int .i64 (lineF (st : Int) js n)]) (by simp [results, Try.results15, go_sem]) rfl ?_
          exact split_end hb (mem_push (unhide hmS) hgrow hown1) rfl
end Go.Proofs.Qxb6001550a
