/- A proof of 'Rows.FnSplitWordsQuotedRoundTripSaid'. The frame is the kit's template at this function; the walk is ours. -/
import Derived.Test.Qxb6001550aRows
import Derived.Test.Qxb6001550aZZ
import Derived.Test.Qxb6001550aQw
import Derived.WalkKit
import Derived.ProofKit
import Derived.OpenShut
import Derived.ShutString
import Derived.ChangeOld
import Derived.Below
import Derived.SliceStrings
namespace Go.Proofs.Qxb6001550a.fnSplitWordsQuotedRoundTrip
open Go.ChangeShapes Go.WideShapes Go.ChangeAt Go.RowKit
open Go.ChangeMaps (open_string shut_string)
set_option linter.unusedVariables false

theorem own : ownKnob Try.prog.godebug = none := by kernel_rfl
theorem laidOut : laidOutB Try.prog = true := by kernel_rfl

/-- what the walk is told of the slice of strings that came in -/
def IsRowS (w : World) (a : Option Addr) (len cap : Nat) (ss : List ByteArray) : Prop :=
  (a = none ∧ len = 0 ∧ cap = 0 ∧ ss = []) ∨
  ∃ x, a = some x ∧ len ≤ cap ∧ cap ≤ maxLen ∧ len ≤ ss.length ∧ (∀ i, i < ss.length → w.cell? (x.add i) = some (.string (ss.getD i ByteArray.empty))) ∧ ∀ s ∈ ss, s.size ≤ maxLen

theorem IsRowS.at {w : World} {a : Option Addr} {len cap i : Nat} {ss : List ByteArray} (h : IsRowS w a len cap ss) (hi : i < len) : ∃ xb xo xs s, a = some ⟨xb, xo, xs⟩ ∧ w.cell? (Addr.add ⟨xb, xo, xs⟩ i) = some (.string s) ∧ s.size ≤ maxLen ∧ ss.getD i ByteArray.empty = s ∧ i < ss.length := by
  rcases h with ⟨_, rfl, _⟩ | ⟨⟨xb, xo, xs⟩, rfl, _, _, hl, hc, hm⟩
  · omega
  · refine ⟨xb, xo, xs, _, rfl, hc i (by omega), hm _ ?_, rfl, by omega⟩
    have h' : i < ss.length := by omega
    rw [List.getD_eq_getElem?_getD, List.getElem?_eq_getElem h']
    exact List.getElem_mem h'

/-- some Bool is returned -/
def SomeB (e : Ending) : Prop := ∃ b, e = .returned (.bool b)

theorem zz8 (a : Option Addr) (len cap : Nat) (ss : List ByteArray) (n : Int) (w : World) (h : IsRowS w a len cap ss) (hl : len ≤ maxLen) : Calls Try.prog 8 #[.slice a len cap, .int .i64 n] w fun e w' => SomeB e ∧ w' = w := by
  have e : maxLen = 9223372036854775807 := rfl
  rw [e] at hl
  have HRW := hide h
  clear h
  by_cases h20 : len ≤ 1048576
  · go_enter Try.func8, Try.ntmps8
    go_wp2
    go_loop [5, 6] (fun vz vi => ∃ (i z : Nat), vi = .int .i64 (i : Int) ∧ i ≤ len ∧ vz = .int .i64 (z : Int) ∧ z ≤ 1048576) (fun _ vi => len - (intOf vi).toNat)
    case atStart => exact ⟨0, len, rfl, by omega, rfl, by omega⟩
    case round =>
      obtain ⟨i, z, rfl, hi, rfl, hz⟩ := hrel
      by_cases hlt : i < len
      · obtain ⟨xb, xo, xs, s, rfl, hc, hsm, hsg, hsl⟩ := (unhide HRW).at hlt
        rw [e] at hsm
        clear hsg
        go_wp2
        all_goals first
          | (go_ret; exact ⟨⟨_, rfl⟩, rfl⟩)
          | exact ⟨⟨i + 1, z + s.size, by go_num, by omega, by go_num, by omega⟩, by simp [intOf]; omega⟩
      · go_wp2
        go_ret
        exact ⟨⟨_, rfl⟩, rfl⟩
  · go_enter Try.func8, Try.ntmps8
    go_wp2
    go_ret
    exact ⟨⟨_, rfl⟩, rfl⟩

theorem wt_sum (l : List ByteArray) : wt (l.map (·.data.toList)) = 16 * l.length + (l.map (·.size)).sum := by
  induction l with
  | nil => rfl
  | cons x xs ih =>
    simp only [List.map_cons, wt, ih, List.length_cons, List.sum_cons]
    have : x.data.toList.length = x.size := by simp
    omega

theorem sum_next (ss : List ByteArray) (i : Nat) (h : i < ss.length) : ((ss.take (i + 1)).map (·.size)).sum = ((ss.take i).map (·.size)).sum + (ss.getD i ByteArray.empty).size := by
  rw [List.take_add_one, List.getElem?_eq_getElem h, Option.toList_some, List.map_append, List.sum_append, List.getD_eq_getElem?_getD, List.getElem?_eq_getElem h]
  simp

def CopyS (w : World) (g len : Nat) (ss : List ByteArray) (vk : Value) (wr : World) : Prop :=
  ∃ k : Nat, vk = .int .i64 (k : Int) ∧ k ≤ len ∧ (∃ cl : List Value, RowAt wr g 9 cl ∧ cl.length = len ∧ ∀ j, j < k → cl[j]? = some (.string (ss.getD j ByteArray.empty))) ∧ Below w.heap.size w wr

theorem _root_.Go.Proofs.Qxb6001550a.StrsAt.below {w w' : World} {v : Value} {ss : List ByteArray} (h : StrsAt w v ss) (hb : Below w.heap.size w w') : StrsAt w' v ss := by
  rcases h with h | ⟨g, cap, hv, hg, hc⟩
  · exact .inl h
  · exact .inr ⟨g, cap, hv, by have := hb.size; omega, fun k hk => (hb.cell (p := ⟨g, k, none⟩) hg).trans (hc k hk)⟩

theorem _root_.Go.Proofs.Qxb6001550a.Out.base {w : World} {B C gt gl : Nat} {ws : List (ByteArray × Int)} (h : Out w B gt gl ws) (hc : C ≤ B) : Out w C gt gl ws :=
  ⟨by have := h.bt; omega, by have := h.bl; omega, h.lt, h.ll, h.ct, h.cl⟩
theorem _root_.Go.Proofs.Qxb6001550a.Out.drewN {w : World} {B gt gl : Nat} {ws : List (ByteArray × Int)} (h : Out w B gt gl ws) (n : Nat) : Out (w.drewN n) B gt gl ws := ⟨h.bt, h.bl, h.lt, h.ll, h.ct, h.cl⟩
theorem below_drew {B : Nat} {w w' : World} (h : Below B w w') (n : Nat) : Below B w (w'.drewN n) := ⟨h.os, h.tape, h.output, h.size, h.block⟩

def CmpR (w : World) (gt gl g0 : Nat) (S : List ByteArray) (n : Int) (vk : Value) (wr : World) : Prop :=
  ∃ k : Nat, vk = .int .i64 (k : Int) ∧ k ≤ S.length ∧ Out wr w.heap.size gt gl (S.map fun s => (s, n)) ∧ (∀ j (h : j < S.length), wr.cell? ⟨g0, j, none⟩ = some (.string (S[j]'h))) ∧ Below w.heap.size w wr

theorem back (S : List ByteArray) (n : Int) : ((S.map (·.data.toList)).map fun x => ((⟨x.toArray⟩ : ByteArray), n)) = S.map fun s => (s, n) := by
  simp

set_option maxRecDepth 100000 in
set_option maxHeartbeats 2000000 in
theorem walk (a0 : Option Addr) (len0 cap0 : Nat) (ss : List ByteArray) (a1 : Int) (w : World) (hr : IsRowS w a0 len0 cap0 ss) :
    Calls Try.prog 4 #[.slice a0 len0 cap0, .int .i64 a1] w fun e w' => e = .returned (.bool true) ∧ Below w.heap.size w w' := by
  have hml : maxLen = 9223372036854775807 := rfl
  have hl0 : len0 ≤ maxLen := by
    rcases hr with ⟨_, rfl, _⟩ | ⟨x, _, h1, h2, _⟩
    · omega
    · omega
  have hls : len0 ≤ ss.length := by
    rcases hr with ⟨_, rfl, _⟩ | ⟨x, _, h1, h2, h3, _⟩
    · omega
    · omega
  obtain ⟨i9, hi9, hz9, hs9, hb9⟩ := info_parts info9
  have HRW := hide hr
  clear hr
  have hl0' : len0 ≤ 9223372036854775807 := hl0
  have hnq : ∀ W, (binOp .neq 25 (.slice a0 len0 cap0) (.slice none 0 0)).run Try.prog W = .ok (.bool a0.isSome) W := fun W => by cases a0 <;> rfl
  go_enter Try.func4, Try.ntmps4
  go_wp2_with fail
  refine (zz8 a0 len0 cap0 ss a1 _ (unhide HRW) hl0).mono ?_
  rintro e w' ⟨⟨b, rfl⟩, hw⟩
  replace hw := hw.symm
  subst hw
  clear hl0
  cases b with
  | false =>
    go_wp2
    go_ret
    exact ⟨rfl, Below.refl _ _⟩
  | true =>
    by_cases s1 : len0 ≤ 65536
    · go_wp2_with fail
      go_loop [5, 6] (fun vt vi => ∃ (i t : Nat), vi = .int .i64 (i : Int) ∧ i ≤ len0 ∧ vt = .int .i64 (t : Int) ∧ t ≤ 1048576 ∧ Hid (t = 16 * len0 + ((ss.take i).map (·.size)).sum)) (fun _ vi => len0 - (intOf vi).toNat)
      case atStart => exact ⟨0, 16 * len0, rfl, by omega, by go_num, by omega, hide (by simp)⟩
      case round =>
        obtain ⟨i, t, rfl, hi, rfl, ht, HT⟩ := hrel
        by_cases hlt : i < len0
        · obtain ⟨xb, xo, xs, s, rfl, hc, hsm, hsg, hsl⟩ := (unhide HRW).at hlt
          have HN := hide (sum_next ss i hsl)
          rw [hsg] at HN
          rw [hml] at hsm
          clear hsg
          by_cases hsz : s.size ≤ 1048576
          · by_cases hts : t + s.size ≤ 1048576
            · go_wp2
              exact ⟨⟨i + 1, t + s.size, by go_num, by omega, by go_num, by omega, hide (by rw [unhide HN, unhide HT]; omega)⟩, by simp [intOf]; omega⟩
            · go_wp2
              go_ret
              exact ⟨rfl, Below.refl _ _⟩
          · go_wp2
            go_ret
            exact ⟨rfl, Below.refl _ _⟩
        · obtain rfl : i = len0 := by omega
          obtain ⟨S, hS⟩ : ∃ S, ss.take i = S := ⟨_, rfl⟩
          have hSl : S.length = i := by rw [← hS, List.length_take]; omega
          have hSw : wt (S.map (·.data.toList)) ≤ 1048576 := by
            rw [wt_sum, hSl, ← hS, ← unhide HT]
            exact ht
          have HSG : Hid (∀ j (h : j < S.length), ss.getD j ByteArray.empty = S[j]'h) := hide (fun j h => by
            subst hS
            have h1 : j < ss.length := by rw [List.length_take] at h; omega
            rw [List.getD_eq_getElem?_getD, List.getElem?_eq_getElem h1, List.getElem_take]
            rfl)
          clear HT ht hS
          go_upto_if 46 with fail
          go_cut [0] (fun v wx => StrsAt wx v S ∧ Below w.heap.size w wx)
          case first =>
            rcases unhide HRW with ⟨rfl, rfl, rfl, rfl⟩ | ⟨x, rfl, hle, hmx, hzl, hcell, _⟩
            · go_wp2
              go_meet
              case rel => exact ⟨.inl ⟨rfl, List.length_eq_zero_iff.1 hSl⟩, Below.refl _ _⟩
            · obtain ⟨xb, xo, xs⟩ := x
              go_wp2_with (at_make; refine wpList_make_full _ rfl _ _ 25 rfl w.heap.size 9 i9 (.string ⟨#[]⟩) 1 Try.underlying25 hi9 hz9 hs9 .i64 .i64 _ _ i rfl rfl rfl rfl (by rw [hb9]; omega) (by unfold maxLen; omega) (Nat.le_refl _) ?_; intro w2 hown2 hgrow2)
              have hbel0 : Below w.heap.size w w2 := (Below.refl _ _).grown hgrow2 (Nat.le_refl _) (by intro k hk; cases hk)
              obtain ⟨hr0, hr1⟩ := row_of_own hown2
              have HR0 := hide hr0
              clear hown2 hgrow2 hr0
              go_loopw [8] (fun vk wr => CopyS w w.heap.size i ss vk wr) (fun vk _ => i - (intOf vk).toNat)
              case atStart => exact ⟨0, rfl, by omega, ⟨_, unhide HR0, hr1, fun j hj => by omega⟩, hbel0⟩
              case round =>
                clear HR0 hbel0 hr1
                obtain ⟨k, rfl, hk, ⟨cl, hrow, hcl, hval⟩, hbel⟩ := hrel
                by_cases hlk : k < i
                · have hck := hcell k (by omega)
                  have hblk : (Addr.add ⟨xb, xo, xs⟩ k).block < w.heap.size := World.block_lt_of_cell? w _ hck
                  have hck' := (hbel.cell hblk).trans hck
                  obtain ⟨y, hy⟩ : ∃ y, ss.getD k ByteArray.empty = y := ⟨_, rfl⟩
                  rw [hy] at hck'
                  obtain ⟨l0, hl0⟩ : ∃ l0, wr.cell? ⟨w.heap.size, k, none⟩ = some l0 := ⟨_, (hrow.cell k).trans (List.getElem?_eq_getElem (by omega))⟩
                  have fl := hrow.frozen k
                  have HRO := hide hrow
                  have HV := hide hval
                  clear hrow hval hck hcell
                  go_wp2
                  refine ⟨⟨k + 1, by go_num, by omega, ⟨cl.set k (.string y), (unhide HRO).set k _, by simpa using hcl, fun j hj => ?_⟩, hbel.setCell (p := ⟨w.heap.size, k, none⟩) (Nat.le_refl _) _⟩, by simp [intOf]; omega⟩
                  by_cases e : k = j
                  · subst e
                    rw [List.getElem?_set_self (by omega), hy]
                  · rw [List.getElem?_set_ne e]
                    exact unhide HV j (by omega)
                · obtain rfl : k = i := by omega
                  go_wp2
                  go_meet
                  case rel => exact ⟨.inr ⟨_, _, by rw [hSl], hrow.lt, fun j hj => by
                    rw [hrow.cell j, hval j (by omega), unhide HSG j hj]⟩, hbel⟩
          case rest =>
            obtain ⟨hsa, hbel⟩ := hcut
            subst hSl
            have HB := hide hbel
            clear hbel HRW hnq HSG
            rcases hsa with ⟨rfl, hS0⟩ | ⟨g0, cap1, rfl, hg0, hc0⟩
            · subst hS0
              have HSA : StrsAt wc (.slice none 0 0) [] := .inl ⟨rfl, rfl⟩
              go_wp2_with fail
              refine (quote_any _ [] _ HSA hSw).mono ?_
              rintro e w3 ⟨rfl, hb3⟩
              obtain ⟨T, hT⟩ : ∃ T : ByteArray, (⟨(qs true (([] : List ByteArray).map (·.data.toList))).toArray⟩ : ByteArray) = T := ⟨_, rfl⟩
              rw [hT]
              have hTd : T.data.toList = qs true (([] : List ByteArray).map (·.data.toList)) := by rw [← hT]
              have hTs : T.size ≤ 2097152 := by
                have h1 := qs_length true (([] : List ByteArray).map (·.data.toList))
                rw [← hTd] at h1
                have h2 : T.data.toList.length = T.size := by simp
                omega
              have HW : Hid (spF (at8 T) T.size false (fun s => lineF s [] a1) T.size 0 false false 0 [] [] = (([] : List ByteArray).map (fun s => (s, a1)), 0)) := hide ((spF_all T a1 _ T.size (Nat.le_refl _) hTd).trans (by rw [back]))
              have HB3 := hide ((unhide HB).trans (hb3.mono (unhide HB).size))
              clear hT hTd
              clear hb3
              go_wp2_with fail
              refine (zzsplit_any T a1 (.slice none 0 0) [] false _ (by omega) (.inl ⟨rfl, rfl⟩) (by simp) T.size (Nat.le_refl _) _ _ HW (by simp)).mono ?_
              rintro e w4 ⟨gt, gl, rfl, ho, hb4⟩
              have HB4 := hide ((unhide HB3).trans (hb4.mono (unhide HB3).size))
              simp only [List.map_nil, List.length_nil]
              clear ho hb4 HB3
              go_wp2_with fail
              go_loopw [13] (fun vk wr => vk = .int .i64 0 ∧ wr = w4) (fun _ _ => 0)
              case atStart => exact ⟨rfl, rfl⟩
              case round =>
                obtain ⟨rfl, rfl⟩ := hrel
                go_wp2
                go_ret
                exact ⟨rfl, unhide HB4⟩
            · have HSA : StrsAt wc (.slice (some ⟨g0, 0, none⟩) S.length cap1) S := .inr ⟨g0, cap1, rfl, hg0, hc0⟩
              go_wp2_with fail
              refine (quote_any _ S _ HSA hSw).mono ?_
              rintro e w3 ⟨rfl, hb3⟩
              obtain ⟨T, hT⟩ : ∃ T : ByteArray, (⟨(qs true (S.map (·.data.toList))).toArray⟩ : ByteArray) = T := ⟨_, rfl⟩
              rw [hT]
              have hTd : T.data.toList = qs true (S.map (·.data.toList)) := by rw [← hT]
              have hTs : T.size ≤ 2097152 := by
                have h1 := qs_length true (S.map (·.data.toList))
                rw [← hTd] at h1
                have h2 : T.data.toList.length = T.size := by simp
                omega
              have HW : Hid (spF (at8 T) T.size false (fun s => lineF s [] a1) T.size 0 false false 0 [] [] = (S.map (fun s => (s, a1)), 0)) := hide ((spF_all T a1 _ T.size (Nat.le_refl _) hTd).trans (by rw [back]))
              have HB3 := hide ((unhide HB).trans (hb3.mono (unhide HB).size))
              clear hT hTd
              have HC3 := hide (fun j (h : j < S.length) => (hb3.cell (p := ⟨g0, j, none⟩) hg0).trans (hc0 j h))
              have hg3 : g0 < w3.heap.size := by have := hb3.size; omega
              clear hb3 hc0
              go_wp2_with fail
              refine (zzsplit_any T a1 (.slice none 0 0) [] false _ (by omega) (.inl ⟨rfl, rfl⟩) (by simp) T.size (Nat.le_refl _) _ _ HW (by simp; omega)).mono ?_
              rintro e w4 ⟨gt, gl, rfl, ho, hb4⟩
              have HC4 := hide (fun j (h : j < S.length) => (hb4.cell (p := ⟨g0, j, none⟩) hg3).trans (unhide HC3 j h))
              have HB4 := hide ((unhide HB3).trans (hb4.mono (unhide HB3).size))
              have HO4 := hide (ho.base (unhide HB3).size)
              simp only [List.length_map]
              clear ho hb4 HB3 HC3
              have tl : ((S.length : Int) != (S.length : Int)) = false := by simp
              go_wp2_with fail
              go_loopw [13] (fun vk wr => CmpR w gt gl g0 S a1 vk wr) (fun vk _ => S.length - (intOf vk).toNat)
              case atStart => exact ⟨0, rfl, by omega, unhide HO4, unhide HC4, unhide HB4⟩
              case round =>
                clear HO4 HC4 HB4
                obtain ⟨k, rfl, hk, ho1, hcf, hbelr⟩ := hrel
                by_cases hlk : k < S.length
                · obtain ⟨x, hx⟩ : ∃ x, (S[k]'hlk) = x := ⟨_, rfl⟩
                  have c1 := ho1.ct k (by simpa using hlk)
                  have d1 := ho1.cl k (by simpa using hlk)
                  have c2 := hcf k hlk
                  simp only [List.getElem_map] at c1 d1
                  rw [hx] at c1 c2
                  have HA := hide (And.intro ho1 (And.intro hcf hbelr))
                  have tx : (x.toList != x.toList) = false := by simp
                  have ty : (a1 != a1) = false := by simp
                  clear ho1 hcf hbelr
                  go_wp2_with fail
                  go_quiet (fail)
                  go_wp2_with fail
                  obtain ⟨q1, q2, q3⟩ := unhide HA
                  exact ⟨⟨k + 1, by go_num, by omega, q1.drewN _, q2, below_drew q3 _⟩, by simp [intOf]; omega⟩
                · go_wp2
                  go_ret
                  exact ⟨rfl, hbelr⟩
    · go_wp2_with fail
      go_ret
      exact ⟨rfl, Below.refl _ _⟩

/-! ### THE ROW's STEP: WRITTEN OUT: LEAVE IT -/
set_option maxRecDepth 100000 in
theorem lifted (os : Os) (started : os.Started) (H : Type) (enc : TypeId × Value → H) :
    ReturnsInHanded {} Try.checked os 4 .any (Rows.fnSplitWordsQuotedRoundTripSpec.pre6 enc Try.prog Try.f4 Rows.fnSplitWordsQuotedRoundTripRow.domain false) (Rows.fnSplitWordsQuotedRoundTripSpec.post enc Try.prog Try.f4 false true false false) := by
  refine returnsInHanded_of_change (C := Try.checked) own started (by kernel_rfl) Try.func4
    (ChangeSpec.witness6 (enc := enc) (C := Try.checked) false ⟨#[], #[.slice none 0 0, .int .i64 0], []⟩ 8 (by kernel_rfl) (by kernel_rfl) (by kernel_rfl) (by kernel_rfl)) ?_
  intro W base args ds gs before hval0 hW hcnd _
  have hval : ∀ (j : Nat) t v, Try.f4.params[j]? = some t → args[j]? = some v → Value.okWide Try.prog W .any base t v := hval0
  have hW' := hW
  obtain ⟨p, q, hA0, hV, rfl, hfz, hnd⟩ := hW
  have hA : DataW.TrodAll enc Try.prog W 0 (fun _ => true) true Try.f4.params.toList args.toList ds p := hA0
  rw [Try.params4] at hA hval
  obtain ⟨v0, vs0, d0, ds0, p0, q0, hargs, rfl, rfl, h0, r0⟩ := trodAll_cons hA
  obtain ⟨v1, vs1, d1, ds1, p1, q1, rfl, rfl, rfl, h1, r1⟩ := trodAll_cons r0
  obtain ⟨rfl, rfl, rfl⟩ := trodAll_nil r1
  obtain rfl : args = #[v0, v1] := by cases args; simp_all
  obtain ⟨rfl, rfl⟩ := trodVars_none hV
  obtain ⟨a0, len0, cap0, rfl⟩ := okWide_slice Try.underlying25 (hval 0 25 v0 rfl rfl)
  have k0 := h0
  have lt0 : ∀ x ∈ p0, x.block < W.heap.size := by obtain ⟨m, hm⟩ := k0; exact DataW.trod_lt m _ _ _ hm
  obtain ⟨ss, w0⟩ : ∃ ss, IsRowS W a0 len0 cap0 ss := by
    obtain ⟨fuel, hf⟩ := h0
    rcases open_strings Try.underlying25 Try.underlying9 (by kernel_rfl) hf with ⟨hcs, _⟩ | ⟨x, l, c, zs, hcs, _, hl, hm, hz, _, hcell, hwz⟩
    · simp [Value.cells] at hcs
      obtain ⟨rfl, rfl, rfl⟩ := hcs
      exact ⟨[], .inl ⟨rfl, rfl, rfl, rfl⟩⟩
    · simp [Value.cells] at hcs
      obtain ⟨rfl, rfl, rfl⟩ := hcs
      simp at hz
      exact ⟨zs, .inr ⟨_, rfl, hl, hm, by omega, hcell, hwz⟩⟩
  obtain ⟨a1, rfl, rfl, rfl, w1⟩ := open_int Try.underlying3 (hval 1 3 v1 rfl rfl) h1
  clear hA0 hval0
  refine (walk a0 len0 cap0 ss a1 W w0).mono fun e W' ⟨he, bel⟩ => ?_
  subst he
  exact ⟨_, rfl, _, _, _, [], _, [], hW', trodAll_mk1 (shut_bool Try.underlying4 _), (trodAll_cons_mk (Below.trod laidOut (by kernel_rfl) (of_decide_eq_true (by kernel_rfl)) k0 bel lt0) (trodAll_cons_mk (shut_int Try.underlying3 w1) trodAll_mk0)), rfl, bel.frame _, fun h => by cases h⟩

theorem over : Rows.fnSplitWordsQuotedRoundTripRow.holds Try.pinned (OpenSpec.ofChange Rows.fnSplitWordsQuotedRoundTripSpec) :=
  OpenClaim.holds_of_wide 4 Try.f4 rfl rfl rfl rfl rfl rfl rfl ⟨rfl, rfl, rfl, rfl, rfl⟩ rfl rfl rfl rfl rfl (by kernel_rfl) Try.func4 (by kernel_rfl)
    (of_decide_eq_true (by kernel_rfl)) (by unfold Func.isWrapper; first | (rw [if_pos (by decide +kernel)]; kernel_rfl) | (rw [if_neg (by decide +kernel)]; exact ⟨rfl, rfl⟩))
    (fun os started H enc _ => lifted os started H enc)

/-- THE STATEMENT -/
theorem proved : Rows.FnSplitWordsQuotedRoundTripSaid := over
#print axioms proved
end Go.Proofs.Qxb6001550a.fnSplitWordsQuotedRoundTrip
