/- A proof of 'Rows.FnNextScriptEndsWithinLengthPlusOneSaid'. The frame is the kit's template at this function; the walk is ours. -/
import Derived.Test.Qxb6001402aRows
import Derived.Test.Qxb6001402aZZ
import Derived.WalkKit
import Derived.ProofKit
import Derived.OpenShut
import Derived.ShutString
import Derived.HandedShaped
import Derived.Shelf.Vars
namespace Go.Proofs.Qxb6001402a.fnNextScriptEndsWithinLengthPlusOne
open Go.ChangeShapes Go.WideShapes Go.ChangeAt Go.RowKit
open Go.ChangeMaps (open_string shut_string)
set_option linter.unusedVariables false

theorem own : ownKnob Try.prog.godebug = none := by kernel_rfl

theorem zz_any (a : ByteArray) (b1 b2 : Bool) (w : World) (h : a.size ≤ 9223372036854775807) : Calls Try.prog 17 #[.string a, .bool b1, .bool b2] w fun e w' => e = .returned (.bool (decide (a.size ≤ 1048576))) ∧ w' = w := by
  by_cases hs : a.size ≤ 1048576
  · go_enter Try.func17, Try.ntmps17
    go_wp2
    go_ret
    exact ⟨by simp [hs], rfl⟩
  · go_enter Try.func17, Try.ntmps17
    go_wp2
    go_ret
    exact ⟨by simp [hs], rfl⟩

def RelN (n : Nat) (w : World) (vp vc ve vk : Value) (wr : World) : Prop :=
  ∃ (p k : Nat) (ic en : Bool), vp = .int .i64 (p : Int) ∧ vc = .bool ic ∧ ve = .bool en ∧ vk = .int .i64 (k : Int) ∧ p ≤ n ∧ k ≤ n + 1 ∧ (en = false → k ≤ p) ∧ Below w.heap.size w wr

set_option maxRecDepth 100000 in
set_option maxHeartbeats 1000000 in
theorem walk (a0 : ByteArray) (a1 : Bool) (a2 : Bool) (w0 : a0.size ≤ maxLen) (w : World) (m : Int) (hm : w.cell? ⟨0, 0, none⟩ = some (.int .i64 m)) :
    Calls Try.prog 7 #[.string a0, .bool a1, .bool a2] w fun e w' => e = .returned (.bool true) ∧ Below w.heap.size w w' := by
  have w1 : a0.size ≤ 9223372036854775807 := w0
  have h0 : 0 < w.heap.size := World.block_lt_of_cell? w _ hm
  by_cases hs : a0.size ≤ 1048576
  · go_enter Try.func7, Try.ntmps7
    go_wp2_with (go_at_call 17; refine (zz_any a0 a1 a2 _ w1).mono ?_; rintro e w' ⟨rfl, hw⟩; replace hw := hw.symm; subst hw; rw [decide_eq_true hs])
    go_loopw [7, 8, 9, 10] (fun vp vc ve vk wr => RelN a0.size w vp vc ve vk wr) (fun _ _ _ vk _ => a0.size + 1 - (intOf vk).toNat)
    case atStart => exact ⟨0, 0, false, false, rfl, rfl, rfl, rfl, by omega, by omega, by simp, Below.refl _ _⟩
    case round =>
      obtain ⟨p, k, ic, en, rfl, rfl, rfl, rfl, hp, hk, hen, hbel⟩ := hrel
      have hmr : wr.cell? ⟨0, 0, none⟩ = some (.int .i64 m) := (hbel.cell h0).trans hm
      cases en with
      | true =>
        by_cases hkn : k ≤ a0.size
        · go_wp2_with (go_at_call 16; refine (zznext_ended a0 _ p a1 a2 ic).mono ?_; rintro e w2 ⟨rfl, hb2⟩)
          go_ret
          exact ⟨by simp, hbel.trans (hb2.mono hbel.size)⟩
        · go_wp2_with (go_at_call 16; refine (zznext_ended a0 _ p a1 a2 ic).mono ?_; rintro e w2 ⟨rfl, hb2⟩)
          go_ret
          exact ⟨by simp, hbel.trans (hb2.mono hbel.size)⟩
      | false =>
        have hkp := hen rfl
        clear hen
        have hkn : k ≤ a0.size := by omega
        go_wp2_with fail
        refine (zznext_any a0 _ hs p a1 a2 ic m hp hmr).mono ?_
        rintro e w2 ⟨k2, t, te, p', ic', en', rfl, hpp, hpa, hen, hen', -, hb2⟩
        have hb3 := hbel.trans (hb2.mono hbel.size)
        clear hbel hmr hb2
        have hpp' : ¬ (p' : Int) < (p : Int) := by omega
        have hpa' : ¬ (a0.size : Int) < (p' : Int) := by omega
        cases en' with
        | true =>
          obtain rfl := hen rfl
          clear hen hen'
          go_wp2
          go_round
          case rel => exact ⟨p', k + 1, ic', true, rfl, rfl, rfl, by go_num, hpa, by omega, by simp, hb3⟩
          case measure => simp [intOf]; omega
        | false =>
          obtain ⟨hk2, hlt⟩ := hen' rfl
          clear hen hen'
          have hk2' : (k2 == 0) = false := by simpa using hk2
          have hlt' : ((p' : Int) == (p : Int)) = false := by simp; omega
          go_wp2
          go_round
          case rel => exact ⟨p', k + 1, ic', false, rfl, rfl, rfl, by go_num, hpa, by omega, fun _ => by omega, hb3⟩
          case measure => simp [intOf]; omega
  · go_enter Try.func7, Try.ntmps7
    go_wp2_with (go_at_call 17; refine (zz_any a0 a1 a2 _ w1).mono ?_; rintro e w' ⟨rfl, hw⟩; replace hw := hw.symm; subst hw; rw [decide_eq_false hs])
    go_ret
    exact ⟨rfl, Below.refl _ _⟩

set_option maxRecDepth 100000 in
theorem lifted (os : Os) (started : os.Started) (H : Type) (enc : TypeId × Value → H) :
    ReturnsInHanded {} Try.checked os 7 .any (Rows.fnNextScriptEndsWithinLengthPlusOneSpec.pre6 enc Try.prog Try.f7 Rows.fnNextScriptEndsWithinLengthPlusOneRow.domain false) (Rows.fnNextScriptEndsWithinLengthPlusOneSpec.post enc Try.prog Try.f7 false true false false) := by
  refine returnsInHanded_of_change_shaped (C := Try.checked) own started (by kernel_rfl) Try.func7
    (ChangeSpec.witness6 (enc := enc) (C := Try.checked) false ⟨#[], #[.string ByteArray.empty, .bool false, .bool false], []⟩ 8 (by kernel_rfl) (by kernel_rfl) (by kernel_rfl) (by kernel_rfl)) ?_
  intro W base args ds gs before hval0 hW hcnd _ hsh _
  have hval : ∀ (j : Nat) t v, Try.f7.params[j]? = some t → args[j]? = some v → Value.okWide Try.prog W .any base t v := hval0
  have hW' := hW
  obtain ⟨p, q, hA0, hV, rfl, hfz, hnd⟩ := hW
  have hA : DataW.TrodAll enc Try.prog W 0 (fun _ => true) true Try.f7.params.toList args.toList ds p := hA0
  rw [Try.params7] at hA hval
  obtain ⟨v0, vs0, d0, ds0, p0, q0, hargs, rfl, rfl, h0, r0⟩ := trodAll_cons hA
  obtain ⟨v1, vs1, d1, ds1, p1, q1, rfl, rfl, rfl, h1, r1⟩ := trodAll_cons r0
  obtain ⟨v2, vs2, d2, ds2, p2, q2, rfl, rfl, rfl, h2, r2⟩ := trodAll_cons r1
  obtain ⟨rfl, rfl, rfl⟩ := trodAll_nil r2
  obtain rfl : args = #[v0, v1, v2] := by cases args; simp_all
  obtain ⟨rfl, rfl⟩ := trodVars_none hV
  obtain ⟨a0, rfl, rfl, rfl, w0⟩ := open_string Try.underlying9 (hval 0 9 v0 rfl rfl) h0
  obtain ⟨a1, rfl, rfl, rfl⟩ := open_bool Try.underlying4 (hval 1 4 v1 rfl rfl) h1
  obtain ⟨a2, rfl, rfl, rfl⟩ := open_bool Try.underlying4 (hval 2 4 v2 rfl rfl) h2
  clear hA0 hval0
  simp only [List.append_nil] at hW'
  obtain ⟨m, hm⟩ := cell_of_shapedOpen_int (P := Try.prog) (g := 0) (t := 3) (zero := #[.int .i64 0]) hsh (of_decide_eq_true (by kernel_rfl)) (by kernel_rfl) rfl (by kernel_rfl) (by kernel_rfl) Try.underlying3
  refine (walk a0 a1 a2 w0 W m hm).mono fun e W' ⟨he, hg⟩ => ?_
  subst he
  exact ⟨_, rfl, _, _, _, [], _, [], hW', trodAll_mk1 (shut_bool Try.underlying4 _), (trodAll_cons_mk (shut_string Try.underlying9 w0) (trodAll_cons_mk (shut_bool Try.underlying4 _) (trodAll_cons_mk (shut_bool Try.underlying4 _) trodAll_mk0))), rfl, hg.frame _, fun h => by cases h⟩

theorem over : Rows.fnNextScriptEndsWithinLengthPlusOneRow.holds Try.pinned (OpenSpec.ofChange Rows.fnNextScriptEndsWithinLengthPlusOneSpec) :=
  OpenClaim.holds_of_wide 7 Try.f7 rfl rfl rfl rfl rfl rfl rfl ⟨rfl, rfl, rfl, rfl, rfl⟩ rfl rfl rfl rfl rfl (by kernel_rfl) Try.func7 (by kernel_rfl)
    (of_decide_eq_true (by kernel_rfl)) (by unfold Func.isWrapper; first | (rw [if_pos (by decide +kernel)]; kernel_rfl) | (rw [if_neg (by decide +kernel)]; exact ⟨rfl, rfl⟩))
    (fun os started H enc _ => lifted os started H enc)

/-- THE STATEMENT -/
theorem proved : Rows.FnNextScriptEndsWithinLengthPlusOneSaid :=
  over
#print axioms proved
end Go.Proofs.Qxb6001402a.fnNextScriptEndsWithinLengthPlusOne
