/- A proof of 'Rows.FnWithServerVariablesNoVarsKeepsURLSaid'. The frame is the kit's template at this function; the walk is ours. -/
import Derived.Test.Qxb6001476aRows
import Derived.Test.Qxb6001476aA
import Derived.WalkKit
import Derived.ProofKit
import Derived.OpenShut
import Derived.ShutString
namespace Go.Proofs.Qxb6001476a.fnWithServerVariablesNoVarsKeepsURL
open Go.ChangeShapes Go.WideShapes Go.ChangeAt Go.RowKit
open Go.ChangeMaps (open_string shut_string)
set_option linter.unusedVariables false      -- a walk need not use every 'w<i>' (that an integer argument fits its kind)

theorem own : ownKnob Try.prog.godebug = none := by kernel_rfl

theorem zz_any (a : ByteArray) (w : World) (h : a.size ≤ 9223372036854775807) : Calls Try.prog 12 #[.string a] w fun e w' => e = .returned (.bool (decide (a.size ≤ 1048576))) ∧ w' = w := by
  by_cases hs : a.size ≤ 1048576
  · go_enter Try.func12, Try.ntmps12
    go_wp2
    go_ret
    exact ⟨by simp [hs], rfl⟩
  · go_enter Try.func12, Try.ntmps12
    go_wp2
    go_ret
    exact ⟨by simp [hs], rfl⟩

theorem zzwith_any (a : ByteArray) (V : Value) (w : World) (hs : a.size ≤ 1048576) (hV : NoVars V w.heap.size w) :
    Calls Try.prog 13 #[.string a, V] w fun e w' => e = .returned (.string a) ∧ Below w.heap.size w w' := by
  have HV := hide hV
  clear hV
  go_enter Try.func13, Try.ntmps13
  go_wp2_with (go_at_call 19; refine (with_any a V _ hs (unhide HV)).mono ?_; rintro e w' ⟨rfl, hb⟩)
  go_ret
  exact ⟨rfl, hb⟩

theorem vars_any (w : World) : Calls Try.prog 14 #[.slice none 0 0, .slice none 0 0] w fun e w' => e = .returned (.pointer (some ⟨w.heap.size, 0, none⟩)) ∧ w' = w.alloc (.cells #[.int .i64 5, .string ⟨#[]⟩, .slice none 0 0, .slice none 0 0] 40) := by
  go_enter Try.func14, Try.ntmps14
  go_wp2
  refine wp_loop_rounds 1 ?_
  rw [rounds_succ]
  go_wp2
  go_ret
  exact ⟨rfl, rfl⟩

/-! ### STEP 1: THE WALK -/
theorem walk (a0 : ByteArray) (w0 : a0.size ≤ maxLen) (w : World) :
    Calls Try.prog 5 #[.string a0] w fun e w' => e = .returned (.bool true) ∧ Below w.heap.size w w' := by
  unfold maxLen at w0
  by_cases h1 : a0.size ≤ 1048576
  · go_enter Try.func5, Try.ntmps5
    go_wp2_with (go_at_call 12; refine (zz_any _ _ w0).mono ?_; rintro e w' ⟨rfl, rfl⟩)
    refine (zzwith_any a0 _ _ h1 (.inl rfl)).mono ?_
    rintro e w1 ⟨rfl, hb1⟩
    go_wp2_with fail
    refine (vars_any _).mono ?_
    rintro e w2 ⟨rfl, rfl⟩
    go_wp2_with fail
    refine (zzwith_any a0 _ _ h1 (.inr ⟨w1.heap.size, by simp, rfl, by simp, by simp⟩)).mono ?_
    rintro e w3 ⟨rfl, hb3⟩
    go_wp2
    go_ret
    have hz := hb1.size
    exact ⟨by simp, (hb1.alloc hz _).trans (hb3.mono (by simp; omega))⟩
  · go_enter Try.func5, Try.ntmps5
    go_wp2_with (go_at_call 12; refine (zz_any _ _ w0).mono ?_; rintro e w' ⟨rfl, rfl⟩)
    all_goals (go_ret; exact ⟨rfl, Below.refl _ _⟩)

/-! ### THE ROW's STEP: WRITTEN OUT: LEAVE IT -/
set_option maxRecDepth 100000 in
theorem lifted (os : Os) (started : os.Started) (H : Type) (enc : TypeId × Value → H) :
    ReturnsInHanded {} Try.checked os 5 .any (Rows.fnWithServerVariablesNoVarsKeepsURLSpec.pre6 enc Try.prog Try.f5 Rows.fnWithServerVariablesNoVarsKeepsURLRow.domain false) (Rows.fnWithServerVariablesNoVarsKeepsURLSpec.post enc Try.prog Try.f5 false true false false) := by
  refine returnsInHanded_of_change (C := Try.checked) own started (by kernel_rfl) Try.func5
    (ChangeSpec.witness6 (enc := enc) (C := Try.checked) false ⟨#[], #[.string ByteArray.empty], []⟩ 8 (by kernel_rfl) (by kernel_rfl) (by kernel_rfl) (by kernel_rfl)) ?_
  intro W base args ds gs before hval0 hW hcnd _
  have hval : ∀ (j : Nat) t v, Try.f5.params[j]? = some t → args[j]? = some v → Value.okWide Try.prog W .any base t v := hval0
  have hW' := hW
  obtain ⟨p, q, hA0, hV, rfl, hfz, hnd⟩ := hW
  have hA : DataW.TrodAll enc Try.prog W 0 (fun _ => true) true Try.f5.params.toList args.toList ds p := hA0
  rw [Try.params5] at hA hval
  obtain ⟨v0, vs0, d0, ds0, p0, q0, hargs, rfl, rfl, h0, r0⟩ := trodAll_cons hA
  obtain ⟨rfl, rfl, rfl⟩ := trodAll_nil r0
  obtain rfl : args = #[v0] := by cases args; simp_all
  obtain ⟨rfl, rfl⟩ := trodVars_none hV
  obtain ⟨a0, rfl, rfl, rfl, w0⟩ := open_string Try.underlying9 (hval 0 9 v0 rfl rfl) h0
  clear hA0 hval0
  refine (walk a0 w0 W).mono fun e W' ⟨he, hg⟩ => ?_
  subst he
  exact ⟨_, rfl, _, _, _, [], _, [], hW', trodAll_mk1 (shut_bool Try.underlying4 _), (trodAll_cons_mk (shut_string Try.underlying9 w0) trodAll_mk0), rfl, hg.frame _, fun h => by cases h⟩

theorem over : Rows.fnWithServerVariablesNoVarsKeepsURLRow.holds Try.pinned (OpenSpec.ofChange Rows.fnWithServerVariablesNoVarsKeepsURLSpec) :=
  OpenClaim.holds_of_wide 5 Try.f5 rfl rfl rfl rfl rfl rfl rfl ⟨rfl, rfl, rfl, rfl, rfl⟩ rfl rfl rfl rfl rfl (by kernel_rfl) Try.func5 (by kernel_rfl)
    (of_decide_eq_true (by kernel_rfl)) (by unfold Func.isWrapper; first | (rw [if_pos (by decide +kernel)]; kernel_rfl) | (rw [if_neg (by decide +kernel)]; exact ⟨rfl, rfl⟩))
    (fun os started H enc _ => lifted os started H enc)

/-- ████ THE STATEMENT ████ -/
theorem proved : Rows.FnWithServerVariablesNoVarsKeepsURLSaid :=
  over
#print axioms proved
end Go.Proofs.Qxb6001476a.fnWithServerVariablesNoVarsKeepsURL
