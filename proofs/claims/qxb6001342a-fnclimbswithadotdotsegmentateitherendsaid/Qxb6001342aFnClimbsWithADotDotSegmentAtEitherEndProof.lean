/- A proof of 'Rows.FnClimbsWithADotDotSegmentAtEitherEndSaid'. The frame is the kit's template at this function; the walk is ours. -/
import Derived.Test.Qxb6001342aRows
import Derived.Test.Qxb6001342aBits
import Derived.WalkKit
import Derived.ProofKit
import Derived.OpenShut
import Derived.ShutString
namespace Go.Proofs.Qxb6001342a.fnClimbsWithADotDotSegmentAtEitherEnd
open Go.ChangeShapes Go.WideShapes Go.ChangeAt Go.RowKit
open Go.ChangeMaps (open_string shut_string)
set_option linter.unusedVariables false      -- a walk need not use every 'w<i>' (that an integer argument fits its kind)

theorem own : ownKnob Try.prog.godebug = none := by kernel_rfl

theorem zz_any (a : ByteArray) (w : World) (h : a.size ≤ 9223372036854775807) : Calls Try.prog 16 #[.string a] w fun e w' => e = .returned (.bool (decide (a.size ≤ 1048576))) ∧ w' = w := by
  by_cases hs : a.size ≤ 1048576
  · go_enter Try.func16, Try.ntmps16
    go_wp2
    go_ret
    exact ⟨by simp [hs], rfl⟩
  · go_enter Try.func16, Try.ntmps16
    go_wp2
    go_ret
    exact ⟨by simp [hs], rfl⟩

theorem zzclimbs_any (a : ByteArray) (w : World) (hs : a.size ≤ 1048576) (P : Nat → Int → List (Int × Int) → Prop) (hP : Keeps (chr a) a.size P) :
    Calls Try.prog 13 #[.string a] w fun e w' => ∃ s op, P a.size s op ∧ e = .returned (.bool (bits .and .u8 s 84 != 0)) ∧ Below w.heap.size w w' := by
  have HP := hide hP
  clear hP
  go_enter Try.func13, Try.ntmps13
  go_wp2_with (go_at_call 18; refine (climbs_any a _ hs P (unhide HP)).mono ?_; rintro e w' ⟨s, op, hp, rfl, hb⟩)
  go_ret
  exact ⟨s, op, hp, rfl, hb⟩

theorem chr_app_l (a b : ByteArray) (k : Nat) (h : k < a.size) : chr (a ++ b) k = chr a k := by
  have h' : k < a.data.toList.length := by simpa using h
  simp [chr, List.getElem?_append_left h']
theorem chr_app_r (a b : ByteArray) (k : Nat) : chr (a ++ b) (a.size + k) = chr b k := by
  have h' : a.data.toList.length = a.size := by simp
  simp only [chr, ByteArray.data_append, Array.toList_append, List.getD_eq_getElem?_getD]
  rw [List.getElem?_append_right (by omega), h']
  simp

theorem end_true (a : ByteArray) (w : World) (hs : a.size ≤ 65536) : Calls Try.prog 13 #[.string (a ++ ⟨#[47, 46, 46]⟩)] w fun e w' => e = .returned (.bool true) ∧ Below w.heap.size w w' := by
  have hz : (a ++ (⟨#[47, 46, 46]⟩ : ByteArray)).size = a.size + 3 := by simp; rfl
  refine (zzclimbs_any _ w (by omega) (AtEnd a.size) (by rw [hz]; exact keeps_end _ _ (chr_lt _) (chr_app_r a _ 0) (chr_app_r a _ 1) (chr_app_r a _ 2))).mono ?_
  rintro e w' ⟨s, op, hp, rfl, hb⟩
  refine ⟨?_, hb⟩
  rw [hz] at hp
  obtain ⟨hbd, _, _, _, _, h68⟩ := hp
  obtain ⟨S, rfl⟩ := Int.eq_ofNat_of_zero_le hbd.1
  have := fin68 ⟨S, by omega⟩ (h68 rfl)
  congr 2
  simpa using this

theorem head_true (a : ByteArray) (w : World) (hs : a.size ≤ 65536) : Calls Try.prog 13 #[.string ((⟨#[46, 46, 47]⟩ : ByteArray) ++ a)] w fun e w' => e = .returned (.bool true) ∧ Below w.heap.size w w' := by
  have hz : ((⟨#[46, 46, 47]⟩ : ByteArray) ++ a).size = a.size + 3 := by simp; show 3 + a.size = a.size + 3; omega
  refine (zzclimbs_any _ w (by omega) AtHead (keeps_head _ _ (chr_lt _) (chr_app_l _ _ 0 (by decide)) (chr_app_l _ _ 1 (by decide)) (chr_app_l _ _ 2 (by decide)))).mono ?_
  rintro e w' ⟨s, op, hp, rfl, hb⟩
  refine ⟨?_, hb⟩
  rw [hz] at hp
  obtain ⟨hbd, _, _, _, _, h64⟩ := hp
  obtain ⟨S, rfl⟩ := Int.eq_ofNat_of_zero_le hbd.1
  have := fin64 ⟨S, by omega⟩ (h64 (by omega))
  congr 2
  simpa using this

/-! ### STEP 1: THE WALK -/
theorem walk (a0 : ByteArray) (w0 : a0.size ≤ maxLen) (w : World) :
    Calls Try.prog 8 #[.string a0] w fun e w' => e = .returned (.bool true) ∧ Below w.heap.size w w' := by
  unfold maxLen at w0
  by_cases h1 : a0.size ≤ 1048576
  · by_cases h2 : a0.size ≤ 65536
    · go_enter Try.func8, Try.ntmps8
      go_wp2_with (go_at_call 16; refine (zz_any _ _ w0).mono ?_; rintro e w' ⟨rfl, rfl⟩)
      refine (end_true a0 _ h2).mono ?_
      rintro e w1 ⟨rfl, hb1⟩
      go_wp2_with fail
      refine (head_true a0 _ h2).mono ?_
      rintro e w2 ⟨rfl, hb2⟩
      go_wp2
      go_ret
      exact ⟨rfl, hb1.trans (hb2.mono hb1.size)⟩
    · go_enter Try.func8, Try.ntmps8
      go_wp2_with (go_at_call 16; refine (zz_any _ _ w0).mono ?_; rintro e w' ⟨rfl, rfl⟩)
      all_goals (go_ret; exact ⟨rfl, Below.refl _ _⟩)
  · go_enter Try.func8, Try.ntmps8
    go_wp2_with (go_at_call 16; refine (zz_any _ _ w0).mono ?_; rintro e w' ⟨rfl, rfl⟩)
    all_goals (go_ret; exact ⟨rfl, Below.refl _ _⟩)

/-! ### THE ROW's STEP: WRITTEN OUT: LEAVE IT -/
set_option maxRecDepth 100000 in
theorem lifted (os : Os) (started : os.Started) (H : Type) (enc : TypeId × Value → H) :
    ReturnsInHanded {} Try.checked os 8 .any (Rows.fnClimbsWithADotDotSegmentAtEitherEndSpec.pre6 enc Try.prog Try.f8 Rows.fnClimbsWithADotDotSegmentAtEitherEndRow.domain false) (Rows.fnClimbsWithADotDotSegmentAtEitherEndSpec.post enc Try.prog Try.f8 false true false false) := by
  refine returnsInHanded_of_change (C := Try.checked) own started (by kernel_rfl) Try.func8
    (ChangeSpec.witness6 (enc := enc) (C := Try.checked) false ⟨#[], #[.string ByteArray.empty], []⟩ 8 (by kernel_rfl) (by kernel_rfl) (by kernel_rfl) (by kernel_rfl)) ?_
  intro W base args ds gs before hval0 hW hcnd _
  have hval : ∀ (j : Nat) t v, Try.f8.params[j]? = some t → args[j]? = some v → Value.okWide Try.prog W .any base t v := hval0
  have hW' := hW
  obtain ⟨p, q, hA0, hV, rfl, hfz, hnd⟩ := hW
  have hA : DataW.TrodAll enc Try.prog W 0 (fun _ => true) true Try.f8.params.toList args.toList ds p := hA0
  rw [Try.params8] at hA hval
  obtain ⟨v0, vs0, d0, ds0, p0, q0, hargs, rfl, rfl, h0, r0⟩ := trodAll_cons hA
  obtain ⟨rfl, rfl, rfl⟩ := trodAll_nil r0
  obtain rfl : args = #[v0] := by cases args; simp_all
  obtain ⟨rfl, rfl⟩ := trodVars_none hV
  obtain ⟨a0, rfl, rfl, rfl, w0⟩ := open_string Try.underlying9 (hval 0 9 v0 rfl rfl) h0
  clear hA0 hval0
  refine (walk a0 w0 W).mono fun e W' ⟨he, hg⟩ => ?_
  subst he
  exact ⟨_, rfl, _, _, _, [], _, [], hW', trodAll_mk1 (shut_bool Try.underlying4 _), (trodAll_cons_mk (shut_string Try.underlying9 w0) trodAll_mk0), rfl, hg.frame _, fun h => by cases h⟩

theorem over : Rows.fnClimbsWithADotDotSegmentAtEitherEndRow.holds Try.pinned (OpenSpec.ofChange Rows.fnClimbsWithADotDotSegmentAtEitherEndSpec) :=
  OpenClaim.holds_of_wide 8 Try.f8 rfl rfl rfl rfl rfl rfl rfl ⟨rfl, rfl, rfl, rfl, rfl⟩ rfl rfl rfl rfl rfl (by kernel_rfl) Try.func8 (by kernel_rfl)
    (of_decide_eq_true (by kernel_rfl)) (by unfold Func.isWrapper; first | (rw [if_pos (by decide +kernel)]; kernel_rfl) | (rw [if_neg (by decide +kernel)]; exact ⟨rfl, rfl⟩))
    (fun os started H enc _ => lifted os started H enc)

/-- ████ THE STATEMENT ████ -/
theorem proved : Rows.FnClimbsWithADotDotSegmentAtEitherEndSaid :=
  over
#print axioms proved
end Go.Proofs.Qxb6001342a.fnClimbsWithADotDotSegmentAtEitherEnd
