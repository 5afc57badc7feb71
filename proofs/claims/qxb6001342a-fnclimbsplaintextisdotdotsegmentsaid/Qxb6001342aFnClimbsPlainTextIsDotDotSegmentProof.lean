/- A proof of 'Rows.FnClimbsPlainTextIsDotDotSegmentSaid'. The frame is the kit's template at this function; the walk is ours. -/
import Derived.Test.Qxb6001342aRows
import Derived.Test.Qxb6001342aSeg
import Derived.WalkKit
import Derived.ProofKit
import Derived.OpenShut
import Derived.ShutString
namespace Go.Proofs.Qxb6001342a.fnClimbsPlainTextIsDotDotSegment
open Go.ChangeShapes Go.WideShapes Go.ChangeAt Go.RowKit
open Go.ChangeMaps (open_string shut_string)
set_option linter.unusedVariables false      -- a walk need not use every 'w<i>' (that an integer argument fits its kind)

theorem own : ownKnob Try.prog.godebug = none := by kernel_rfl

theorem zz_any (a : ByteArray) (w : World) (h : a.size ≤ 9223372036854775807) : Calls Try.prog 11 #[.string a] w fun e w' => e = .returned (.bool (decide (a.size ≤ 1048576))) ∧ w' = w := by
  by_cases hs : a.size ≤ 1048576
  · go_enter Try.func11, Try.ntmps11
    go_wp2
    go_ret
    exact ⟨by simp [hs], rfl⟩
  · go_enter Try.func11, Try.ntmps11
    go_wp2
    go_ret
    exact ⟨by simp [hs], rfl⟩

theorem zzclimbs_any (a : ByteArray) (w : World) (hs : a.size ≤ 1048576) (hP : Plain (chr a) a.size) :
    Calls Try.prog 13 #[.string a] w fun e w' => e = .returned (.bool (ans (chr a) a.size)) ∧ Below w.heap.size w w' := by
  have HP := hide (keeps_plain _ _ hP)
  clear hP
  go_enter Try.func13, Try.ntmps13
  go_wp2_with (go_at_call 18; refine (climbs_any a _ hs _ (unhide HP)).mono ?_; rintro e w' ⟨s, op, ⟨_, rfl⟩, rfl, hb⟩)
  go_ret
  exact ⟨rfl, hb⟩

/-- the ending is a bool of which Q holds -/
def Ans (Q : Bool → Prop) (e : Ending) : Prop := ∃ b, e = .returned (.bool b) ∧ Q b
theorem ans_mk {Q : Bool → Prop} {b : Bool} (h : Q b) : Ans Q (.returned (.bool b)) := ⟨b, rfl, h⟩

theorem glob_any (c : Int) (w : World) : Calls Try.prog 10 #[.int .u8 c] w fun e w' => Ans (fun b => b = false → c ≠ 42 ∧ c ≠ 63 ∧ c ≠ 91 ∧ c ≠ 93 ∧ c ≠ 123 ∧ c ≠ 125 ∧ c ≠ 40 ∧ c ≠ 41 ∧ c ≠ 33 ∧ c ≠ 92 ∧ c ≠ 64 ∧ c ≠ 43 ∧ c ≠ 44) e ∧ w' = w := by
  go_enter Try.func10, Try.ntmps10
  go_wp2
  all_goals (go_ret; refine ⟨ans_mk ?_, rfl⟩; first | (intro h; cases h; done) | (intro _; simp_all))

theorem plain_any (a : ByteArray) (w : World) (hs : a.size ≤ 65536) : Calls Try.prog 12 #[.string a] w fun e w' => Ans (fun b => b = true → Plain (chr a) a.size) e ∧ w' = w := by
  go_enter Try.func12, Try.ntmps12
  go_wp2
  go_loop [3] (fun vi => ∃ i : Nat, vi = .int .i64 (i : Int) ∧ i ≤ a.size ∧ Plain (chr a) i) (fun vi => a.size - (intOf vi).toNat)
  case atStart => exact ⟨0, rfl, by omega, fun k hk => by omega⟩
  case round =>
    obtain ⟨i, rfl, hi, hp⟩ := hrel
    have HP := hide hp
    clear hp
    by_cases hlt : i < a.size
    · have HC := hide (chr_at a i hlt)
      go_wp2_with fail
      refine (glob_any _ _).mono ?_
      rintro e w' ⟨⟨b, rfl, hb⟩, rfl⟩
      have HB := hide hb
      clear hb
      cases b
      · go_wp2
        go_round
        case rel =>
          refine ⟨i + 1, by go_num, by omega, ?_⟩
          intro k hk
          by_cases e : k = i
          · subst e
            have := (unhide HB) (by first | rfl | trivial)
            rw [← unhide HC]
            simp only [globs, List.mem_cons, List.not_mem_nil, or_false]
            omega
          · exact unhide HP k (by omega)
        case measure => simp [intOf]; omega
      · go_wp2
        go_ret
        exact ⟨ans_mk (by intro h; cases h), rfl⟩
    · go_wp2
      go_ret
      have : i = a.size := by omega
      subst this
      exact ⟨ans_mk (fun _ => unhide HP), rfl⟩

theorem seg_four (ch : Nat → Nat) (s i : Nat) : seg ch s i = 4 ↔ (i = s + 2 ∧ ch s = 46 ∧ ch (s + 1) = 46) := by
  constructor
  · intro h
    unfold seg at h
    repeat' split at h
    all_goals simp_all
  · rintro ⟨rfl, h1, h2⟩
    simp [seg, h1, h2]

theorem rel_next {ch : Nat → Nat} {n i s : Nat} (hp : Plain ch n) (hlt : i < n) (hs : s ≤ i) (h47 : ch i ≠ 47) (h : st ch i = seg ch s i) : (i + 1 ≤ n → st ch (i + 1) = seg ch s (i + 1)) ∧ (i + 1 = n + 1 → ans ch n = false) := by
  refine ⟨fun _ => ?_, fun h => by omega⟩
  have ne := hp.ne (k := i) hlt
  rw [st, h, seg_next ch s i hs (ne 42 (by decide)) (ne 63 (by decide)) (ne 91 (by decide)) (ne 43 (by decide)) (ne 64 (by decide)) (ne 33 (by decide)) h47]

theorem rel_slash {ch : Nat → Nat} {n i s : Nat} (hlt : i < n) (h47 : ch i = 47) (h : st ch i = seg ch s i) (h4 : seg ch s i ≠ 4) : (i + 1 ≤ n → st ch (i + 1) = seg ch (i + 1) (i + 1)) ∧ (i + 1 = n + 1 → ans ch n = false) := by
  refine ⟨fun _ => ?_, fun h => by omega⟩
  rw [st, h, h47, show ((47 : Nat) : Int) = 47 from rfl, seg_slash, if_neg h4]
  simp [seg]

theorem rel_last {ch : Nat → Nat} {n s : Nat} (h : st ch n = seg ch s n) (h4 : seg ch s n ≠ 4) : (n + 1 ≤ n → st ch (n + 1) = seg ch (n + 1) (n + 1)) ∧ (n + 1 = n + 1 → ans ch n = false) := by
  refine ⟨fun h => by omega, fun _ => ans_no ?_⟩
  rw [h]
  rcases seg_vals ch s n with k | k | k | k
  · exact .inl k
  · exact .inr (.inl k)
  · exact absurd k h4
  · exact .inr (.inr k)

set_option maxRecDepth 100000 in
set_option maxHeartbeats 1000000 in
theorem has_any (a : ByteArray) (w : World) (hs : a.size ≤ 65536) (hp : Plain (chr a) a.size) : Calls Try.prog 14 #[.string a] w fun e w' => e = .returned (.bool (ans (chr a) a.size)) ∧ w' = w := by
  have HPL := hide hp
  clear hp
  go_enter Try.func14, Try.ntmps14
  go_wp2
  go_loop [3, 4] (fun vs vi => ∃ i s : Nat, vi = .int .i64 (i : Int) ∧ vs = .int .i64 (s : Int) ∧ i ≤ a.size + 1 ∧ s ≤ i ∧ Hid ((i ≤ a.size → st (chr a) i = seg (chr a) s i) ∧ (i = a.size + 1 → ans (chr a) a.size = false))) (fun _ vi => a.size + 1 - (intOf vi).toNat)
  case atStart => exact ⟨0, 0, rfl, rfl, by omega, by omega, fun _ => rfl, by omega⟩
  case round =>
    obtain ⟨i, s, rfl, rfl, hi, hsi, HR⟩ := hrel
    by_cases hle : i ≤ a.size
    · have hst := (unhide HR).1 hle
      have HST := hide hst
      clear hst
      by_cases h4 : i = s + 2 ∧ chr a s = 46 ∧ chr a (s + 1) = 46
      · obtain ⟨rfl, hd1, hd2⟩ := h4
        have b1 : ((a[s].toNat : Int) == 46) = true := by have := chr_at a s (by omega); simp; omega
        have b2 : ((a[s + 1].toNat : Int) == 46) = true := by have := chr_at a (s + 1) (by omega); simp; omega
        have hsg : seg (chr a) s (s + 2) = 4 := (seg_four _ _ _).2 ⟨rfl, hd1, hd2⟩
        have HSG := hide hsg
        clear hsg hd1 hd2
        have hd : ((s : Int) + 2 - s == 2) = true := by simp; omega
        by_cases hlt : s + 2 < a.size
        · have HC := hide (chr_at a (s + 2) hlt)
          by_cases h47 : ((a[s + 2].toNat : Int) == 47) = true
          · have ha : ans (chr a) a.size = true := by
              have e : chr a (s + 2) = 47 := by rw [← unhide HC]; simp at h47; omega
              have e2 : st (chr a) (s + 2 + 1) = 64 := by rw [st, e, unhide HST]; rw [show ((47 : Nat) : Int) = 47 from rfl, seg_slash, if_pos (unhide HSG)]
              have := st_climbed (chr a) (s + 2 + 1) (a.size - (s + 2 + 1)) e2
              rw [Nat.add_sub_cancel' (by omega)] at this
              exact ans_climbed this
            have HA := hide ha
            clear ha
            go_wp2
            all_goals first | (go_ret; exact ⟨by rw [unhide HA]; rfl, rfl⟩) | (exfalso; omega)
          · have h47' : ((a[s + 2].toNat : Int) == 47) = false := by simpa using h47
            clear h47
            have HN := hide (rel_next (unhide HPL) hlt (show s ≤ s + 2 by omega) (by rw [← unhide HC]; simp at h47'; omega) (unhide HST))
            go_wp2
            all_goals first | (exact ⟨⟨s + 2 + 1, s, by go_num, rfl, by omega, by omega, unhide HN⟩, by simp [intOf]; omega⟩) | (exfalso; omega)
        · have he : s + 2 = a.size := by omega
          have ha : ans (chr a) a.size = true := ans_four (by rw [← he, unhide HST]; exact unhide HSG)
          have HA := hide ha
          clear ha
          have heb : ((s : Int) + 2 == a.size) = true := by simp; omega
          have HHE := hide he
          clear he
          go_wp2
          all_goals first | (go_ret; exact ⟨by rw [unhide HA]; rfl, rfl⟩) | (exfalso; omega)
      · have hsg : seg (chr a) s i ≠ 4 := fun h => h4 ((seg_four _ _ _).1 h)
        have HSG := hide hsg
        have H4 := hide h4
        clear hsg h4
        by_cases hlt : i < a.size
        · have HC := hide (chr_at a i hlt)
          by_cases h47 : ((a[i].toNat : Int) == 47) = true
          · have HN := hide (rel_slash hlt (by rw [← unhide HC]; simp at h47; omega) (unhide HST) (unhide HSG))
            go_wp2
            all_goals first
              | (exact ⟨⟨i + 1, i + 1, by go_num, by go_num, by omega, by omega, unhide HN⟩, by simp [intOf]; omega⟩)
              | (exfalso; have k1 := chr_at a s (by omega); have k2 := chr_at a (s + 1) (by omega); simp only [beq_iff_eq] at *; exact unhide H4 ⟨by omega, by omega, by omega⟩)
          · have h47' : ((a[i].toNat : Int) == 47) = false := by simpa using h47
            clear h47
            have HN := hide (rel_next (unhide HPL) hlt hsi (by rw [← unhide HC]; simp at h47'; omega) (unhide HST))
            go_wp2
            all_goals first | (exact ⟨⟨i + 1, s, by go_num, rfl, by omega, by omega, unhide HN⟩, by simp [intOf]; omega⟩) | (exfalso; omega)
        · have he : i = a.size := by omega
          subst he
          have HN := hide ((rel_last (unhide HST) (unhide HSG)).2 rfl)
          go_wp2
          all_goals first
            | (exact ⟨⟨a.size + 1, a.size + 1, by go_num, by go_num, by omega, by omega, ⟨fun h => by omega, fun _ => unhide HN⟩⟩, by simp [intOf]⟩)
            | (exfalso; have k1 := chr_at a s (by omega); have k2 := chr_at a (s + 1) (by omega); simp only [beq_iff_eq] at *; exact unhide H4 ⟨by omega, by omega, by omega⟩)
    · have ha := (unhide HR).2 (by omega)
      have HA := hide ha
      clear ha
      go_wp2
      go_ret
      exact ⟨by rw [unhide HA]; rfl, rfl⟩

/-! ### STEP 1: THE WALK -/
theorem walk (a0 : ByteArray) (w0 : a0.size ≤ maxLen) (w : World) :
    Calls Try.prog 6 #[.string a0] w fun e w' => e = .returned (.bool true) ∧ Below w.heap.size w w' := by
  unfold maxLen at w0
  by_cases h1 : a0.size ≤ 1048576
  · by_cases h2 : a0.size ≤ 65536
    · go_enter Try.func6, Try.ntmps6
      go_wp2_with (go_at_call 11; refine (zz_any _ _ w0).mono ?_; rintro e w' ⟨rfl, rfl⟩)
      refine (plain_any a0 _ h2).mono ?_
      rintro e w1 ⟨⟨b, rfl, hb⟩, rfl⟩
      cases b
      · clear hb
        go_wp2
        go_ret
        exact ⟨rfl, Below.refl _ _⟩
      · have hp := hb rfl
        have HP := hide hp
        clear hb hp
        go_wp2_with fail
        refine (zzclimbs_any a0 _ h1 (unhide HP)).mono ?_
        rintro e w2 ⟨rfl, hb2⟩
        go_wp2_with fail
        refine (has_any a0 _ h2 (unhide HP)).mono ?_
        rintro e w3 ⟨rfl, rfl⟩
        go_wp2
        go_ret
        exact ⟨by simp, hb2⟩
    · go_enter Try.func6, Try.ntmps6
      go_wp2_with (go_at_call 11; refine (zz_any _ _ w0).mono ?_; rintro e w' ⟨rfl, rfl⟩)
      all_goals (go_ret; exact ⟨rfl, Below.refl _ _⟩)
  · go_enter Try.func6, Try.ntmps6
    go_wp2_with (go_at_call 11; refine (zz_any _ _ w0).mono ?_; rintro e w' ⟨rfl, rfl⟩)
    all_goals (go_ret; exact ⟨rfl, Below.refl _ _⟩)

/-! ### THE ROW's STEP: WRITTEN OUT: LEAVE IT -/
set_option maxRecDepth 100000 in
theorem lifted (os : Os) (started : os.Started) (H : Type) (enc : TypeId × Value → H) :
    ReturnsInHanded {} Try.checked os 6 .any (Rows.fnClimbsPlainTextIsDotDotSegmentSpec.pre6 enc Try.prog Try.f6 Rows.fnClimbsPlainTextIsDotDotSegmentRow.domain false) (Rows.fnClimbsPlainTextIsDotDotSegmentSpec.post enc Try.prog Try.f6 false true false false) := by
  refine returnsInHanded_of_change (C := Try.checked) own started (by kernel_rfl) Try.func6
    (ChangeSpec.witness6 (enc := enc) (C := Try.checked) false ⟨#[], #[.string ByteArray.empty], []⟩ 8 (by kernel_rfl) (by kernel_rfl) (by kernel_rfl) (by kernel_rfl)) ?_
  intro W base args ds gs before hval0 hW hcnd _
  have hval : ∀ (j : Nat) t v, Try.f6.params[j]? = some t → args[j]? = some v → Value.okWide Try.prog W .any base t v := hval0
  have hW' := hW
  obtain ⟨p, q, hA0, hV, rfl, hfz, hnd⟩ := hW
  have hA : DataW.TrodAll enc Try.prog W 0 (fun _ => true) true Try.f6.params.toList args.toList ds p := hA0
  rw [Try.params6] at hA hval
  obtain ⟨v0, vs0, d0, ds0, p0, q0, hargs, rfl, rfl, h0, r0⟩ := trodAll_cons hA
  obtain ⟨rfl, rfl, rfl⟩ := trodAll_nil r0
  obtain rfl : args = #[v0] := by cases args; simp_all
  obtain ⟨rfl, rfl⟩ := trodVars_none hV
  obtain ⟨a0, rfl, rfl, rfl, w0⟩ := open_string Try.underlying9 (hval 0 9 v0 rfl rfl) h0
  clear hA0 hval0
  refine (walk a0 w0 W).mono fun e W' ⟨he, hg⟩ => ?_
  subst he
  exact ⟨_, rfl, _, _, _, [], _, [], hW', trodAll_mk1 (shut_bool Try.underlying4 _), (trodAll_cons_mk (shut_string Try.underlying9 w0) trodAll_mk0), rfl, hg.frame _, fun h => by cases h⟩

theorem over : Rows.fnClimbsPlainTextIsDotDotSegmentRow.holds Try.pinned (OpenSpec.ofChange Rows.fnClimbsPlainTextIsDotDotSegmentSpec) :=
  OpenClaim.holds_of_wide 6 Try.f6 rfl rfl rfl rfl rfl rfl rfl ⟨rfl, rfl, rfl, rfl, rfl⟩ rfl rfl rfl rfl rfl (by kernel_rfl) Try.func6 (by kernel_rfl)
    (of_decide_eq_true (by kernel_rfl)) (by unfold Func.isWrapper; first | (rw [if_pos (by decide +kernel)]; kernel_rfl) | (rw [if_neg (by decide +kernel)]; exact ⟨rfl, rfl⟩))
    (fun os started H enc _ => lifted os started H enc)

/-- ████ THE STATEMENT ████ -/
theorem proved : Rows.FnClimbsPlainTextIsDotDotSegmentSaid :=
  over
#print axioms proved
end Go.Proofs.Qxb6001342a.fnClimbsPlainTextIsDotDotSegment
