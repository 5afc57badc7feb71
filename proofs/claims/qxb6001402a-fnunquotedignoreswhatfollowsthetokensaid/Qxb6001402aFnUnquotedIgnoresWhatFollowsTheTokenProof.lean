/- A proof of 'Rows.FnUnquotedIgnoresWhatFollowsTheTokenSaid'. The frame is the kit's template at this function; the walk is ours. -/
import Derived.Test.Qxb6001402aRows
import Derived.Test.Qxb6001402aTok
import Derived.WalkKit
import Derived.ProofKit
import Derived.OpenShut
import Derived.ShutString
import Derived.HandedShaped
import Derived.Shelf.Vars
namespace Go.Proofs.Qxb6001402a.fnUnquotedIgnoresWhatFollowsTheToken
open Go.ChangeShapes Go.WideShapes Go.ChangeAt Go.RowKit
open Go.ChangeMaps (open_string shut_string)
set_option linter.unusedVariables false

theorem own : ownKnob Try.prog.godebug = none := by kernel_rfl

theorem zz_any (a : ByteArray) (b1 b2 : Bool) (w : World) (h : a.size ≤ 9223372036854775807) : Calls Try.prog 20 #[.string a, .bool b1, .bool b2] w fun e w' => e = .returned (.bool (decide (a.size ≤ 1048576))) ∧ w' = w := by
  by_cases hs : a.size ≤ 1048576
  · go_enter Try.func20, Try.ntmps20
    go_wp2
    go_ret
    exact ⟨by simp [hs], rfl⟩
  · go_enter Try.func20, Try.ntmps20
    go_wp2
    go_ret
    exact ⟨by simp [hs], rfl⟩

set_option maxRecDepth 100000 in
set_option maxHeartbeats 1000000 in
theorem walk (a0 : ByteArray) (a1 : Bool) (a2 : Bool) (w0 : a0.size ≤ maxLen) (w : World) (m : Int) (hm : w.cell? ⟨0, 0, none⟩ = some (.int .i64 m)) :
    Calls Try.prog 9 #[.string a0, .bool a1, .bool a2] w fun e w' => e = .returned (.bool true) ∧ Below w.heap.size w w' := by
  have w1 : a0.size ≤ 9223372036854775807 := w0
  by_cases hs : a0.size ≤ 1048576
  · by_cases h0 : 0 < a0.size
    · obtain ⟨c, hc⟩ : ∃ c : UInt8, a0[0]'h0 = c := ⟨_, rfl⟩
      have h0' : ((a0.size : Int) == 0) = false := beq_eq_false_iff_ne.2 (by omega)
      cases hq : quoteB (c.toNat : Int) with
      | false =>
        simp only [quoteB, Bool.or_eq_false_iff] at hq
        obtain ⟨⟨hq1, hq2⟩, hq3⟩ := hq
        have hn1 : ((c.toNat : Int) != 39) = true := by simp [bne, hq1]
        have hn2 : ((c.toNat : Int) != 34) = true := by simp [bne, hq2]
        have hn3 : ((c.toNat : Int) != 96) = true := by simp [bne, hq3]
        go_enter Try.func9, Try.ntmps9
        go_wp2_with (go_at_call 20; refine (zz_any a0 a1 a2 _ w1).mono ?_; rintro e w' ⟨rfl, hw⟩; replace hw := hw.symm; subst hw; rw [decide_eq_true hs])
        go_ret
        exact ⟨rfl, Below.refl _ _⟩
      | true =>
        have hqq : c.toNat = 39 ∨ c.toNat = 34 ∨ c.toNat = 96 := by
          simp only [quoteB, Bool.or_eq_true, beq_iff_eq] at hq
          omega
        have HQ := hide hq
        clear hq
        have hmm : w.cell? ⟨0, 0, none⟩ = some (.int .i64 m) := hm
        rcases hqq with hqq | hqq | hqq
        · have n39 : ((c.toNat : Int) != 39) = false := bne_eq_false_iff_eq.2 (by omega)
          clear hqq
          go_enter Try.func9, Try.ntmps9
          go_wp2_with (first | (go_at_call 20; refine (zz_any a0 a1 a2 _ w1).mono ?_; rintro e w' ⟨rfl, hw⟩; replace hw := hw.symm; subst hw; rw [decide_eq_true hs]) | fail)
          refine (zznext_any a0 _ hs 0 a1 a2 false m (by omega) hmm).mono ?_
          rintro e w2 ⟨k2, t, te, p', ic', en', rfl, hpp, hpa, hen, hen', hqt, hb2⟩
          obtain ⟨rfl, -, ht⟩ := hqt h0 (by rw [hc]; exact unhide HQ)
          clear hen hen' hqt hpp hpa
          obtain ⟨ht0, hts, htc, htu⟩ := tok_facts a0 te h0 t ht
          clear ht
          have htc' : t[0]'ht0 = c := (htc ht0).trans hc
          clear htc
          have ht0' : ((t.size : Int) == 0) = false := beq_eq_false_iff_ne.2 (by omega)
          have HTU := hide htu
          clear htu
          have HB2 := hide hb2
          clear hb2
          go_wp2_with fail
          go_quiet (fail)
          go_wp2_with fail
          refine (zzunq_any t te _ (by omega) ht0 a0.size hts).mono ?_
          rintro e w3 ⟨rfl, hb3⟩
          rw [unhide HTU]
          obtain ⟨R, hR⟩ : ∃ R, uqF (chr a0) a0.size (chr a0 0) te a0.size 1 [] = R := ⟨_, rfl⟩
          rw [hR]
          have HB3 := hide hb3
          clear hb3
          go_wp2_with fail
          refine (zzunq_any a0 te _ hs h0 a0.size (Nat.le_refl _)).mono ?_
          rintro e w4 ⟨rfl, hb4⟩
          rw [hR]
          have HB4 := hide hb4
          clear hb4
          go_wp2
          go_ret
          refine ⟨by simp, ?_⟩
          have g2 := unhide HB2
          have g3 := unhide HB3
          have g4 := unhide HB4
          have g3' : Below w.heap.size w w3 := (below_drewN g2 _).trans (g3.mono (by have := g2.size; simpa using this))
          exact g3'.trans (g4.mono g3'.size)
        · have n39 : ((c.toNat : Int) != 39) = true := bne_iff_ne.2 (by omega)
          have n34 : ((c.toNat : Int) != 34) = false := bne_eq_false_iff_eq.2 (by omega)
          clear hqq
          go_enter Try.func9, Try.ntmps9
          go_wp2_with (first | (go_at_call 20; refine (zz_any a0 a1 a2 _ w1).mono ?_; rintro e w' ⟨rfl, hw⟩; replace hw := hw.symm; subst hw; rw [decide_eq_true hs]) | fail)
          refine (zznext_any a0 _ hs 0 a1 a2 false m (by omega) hmm).mono ?_
          rintro e w2 ⟨k2, t, te, p', ic', en', rfl, hpp, hpa, hen, hen', hqt, hb2⟩
          obtain ⟨rfl, -, ht⟩ := hqt h0 (by rw [hc]; exact unhide HQ)
          clear hen hen' hqt hpp hpa
          obtain ⟨ht0, hts, htc, htu⟩ := tok_facts a0 te h0 t ht
          clear ht
          have htc' : t[0]'ht0 = c := (htc ht0).trans hc
          clear htc
          have ht0' : ((t.size : Int) == 0) = false := beq_eq_false_iff_ne.2 (by omega)
          have HTU := hide htu
          clear htu
          have HB2 := hide hb2
          clear hb2
          go_wp2_with fail
          go_quiet (fail)
          go_wp2_with fail
          refine (zzunq_any t te _ (by omega) ht0 a0.size hts).mono ?_
          rintro e w3 ⟨rfl, hb3⟩
          rw [unhide HTU]
          obtain ⟨R, hR⟩ : ∃ R, uqF (chr a0) a0.size (chr a0 0) te a0.size 1 [] = R := ⟨_, rfl⟩
          rw [hR]
          have HB3 := hide hb3
          clear hb3
          go_wp2_with fail
          refine (zzunq_any a0 te _ hs h0 a0.size (Nat.le_refl _)).mono ?_
          rintro e w4 ⟨rfl, hb4⟩
          rw [hR]
          have HB4 := hide hb4
          clear hb4
          go_wp2
          go_ret
          refine ⟨by simp, ?_⟩
          have g2 := unhide HB2
          have g3 := unhide HB3
          have g4 := unhide HB4
          have g3' : Below w.heap.size w w3 := (below_drewN g2 _).trans (g3.mono (by have := g2.size; simpa using this))
          exact g3'.trans (g4.mono g3'.size)
        · have n39 : ((c.toNat : Int) != 39) = true := bne_iff_ne.2 (by omega)
          have n34 : ((c.toNat : Int) != 34) = true := bne_iff_ne.2 (by omega)
          have n96 : ((c.toNat : Int) != 96) = false := bne_eq_false_iff_eq.2 (by omega)
          clear hqq
          go_enter Try.func9, Try.ntmps9
          go_wp2_with (first | (go_at_call 20; refine (zz_any a0 a1 a2 _ w1).mono ?_; rintro e w' ⟨rfl, hw⟩; replace hw := hw.symm; subst hw; rw [decide_eq_true hs]) | fail)
          refine (zznext_any a0 _ hs 0 a1 a2 false m (by omega) hmm).mono ?_
          rintro e w2 ⟨k2, t, te, p', ic', en', rfl, hpp, hpa, hen, hen', hqt, hb2⟩
          obtain ⟨rfl, -, ht⟩ := hqt h0 (by rw [hc]; exact unhide HQ)
          clear hen hen' hqt hpp hpa
          obtain ⟨ht0, hts, htc, htu⟩ := tok_facts a0 te h0 t ht
          clear ht
          have htc' : t[0]'ht0 = c := (htc ht0).trans hc
          clear htc
          have ht0' : ((t.size : Int) == 0) = false := beq_eq_false_iff_ne.2 (by omega)
          have HTU := hide htu
          clear htu
          have HB2 := hide hb2
          clear hb2
          go_wp2_with fail
          go_quiet (fail)
          go_wp2_with fail
          refine (zzunq_any t te _ (by omega) ht0 a0.size hts).mono ?_
          rintro e w3 ⟨rfl, hb3⟩
          rw [unhide HTU]
          obtain ⟨R, hR⟩ : ∃ R, uqF (chr a0) a0.size (chr a0 0) te a0.size 1 [] = R := ⟨_, rfl⟩
          rw [hR]
          have HB3 := hide hb3
          clear hb3
          go_wp2_with fail
          refine (zzunq_any a0 te _ hs h0 a0.size (Nat.le_refl _)).mono ?_
          rintro e w4 ⟨rfl, hb4⟩
          rw [hR]
          have HB4 := hide hb4
          clear hb4
          go_wp2
          go_ret
          refine ⟨by simp, ?_⟩
          have g2 := unhide HB2
          have g3 := unhide HB3
          have g4 := unhide HB4
          have g3' : Below w.heap.size w w3 := (below_drewN g2 _).trans (g3.mono (by have := g2.size; simpa using this))
          exact g3'.trans (g4.mono g3'.size)
    · have h0' : ((a0.size : Int) == 0) = true := beq_iff_eq.2 (by omega)
      go_enter Try.func9, Try.ntmps9
      go_wp2_with (go_at_call 20; refine (zz_any a0 a1 a2 _ w1).mono ?_; rintro e w' ⟨rfl, hw⟩; replace hw := hw.symm; subst hw; rw [decide_eq_true hs])
      go_ret
      exact ⟨rfl, Below.refl _ _⟩
  · go_enter Try.func9, Try.ntmps9
    go_wp2_with (go_at_call 20; refine (zz_any a0 a1 a2 _ w1).mono ?_; rintro e w' ⟨rfl, hw⟩; replace hw := hw.symm; subst hw; rw [decide_eq_false hs])
    go_ret
    exact ⟨rfl, Below.refl _ _⟩
set_option maxRecDepth 100000 in
theorem lifted (os : Os) (started : os.Started) (H : Type) (enc : TypeId × Value → H) :
    ReturnsInHanded {} Try.checked os 9 .any (Rows.fnUnquotedIgnoresWhatFollowsTheTokenSpec.pre6 enc Try.prog Try.f9 Rows.fnUnquotedIgnoresWhatFollowsTheTokenRow.domain false) (Rows.fnUnquotedIgnoresWhatFollowsTheTokenSpec.post enc Try.prog Try.f9 false true false false) := by
  refine returnsInHanded_of_change_shaped (C := Try.checked) own started (by kernel_rfl) Try.func9
    (ChangeSpec.witness6 (enc := enc) (C := Try.checked) false ⟨#[], #[.string ByteArray.empty, .bool false, .bool false], []⟩ 8 (by kernel_rfl) (by kernel_rfl) (by kernel_rfl) (by kernel_rfl)) ?_
  intro W base args ds gs before hval0 hW hcnd _ hsh _
  have hval : ∀ (j : Nat) t v, Try.f9.params[j]? = some t → args[j]? = some v → Value.okWide Try.prog W .any base t v := hval0
  have hW' := hW
  obtain ⟨p, q, hA0, hV, rfl, hfz, hnd⟩ := hW
  have hA : DataW.TrodAll enc Try.prog W 0 (fun _ => true) true Try.f9.params.toList args.toList ds p := hA0
  rw [Try.params9] at hA hval
  obtain ⟨v0, vs0, d0, ds0, p0, q0, hargs, rfl, rfl, h0, r0⟩ := trodAll_cons hA
  obtain ⟨v1, vs1, d1, ds1, p1, q1, rfl, rfl, rfl, h1, r1⟩ := trodAll_cons r0
  obtain ⟨v2, vs2, d2, ds2, p2, q2, rfl, rfl, rfl, h2, r2⟩ := trodAll_cons r1
  obtain ⟨rfl, rfl, rfl⟩ := trodAll_nil r2
  obtain rfl : args = #[v0, v1, v2] := by cases args; simp_all
  obtain ⟨rfl, rfl⟩ := trodVars_none hV
  obtain ⟨a0, rfl, rfl, rfl, w0⟩ := open_string Try.underlying9 (hval 0 9 v0 rfl rfl) h0
  obtain ⟨a1, rfl, rfl, rfl⟩ := open_bool Try.underlying4 (hval 1 4 v1 rfl rfl) h1
  obtain ⟨a2, rfl, rfl, rfl⟩ := open_bool Try.underlying4 (hval 2 4 v2 rfl rfl) h2
  clear hA0 hval0
  simp only [List.append_nil] at hW'
  obtain ⟨m, hm⟩ := cell_of_shapedOpen_int (P := Try.prog) (g := 0) (t := 3) (zero := #[.int .i64 0]) hsh (of_decide_eq_true (by kernel_rfl)) (by kernel_rfl) rfl (by kernel_rfl) (by kernel_rfl) Try.underlying3
  refine (walk a0 a1 a2 w0 W m hm).mono fun e W' ⟨he, hg⟩ => ?_
  subst he
  exact ⟨_, rfl, _, _, _, [], _, [], hW', trodAll_mk1 (shut_bool Try.underlying4 _), (trodAll_cons_mk (shut_string Try.underlying9 w0) (trodAll_cons_mk (shut_bool Try.underlying4 _) (trodAll_cons_mk (shut_bool Try.underlying4 _) trodAll_mk0))), rfl, hg.frame _, fun h => by cases h⟩

theorem over : Rows.fnUnquotedIgnoresWhatFollowsTheTokenRow.holds Try.pinned (OpenSpec.ofChange Rows.fnUnquotedIgnoresWhatFollowsTheTokenSpec) :=
  OpenClaim.holds_of_wide 9 Try.f9 rfl rfl rfl rfl rfl rfl rfl ⟨rfl, rfl, rfl, rfl, rfl⟩ rfl rfl rfl rfl rfl (by kernel_rfl) Try.func9 (by kernel_rfl)
    (of_decide_eq_true (by kernel_rfl)) (by unfold Func.isWrapper; first | (rw [if_pos (by decide +kernel)]; kernel_rfl) | (rw [if_neg (by decide +kernel)]; exact ⟨rfl, rfl⟩))
    (fun os started H enc _ => lifted os started H enc)

/-- THE STATEMENT -/
theorem proved : Rows.FnUnquotedIgnoresWhatFollowsTheTokenSaid :=
  over
#print axioms proved
end Go.Proofs.Qxb6001402a.fnUnquotedIgnoresWhatFollowsTheToken
