import Derived.Test.Qxb6001402aSkip
import Derived.Test.Qxb6001402aQuote
namespace Go.Proofs.Qxb6001402a
open Go.RowKit
set_option linter.unusedVariables false
set_option linter.unusedSimpArgs false
attribute [local go_sem ↓] Go.wp_at_zero Go.wp_at_succ

theorem LexAt.alloc {w : World} {b p : Nat} {a : ByteArray} {bs aq ic en : Bool} (h : LexAt w b a p bs aq ic en) (o : Obj) : LexAt (w.alloc o) b a p bs aq ic en := by
  unfold LexAt at *
  rw [Below.heap_alloc w o b (Array.getElem?_eq_some_iff.1 h).1]
  exact h

def escB (c : Int) (bs aq : Bool) : Bool := (c == 39 && bs) || (c == 34 && bs && !aq)

/-- what next leaves, the lexer not ended -/
def NextR (a : ByteArray) (w : World) (b p : Nat) (bs aq : Bool) (e : Ending) (w' : World) : Prop :=
  ∃ (k : Int) (t : ByteArray) (te : Bool) (p' : Nat) (ic en : Bool), e = .returned (.agg #[.int .i64 k, .string t, .bool te]) ∧ LexAt w' b a p' bs aq ic en ∧ p ≤ p' ∧ p' ≤ a.size ∧ (en = true → k = 0) ∧ (en = false → k ≠ 0 ∧ p < p') ∧
    (∀ h : p < a.size, quoteB ((a[p]'h).toNat : Int) = true → k = 2 ∧ te = escB ((a[p]'h).toNat : Int) bs aq ∧ t = a.extract p (qEnd (chr a) a.size (chr a p) te a.size (p + 1))) ∧ w.grownBy w' (some b)

theorem res23 (tmps : Array Value) (W : World) (rb : Nat) (v0 v1 v2 : Value) (h2 : tmps[2]?.getD undef = .pointer (some ⟨rb, 0, none⟩)) (hb : W.heap[rb]? = some (.cells #[v0, v1, v2] 38 (0, 0))) :
    (results Try.f23 tmps).run Try.prog W = .ok (.agg #[v0, v1, v2]) W := by
  have r0 := cell_of_row W _ 0 _ _ _ hb
  have r1 := cell_of_row W _ 1 _ _ _ hb
  have r2 := cell_of_row W _ 2 _ _ _ hb
  simp at r0 r1 r2
  simp [results, Try.results23, go_sem, h2, r0, r1, r2]

theorem put_three {w Wl : World} {b rb p : Nat} {a : ByteArray} {bs aq ic en : Bool} {u0 u1 u2 : Value} (v0 v1 v2 : Value) (hl : LexAt Wl b a p bs aq ic en) (hr : Wl.heap[rb]? = some (.cells #[u0, u1, u2] 38 (0, 0))) (hne : rb ≠ b) (hrw : w.heap.size ≤ rb) (hg : w.grownBy Wl (some b)) :
    (((Wl.setCell ⟨rb, 0, none⟩ v0).setCell ⟨rb, 1, none⟩ v1).setCell ⟨rb, 2, none⟩ v2).heap[rb]? = some (.cells #[v0, v1, v2] 38 (0, 0)) ∧
    LexAt (((Wl.setCell ⟨rb, 0, none⟩ v0).setCell ⟨rb, 1, none⟩ v1).setCell ⟨rb, 2, none⟩ v2) b a p bs aq ic en ∧ w.grownBy (((Wl.setCell ⟨rb, 0, none⟩ v0).setCell ⟨rb, 1, none⟩ v1).setCell ⟨rb, 2, none⟩ v2) (some b) := by
  have h1 := heap_setCell_same Wl rb 0 _ 38 v0 hr
  have h2 := heap_setCell_same _ rb 1 _ 38 v1 h1
  have h3 := heap_setCell_same _ rb 2 _ 38 v2 h2
  refine ⟨by simpa using h3, ?_, hg.os, hg.tape, hg.output, by have := hg.size; simpa using this, fun k hk hkb => ?_⟩
  · unfold LexAt
    rw [heap_setCell_other _ ⟨rb, 2, none⟩ b v2 (by simpa using fun e => hne e.symm), heap_setCell_other _ ⟨rb, 1, none⟩ b v1 (by simpa using fun e => hne e.symm), heap_setCell_other _ ⟨rb, 0, none⟩ b v0 (by simpa using fun e => hne e.symm)]
    exact hl
  · rw [heap_setCell_other _ ⟨rb, 2, none⟩ k v2 (by simp; omega), heap_setCell_other _ ⟨rb, 1, none⟩ k v1 (by simp; omega), heap_setCell_other _ ⟨rb, 0, none⟩ k v0 (by simp; omega)]
    exact hg.block k hk hkb

theorem next_end {w Wl : World} {tmps : Array Value} {b rb p p' : Nat} {a : ByteArray} {bs aq ic en : Bool} {u0 u1 u2 : Value} {k : Int} {t : ByteArray} {te : Bool}
    (h2 : tmps[2]?.getD undef = .pointer (some ⟨rb, 0, none⟩)) (hl : LexAt Wl b a p' bs aq ic en) (hr : Wl.heap[rb]? = some (.cells #[u0, u1, u2] 38 (0, 0))) (hne : rb ≠ b) (hrw : w.heap.size ≤ rb) (hg : w.grownBy Wl (some b))
    (hpp : p ≤ p') (hpa : p' ≤ a.size) (hen : en = true → k = 0) (hen' : en = false → k ≠ 0 ∧ p < p')
    (hq : ∀ h : p < a.size, quoteB ((a[p]'h).toNat : Int) = true → k = 2 ∧ te = escB ((a[p]'h).toNat : Int) bs aq ∧ t = a.extract p (qEnd (chr a) a.size (chr a p) te a.size (p + 1))) :
    bodyPost Try.prog Try.f23 (fun e w' => NextR a w b p bs aq e w') Exit.ret ⟨tmps, []⟩ (((Wl.setCell ⟨rb, 0, none⟩ (.int .i64 k)).setCell ⟨rb, 1, none⟩ (.string t)).setCell ⟨rb, 2, none⟩ (.bool te)) := by
  obtain ⟨h3, h4, h5⟩ := put_three (w := w) (.int .i64 k) (.string t) (.bool te) hl hr hne hrw hg
  exact bodyPost_ret (res23 _ _ _ _ _ _ h2 h3) rfl ⟨k, t, te, p', ic, en, rfl, h4, hpp, hpa, hen, hen', hq, h5⟩

theorem next_endD {w Wl : World} {tmps : Array Value} {b rb p p' : Nat} {a : ByteArray} {bs aq ic en : Bool} {u0 u1 u2 : Value} {k : Int} {t : ByteArray} {te : Bool}
    (h2 : tmps[2]?.getD undef = .pointer (some ⟨rb, 0, none⟩)) (hl : LexAt Wl b a p' bs aq ic en) (hr : Wl.heap[rb]? = some (.cells #[u0, u1, u2] 38 (0, 0))) (hne : rb ≠ b) (hrw : w.heap.size ≤ rb) (hg : w.grownBy Wl (some b))
    (hpp : p ≤ p') (hpa : p' ≤ a.size) (hen : en = true → k = 0) (hen' : en = false → k ≠ 0 ∧ p < p')
    (hq : ∀ h : p < a.size, quoteB ((a[p]'h).toNat : Int) = true → k = 2 ∧ te = escB ((a[p]'h).toNat : Int) bs aq ∧ t = a.extract p (qEnd (chr a) a.size (chr a p) te a.size (p + 1))) :
    bodyPost Try.prog Try.f23 (fun e w' => NextR a w b p bs aq e w') Exit.ret ⟨tmps, []⟩ (((Wl.setCell ⟨rb, 0, none⟩ (.int .i64 k)).setCell ⟨rb, 1, none⟩ (.string t)).setCell ⟨rb, 2, none⟩ (.bool te)).drew := by
  obtain ⟨h3, h4, h5⟩ := put_three (w := w) (.int .i64 k) (.string t) (.bool te) hl hr hne hrw hg
  exact bodyPost_ret (res23 _ _ _ _ _ _ h2 h3) rfl ⟨k, t, te, p', ic, en, rfl, h4.drew, hpp, hpa, hen, hen', hq, grown_drewN h5 1⟩

theorem grown_alloc {w w2 : World} {o : Obj} {row : Option Nat} (h : (w.alloc o).grownBy w2 row) : w.grownBy w2 row :=
  ⟨h.os, h.tape, h.output, by have := h.size; simp at this; omega, fun k hk hne => (h.block k (by simp; omega) hne).trans (Below.heap_alloc w o k hk)⟩

theorem rb_setCell {W : World} {b rb : Nat} {o : Obj} (h : W.heap[rb]? = some o) (hne : rb ≠ b) (j : Nat) (v : Value) : (W.setCell ⟨b, j, none⟩ v).heap[rb]? = some o := by
  rw [heap_setCell_other W ⟨b, j, none⟩ rb v (by simpa using hne)]; exact h

theorem quote_noword {c : UInt8} (h : wordB (c.toNat : Int) = true) : quoteB (c.toNat : Int) = false := by
  cases hq : quoteB (c.toNat : Int) with
  | false => rfl
  | true =>
    simp only [quoteB, Bool.or_eq_true, beq_iff_eq] at hq
    have e : (c.toNat : Int) = 39 ∨ (c.toNat : Int) = 34 ∨ (c.toNat : Int) = 96 := by omega
    rcases e with e | e | e <;> (rw [e] at h; revert h; decide)

def RelW (a : ByteArray) (w : World) (b rb p1 : Nat) (bs aq ic : Bool) (wr : World) : Prop :=
  ∃ p2 : Nat, p1 ≤ p2 ∧ p2 ≤ a.size ∧ LexAt wr b a p2 bs aq ic false ∧ wr.heap[rb]? = some (.cells #[.int .i64 0, .string ⟨#[]⟩, .bool false] 38 (0, 0)) ∧ w.grownBy wr (some b)

set_option maxRecDepth 100000 in
set_option maxHeartbeats 4000000 in
theorem next_any (a : ByteArray) (w : World) (hs : a.size ≤ 1048576) (b p : Nat) (bs aq ic : Bool) (m : Int) (hb : 0 < b) (hp : p ≤ a.size) (hl : LexAt w b a p bs aq ic false) (hm : w.cell? ⟨0, 0, none⟩ = some (.int .i64 m)) :
    Calls Try.prog 23 #[.pointer (some ⟨b, 0, none⟩)] w fun e w' => NextR a w b p bs aq e w' := by
  have hbw : b < w.heap.size := (Array.getElem?_eq_some_iff.1 hl).1
  have c5 := hl.c5
  have HL := hide hl
  clear hl
  go_enter Try.func23, Try.ntmps23
  go_wp2_with (go_at_call 22; refine (skip_any a _ hs b p bs aq ic false m hb hp ((unhide HL).alloc _) (by rw [World.cell?_alloc_old _ _ _ (by simp; omega)]; exact hm)).mono ?_; rintro e w2 ⟨rfl, p1, ic1, hp1, hp2, hq, hlx, hg, hz⟩)
  have hrb : w2.heap[w.heap.size]? = some (.cells #[.int .i64 0, .string ⟨#[]⟩, .bool false] 38 (0, 0)) := by
    rw [hg.block w.heap.size (by simp) (by simp; omega)]
    exact heap_alloc_new w _
  have r0 := cell_of_row w2 _ 0 _ _ _ hrb
  have r1 := cell_of_row w2 _ 1 _ _ _ hrb
  have r2 := cell_of_row w2 _ 2 _ _ _ hrb
  simp at r0 r1 r2
  have g0 := frozen_of_row w2 _ 0 _ _ hrb
  have g1 := frozen_of_row w2 _ 1 _ _ hrb
  have g2 := frozen_of_row w2 _ 2 _ _ hrb
  have HRB := hide hrb
  clear hrb c5
  have hne : w.heap.size ≠ b := by omega
  have c0 := hlx.c0
  have c1 := hlx.c1
  have c2 := hlx.c2
  have c3 := hlx.c3
  have f1 := hlx.fr 1
  have f5 := hlx.fr 5
  have c5 := hlx.c5
  have HLX := hide hlx
  have HQ := hide hq
  clear hlx hq
  have HG := hide (grown_alloc hg)
  clear hg
  by_cases he : p1 = a.size
  · have heb : ((p1 : Int) == (a.size : Int)) = true := by simp; omega
    have HE := hide he
    clear he
    go_quiet (fail)
    go_wp2
    go_region
    all_goals go_wp2
    have hmin : (min ((p1 : Int) + 1) (a.size : Int)) = (a.size : Int) := by have := unhide HE; omega
    rw [hmin]
    refine next_end rfl (((((unhide HLX).drewN _).setPos a.size).setEnd true)) (rb_setCell (rb_setCell (unhide HRB) hne _ _) hne _ _) hne (Nat.le_refl _) (((grown_drewN (unhide HG) _).setB ⟨b, 1, none⟩ _ rfl).setB ⟨b, 5, none⟩ _ rfl) hp (Nat.le_refl _) (fun _ => rfl) (fun h => by cases h) ?_
    intro h hh
    have e1 := unhide HQ h hh
    have e2 := unhide HE
    omega
  · have heb : ((p1 : Int) == (a.size : Int)) = false := by simp; omega
    have hlt : p1 < a.size := by omega
    have hlt' : (p1 : Int) < a.size := by omega
    obtain ⟨c, hc⟩ : ∃ c : UInt8, (a[p1]'hlt) = c := ⟨_, rfl⟩
    have HC := hide hc
    clear he
    by_cases h59 : (c.toNat : Int) = 59
    · have h59' : ((c.toNat : Int) == 59) = true := by simpa using h59
      clear h59
      go_quiet (fail)
      go_wp2
      go_region
      all_goals go_wp2
      have hmin : (min ((p1 : Int) + 1) (a.size : Int)) = ((p1 + 1 : Nat) : Int) := by omega
      rw [hmin]
      refine next_end rfl (((((unhide HLX).drewN _).setPos (p1 + 1)).setEnd true)) (rb_setCell (rb_setCell (unhide HRB) hne _ _) hne _ _) hne (Nat.le_refl _) (((grown_drewN (unhide HG) _).setB ⟨b, 1, none⟩ _ rfl).setB ⟨b, 5, none⟩ _ rfl) (by omega) (by omega) (fun _ => rfl) (fun h => by cases h) ?_
      intro h hh
      have e1 := unhide HQ h hh
      subst e1
      rw [unhide HC] at hh
      simp at h59'
      simp [quoteB, h59'] at hh
    · have h59' : ((c.toNat : Int) == 59) = false := by simpa using h59
      clear h59
      cases hw : wordB (c.toNat : Int) with
      | true =>
        go_quiet (fail)
        go_wp2_with (go_at_call 30; refine (word_any _ _).mono ?_; rintro e w' ⟨rfl, rfl⟩)
        go_loopw [87] (fun _ wr => RelW a w b w.heap.size p1 bs aq ic1 wr) (fun _ wr => a.size - posOf b wr)
        case atStart => exact ⟨p1, Nat.le_refl _, hp2, (unhide HLX).drewN _, unhide HRB, grown_drewN (unhide HG) _⟩
        case round =>
          clear c0 c1 c2 c3 c5 f1 f5 r0 r1 r2 g0 g1 g2
          obtain ⟨p2, hp12, hp2n, hly, hrb, hgy⟩ := hrel
          have r0 := cell_of_row wr _ 0 _ _ _ hrb
          have r1 := cell_of_row wr _ 1 _ _ _ hrb
          have r2 := cell_of_row wr _ 2 _ _ _ hrb
          simp at r0 r1 r2
          have g0 := frozen_of_row wr _ 0 _ _ hrb
          have g1 := frozen_of_row wr _ 1 _ _ hrb
          have g2 := frozen_of_row wr _ 2 _ _ hrb
          have c0 := hly.c0
          have c1 := hly.c1
          have f1 := hly.fr 1
          have HLY := hide hly
          have HRY := hide hrb
          have HGY := hide hgy
          clear hly hrb hgy
          by_cases hl2 : p2 < a.size
          · have hl2' : (p2 : Int) < a.size := by omega
            obtain ⟨d, hd⟩ : ∃ d : UInt8, (a[p2]'hl2) = d := ⟨_, rfl⟩
            have HD := hide hd
            cases hwd : wordB (d.toNat : Int) with
            | true =>
              go_wp2
              go_quiet ((go_at_call 30; exact Calls.quiet_of_same (word_any _ _)))
              go_wp2
              have hl' := ((unhide HLY).drewN nq).setPos (p2 + 1)
              refine ⟨⟨p2 + 1, by omega, by omega, hl', rb_setCell (unhide HRY) hne _ _, (grown_drewN (unhide HGY) nq).setB ⟨b, 1, none⟩ _ rfl⟩, ?_⟩
              have e1 := hl'.pos
              rw [(unhide HLY).pos]
              show a.size - posOf b ((wr.drewN nq).setCell ⟨b, 1, none⟩ (.int .i64 ((p2 + 1 : Nat) : Int))) < _
              rw [e1]
              omega
            | false =>
              have hpp : p1 < p2 := by
                apply Decidable.byContradiction
                intro h
                obtain rfl : p1 = p2 := by omega
                have e : c = d := (unhide HC).symm.trans (unhide HD)
                rw [e, hwd] at hw
                cases hw
              have HW := hide hw
              go_wp2
              go_quiet ((go_at_call 30; exact Calls.quiet_of_same (word_any _ _)))
              go_wp2
              go_region
              all_goals go_wp2
              refine next_end rfl ((unhide HLY).drewN _) (unhide HRY) hne (Nat.le_refl _) (grown_drewN (unhide HGY) _) (by omega) (by omega) (fun h => by cases h) (fun _ => ⟨by decide, by omega⟩) ?_
              intro h hh
              have e1 := unhide HQ h hh
              subst e1
              rw [unhide HC, quote_noword (unhide HW)] at hh
              cases hh
          · have hpe : p2 = a.size := by omega
            have hnd : decide ((p2 : Int) < (a.size : Int)) = false := by simp; omega
            have HW := hide hw
            have hpp : p1 < p2 := by omega
            have hpe' : (p2 : Int) ≤ a.size := by omega
            clear hpe
            go_wp2
            go_quiet (fail)
            go_wp2
            go_region
            all_goals go_wp2
            refine next_end rfl ((unhide HLY).drewN _) (unhide HRY) hne (Nat.le_refl _) (grown_drewN (unhide HGY) _) (by omega) (by omega) (fun h => by cases h) (fun _ => ⟨by decide, by omega⟩) ?_
            intro h hh
            have e1 := unhide HQ h hh
            subst e1
            rw [unhide HC, quote_noword (unhide HW)] at hh
            cases hh
      | false =>
        by_cases h39 : (c.toNat : Int) = 39
        · have h39' : ((c.toNat : Int) == 39) = true := by simpa using h39
          have h34' : ((c.toNat : Int) == 34) = false := by simp; omega
          clear h39
          cases bs with
          | true =>
            obtain ⟨E, hE⟩ : ∃ E, qEnd (chr a) a.size (chr a p1) true a.size (p1 + 1) = E := ⟨_, rfl⟩
            have hE1 : p1 + 1 ≤ E := by rw [← hE]; exact qEnd_gt _ _ _ _ _ _ (by omega)
            have hE2 : E ≤ a.size := by rw [← hE]; exact qEnd_le _ _ _ _ _ _
            have HEE := hide hE
            go_quiet (fail)
            go_wp2_with (first | (go_at_call 30; refine (word_any _ _).mono ?_; rintro e w' ⟨rfl, rfl⟩) | (go_at_call 31; refine (quoteEnd_any a p1 true _ hs hlt).mono ?_; rintro e w' ⟨rfl, rfl⟩; rw [hE]))
            go_region
            all_goals go_wp2
            refine next_endD rfl (((unhide HLX).drewN _).setPos E) (rb_setCell (unhide HRB) hne _ _) hne (Nat.le_refl _) ((grown_drewN (unhide HG) _).setB ⟨b, 1, none⟩ _ rfl) (by omega) hE2 (fun h => by cases h) (fun _ => ⟨by decide, by omega⟩) ?_
            intro h hh
            have e1 := unhide HQ h hh
            subst e1
            refine ⟨rfl, ?_, by rw [unhide HEE]⟩
            rw [unhide HC]
            simp [escB, h39']
          | false =>
            obtain ⟨E, hE⟩ : ∃ E, qEnd (chr a) a.size (chr a p1) false a.size (p1 + 1) = E := ⟨_, rfl⟩
            have hE1 : p1 + 1 ≤ E := by rw [← hE]; exact qEnd_gt _ _ _ _ _ _ (by omega)
            have hE2 : E ≤ a.size := by rw [← hE]; exact qEnd_le _ _ _ _ _ _
            have HEE := hide hE
            go_quiet (fail)
            go_wp2_with (first | (go_at_call 30; refine (word_any _ _).mono ?_; rintro e w' ⟨rfl, rfl⟩) | (go_at_call 31; refine (quoteEnd_any a p1 false _ hs hlt).mono ?_; rintro e w' ⟨rfl, rfl⟩; rw [hE]))
            go_region
            all_goals go_wp2
            refine next_endD rfl (((unhide HLX).drewN _).setPos E) (rb_setCell (unhide HRB) hne _ _) hne (Nat.le_refl _) ((grown_drewN (unhide HG) _).setB ⟨b, 1, none⟩ _ rfl) (by omega) hE2 (fun h => by cases h) (fun _ => ⟨by decide, by omega⟩) ?_
            intro h hh
            have e1 := unhide HQ h hh
            subst e1
            refine ⟨rfl, ?_, by rw [unhide HEE]⟩
            rw [unhide HC]
            simp [escB]
        · have h39' : ((c.toNat : Int) == 39) = false := by simpa using h39
          clear h39
          by_cases h34 : (c.toNat : Int) = 34
          · have h34' : ((c.toNat : Int) == 34) = true := by simpa using h34
            clear h34
            cases bs with
            | true =>
              cases aq with
              | true =>
                obtain ⟨E, hE⟩ : ∃ E, qEnd (chr a) a.size (chr a p1) false a.size (p1 + 1) = E := ⟨_, rfl⟩
                have hE1 : p1 + 1 ≤ E := by rw [← hE]; exact qEnd_gt _ _ _ _ _ _ (by omega)
                have hE2 : E ≤ a.size := by rw [← hE]; exact qEnd_le _ _ _ _ _ _
                have HEE := hide hE
                go_quiet (fail)
                go_wp2_with (first | (go_at_call 30; refine (word_any _ _).mono ?_; rintro e w' ⟨rfl, rfl⟩) | (go_at_call 31; refine (quoteEnd_any a p1 false _ hs hlt).mono ?_; rintro e w' ⟨rfl, rfl⟩; rw [hE]))
                go_region
                all_goals go_wp2
                refine next_endD rfl (((unhide HLX).drewN _).setPos E) (rb_setCell (unhide HRB) hne _ _) hne (Nat.le_refl _) ((grown_drewN (unhide HG) _).setB ⟨b, 1, none⟩ _ rfl) (by omega) hE2 (fun h => by cases h) (fun _ => ⟨by decide, by omega⟩) ?_
                intro h hh
                have e1 := unhide HQ h hh
                subst e1
                refine ⟨rfl, ?_, by rw [unhide HEE]⟩
                rw [unhide HC]
                simp [escB, h39', h34']
              | false =>
                obtain ⟨E, hE⟩ : ∃ E, qEnd (chr a) a.size (chr a p1) true a.size (p1 + 1) = E := ⟨_, rfl⟩
                have hE1 : p1 + 1 ≤ E := by rw [← hE]; exact qEnd_gt _ _ _ _ _ _ (by omega)
                have hE2 : E ≤ a.size := by rw [← hE]; exact qEnd_le _ _ _ _ _ _
                have HEE := hide hE
                go_quiet (fail)
                go_wp2_with (first | (go_at_call 30; refine (word_any _ _).mono ?_; rintro e w' ⟨rfl, rfl⟩) | (go_at_call 31; refine (quoteEnd_any a p1 true _ hs hlt).mono ?_; rintro e w' ⟨rfl, rfl⟩; rw [hE]))
                go_region
                all_goals go_wp2
                refine next_endD rfl (((unhide HLX).drewN _).setPos E) (rb_setCell (unhide HRB) hne _ _) hne (Nat.le_refl _) ((grown_drewN (unhide HG) _).setB ⟨b, 1, none⟩ _ rfl) (by omega) hE2 (fun h => by cases h) (fun _ => ⟨by decide, by omega⟩) ?_
                intro h hh
                have e1 := unhide HQ h hh
                subst e1
                refine ⟨rfl, ?_, by rw [unhide HEE]⟩
                rw [unhide HC]
                simp [escB, h39', h34']
            | false =>
              obtain ⟨E, hE⟩ : ∃ E, qEnd (chr a) a.size (chr a p1) false a.size (p1 + 1) = E := ⟨_, rfl⟩
              have hE1 : p1 + 1 ≤ E := by rw [← hE]; exact qEnd_gt _ _ _ _ _ _ (by omega)
              have hE2 : E ≤ a.size := by rw [← hE]; exact qEnd_le _ _ _ _ _ _
              have HEE := hide hE
              go_quiet (fail)
              go_wp2_with (first | (go_at_call 30; refine (word_any _ _).mono ?_; rintro e w' ⟨rfl, rfl⟩) | (go_at_call 31; refine (quoteEnd_any a p1 false _ hs hlt).mono ?_; rintro e w' ⟨rfl, rfl⟩; rw [hE]))
              go_region
              all_goals go_wp2
              refine next_endD rfl (((unhide HLX).drewN _).setPos E) (rb_setCell (unhide HRB) hne _ _) hne (Nat.le_refl _) ((grown_drewN (unhide HG) _).setB ⟨b, 1, none⟩ _ rfl) (by omega) hE2 (fun h => by cases h) (fun _ => ⟨by decide, by omega⟩) ?_
              intro h hh
              have e1 := unhide HQ h hh
              subst e1
              refine ⟨rfl, ?_, by rw [unhide HEE]⟩
              rw [unhide HC]
              simp [escB]
          · have h34' : ((c.toNat : Int) == 34) = false := by simpa using h34
            clear h34
            by_cases h96 : (c.toNat : Int) = 96
            · have h96' : ((c.toNat : Int) == 96) = true := by simpa using h96
              clear h96
              obtain ⟨E, hE⟩ : ∃ E, qEnd (chr a) a.size (chr a p1) false a.size (p1 + 1) = E := ⟨_, rfl⟩
              have hE1 : p1 + 1 ≤ E := by rw [← hE]; exact qEnd_gt _ _ _ _ _ _ (by omega)
              have hE2 : E ≤ a.size := by rw [← hE]; exact qEnd_le _ _ _ _ _ _
              have HEE := hide hE
              go_quiet (fail)
              go_wp2_with (first | (go_at_call 30; refine (word_any _ _).mono ?_; rintro e w' ⟨rfl, rfl⟩) | (go_at_call 31; refine (quoteEnd_any a p1 false _ hs hlt).mono ?_; rintro e w' ⟨rfl, rfl⟩; rw [hE]))
              go_region
              all_goals go_wp2
              refine next_endD rfl (((unhide HLX).drewN _).setPos E) (rb_setCell (unhide HRB) hne _ _) hne (Nat.le_refl _) ((grown_drewN (unhide HG) _).setB ⟨b, 1, none⟩ _ rfl) (by omega) hE2 (fun h => by cases h) (fun _ => ⟨by decide, by omega⟩) ?_
              intro h hh
              have e1 := unhide HQ h hh
              subst e1
              refine ⟨rfl, ?_, by rw [unhide HEE]⟩
              rw [unhide HC]
              simp [escB, h39', h34']
            · have h96' : ((c.toNat : Int) == 96) = false := by simpa using h96
              clear h96
              go_quiet (fail)
              go_wp2_with (go_at_call 30; refine (word_any _ _).mono ?_; rintro e w' ⟨rfl, rfl⟩)
              go_region
              all_goals go_wp2
              refine next_endD rfl (((unhide HLX).drewN _).setPos (p1 + 1)) (rb_setCell (unhide HRB) hne _ _) hne (Nat.le_refl _) ((grown_drewN (unhide HG) _).setB ⟨b, 1, none⟩ _ rfl) (by omega) (by omega) (fun h => by cases h) (fun _ => ⟨by decide, by omega⟩) ?_
              intro h hh
              have e1 := unhide HQ h hh
              subst e1
              rw [unhide HC] at hh
              simp [quoteB, h39', h34', h96'] at hh
end Go.Proofs.Qxb6001402a
