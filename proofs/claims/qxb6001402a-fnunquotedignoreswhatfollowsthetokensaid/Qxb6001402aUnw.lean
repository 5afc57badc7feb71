import Derived.Test.Qxb6001402aUnq
namespace Go.Proofs.Qxb6001402a
open Go.RowKit
set_option linter.unusedVariables false
set_option linter.unusedSimpArgs false

def tokBox (t : ByteArray) (es : Bool) : Obj := .cells #[.int .i64 2, .string t, .bool es] 38

def RelQ (t : ByteArray) (es : Bool) (qn : Nat) (w : World) (R : List UInt8) (vi : Value) (wr : World) : Prop :=
  ∃ (i f : Nat) (acc : List UInt8), vi = .int .i64 (i : Int) ∧ i ≤ t.size ∧ t.size ≤ i + 1 + f ∧ uqF (chr t) t.size qn es f (i + 1) acc = R ∧ acc.length ≤ 8 * i ∧
    Lib.IsBuilderF 49 5 (w.heap.size + 1) (w.heap.size + 1) (Lib.byteCells acc) wr ∧ Below (w.heap.size + 1) (w.alloc (tokBox t es)) wr ∧ w.heap.size + 1 ≤ wr.heap.size

theorem ext1_at (t : ByteArray) (i : Nat) (h : i < t.size - 1) : (t.extract 1 t.size)[i]'(by simp; omega) = t[1 + i]'(by omega) := by
  simp [ByteArray.getElem_extract]

theorem below_tok {t : ByteArray} {es : Bool} {w wr : World} (h : Below (w.heap.size + 1) (w.alloc (tokBox t es)) wr) : Below w.heap.size w wr :=
  ((Below.refl _ w).alloc (Nat.le_refl _) (tokBox t es)).trans (h.mono (by omega))

theorem toU8 (x : UInt8) : x.toNat.toUInt8 = x := by simp
theorem byte_snoc (l : List UInt8) (x : UInt8) : Lib.byteCells l ++ [Value.int .u8 (x.toNat : Int)] = Lib.byteCells (l ++ [x]) := by simp [Lib.byteCells]

set_option maxRecDepth 100000 in
set_option maxHeartbeats 1000000 in
theorem unquoted_any (t : ByteArray) (es : Bool) (w : World) (hs : t.size ≤ 1048576) (h1 : 0 < t.size) (F : Nat) (hF : t.size ≤ F) :
    Calls Try.prog 24 #[.agg #[.int .i64 2, .string t, .bool es]] w fun e w' => e = .returned (.string ⟨(uqF (chr t) t.size (chr t 0) es F 1 []).toArray⟩) ∧ Below w.heap.size w w' := by
  obtain ⟨R, hR⟩ : ∃ R, uqF (chr t) t.size (chr t 0) es F 1 [] = R := ⟨_, rfl⟩
  rw [hR]
  have HR := hide hR
  clear hR
  obtain ⟨q, hq⟩ : ∃ q : UInt8, (t[0]'h1) = q := ⟨_, rfl⟩
  have HQ : Hid (chr t 0 = q.toNat) := by rw [← chr_at t 0 h1, hq]; exact hide rfl
  have hti : (1 : Int) ≤ t.size := by omega
  go_enter Try.func24, Try.ntmps24
  go_wp2_with fail
  go_loopw [6] (fun vi wr => RelQ t es q.toNat w R vi wr) (fun vi _ => t.size - (intOf vi).toNat)
  case atStart =>
    refine ⟨0, F, [], rfl, by omega, by omega, by rw [← unhide HQ]; exact unhide HR, by simp, Lib.IsBuilderF.of ?_, ?_, by simp⟩
    · have := Lib.fresh_isBuilder 49 5 (w.alloc (tokBox t es))
      simp only [World.size_alloc] at this
      exact this
    · exact (Below.refl _ _).alloc (by simp) _
  case round =>
    obtain ⟨i, f, acc, rfl, hi, hf, hun, hal, hbd, hbel, hsz⟩ := hrel
    have ce : wr.cell? ⟨w.heap.size, 2, none⟩ = some (.bool es) := by rw [hbel.cell (p := ⟨w.heap.size, 2, none⟩) (by simp)]; simp [tokBox]
    have HBD := hide hbd
    clear hbd
    have hbw := below_tok hbel
    by_cases hl : i < t.size - 1
    · obtain ⟨c, hc⟩ : ∃ c : UInt8, (t.extract 1 t.size)[i]'(by simp; omega) = c := ⟨_, rfl⟩
      have HC : Hid (chr t (i + 1) = c.toNat) := by rw [← hc, ext1_at t i hl, ← chr_at t (i + 1) (by omega)]; congr 2; omega
      obtain ⟨f, rfl⟩ : ∃ g, f = g + 1 := ⟨f - 1, by omega⟩
      rw [uqF, if_pos (by omega), unhide HC] at hun
      by_cases h92 : c.toNat = 92
      · have h92' : ((c.toNat : Int) == 92) = true := by simp; omega
        cases es with
        | true =>
          by_cases hl1 : i + 1 < t.size - 1
          · have hl1' : (i : Int) + 1 < ((t.size - 1 : Nat) : Int) := by omega
            obtain ⟨d, hd⟩ : ∃ d : UInt8, (t.extract 1 t.size)[i + 1]'(by simp; omega) = d := ⟨_, rfl⟩
            have HD : Hid (chr t (i + 1 + 1) = d.toNat) := by rw [← hd, ext1_at t (i + 1) hl1, ← chr_at t (i + 1 + 1) (by omega)]; congr 2; omega
            rw [if_pos ⟨h92, rfl, by omega⟩, unhide HD] at hun
            have HU := hide hun
            clear hun h92
            have hds := unesc_size (d.toNat : Int) (by omega) (byte_lt d)
            go_wp2_with (go_at_call 33; refine (unescape_any _ _ (by omega) (byte_lt _)).mono ?_; rintro e w1 ⟨rfl, rfl⟩)
            refine (Try.WriteString_k _ _ _ _ _ (unhide HBD) (by rw [Lib.byteCells_length]; omega) hsz).mono ?_
            rintro e w2 ⟨rfl, hb2, hbel2, _⟩
            rw [Lib.strCells_eq, ← Lib.byteCells_append] at hb2
            have HB2 := hide hb2
            clear hb2
            have hsz2 := hbel2.size
            go_wp2
            exact ⟨⟨i + 2, f, _, by go_num, by omega, by omega, unhide HU, by simp; omega, unhide HB2, hbel.trans hbel2, by omega⟩, by simp [intOf]; omega⟩
          · have hl1' : ¬ (i : Int) + 1 < ((t.size - 1 : Nat) : Int) := by omega
            clear h92
            by_cases hcq : c.toNat = q.toNat
            · have hcq' : ((c.toNat : Int) == (q.toNat : Int)) = true := by simp; omega
              rw [if_neg (by omega), if_neg (by omega), if_pos hcq] at hun
              clear hcq
              have HU := hide hun
              clear hun
              go_wp2_with fail
              refine (Try.String_any_k _ _ acc _ (unhide HBD) hsz).mono ?_
              rintro e w2 ⟨rfl, _, hbel2, _⟩
              go_wp2
              go_ret
              exact ⟨by rw [← unhide HU]; rfl, hbw.trans (hbel2.mono (by omega))⟩
            · have hcq' : ((c.toNat : Int) == (q.toNat : Int)) = false := by simp; omega
              rw [if_neg (by omega), if_neg (fun h => hcq h.1), if_neg hcq, toU8] at hun
              have HU := hide hun
              clear hun hcq
              go_wp2_with fail
              refine (Try.WriteByte_k _ _ _ _ _ (unhide HBD) (by rw [Lib.byteCells_length]; omega) hsz).mono ?_
              rintro e w2 ⟨rfl, hb2, hbel2, _⟩
              rw [byte_snoc] at hb2
              have HB2 := hide hb2
              clear hb2
              have hsz2 := hbel2.size
              go_wp2
              exact ⟨⟨i + 1, f, _, by go_num, by omega, by omega, unhide HU, by simp; omega, unhide HB2, hbel.trans hbel2, by omega⟩, by simp [intOf]; omega⟩
        | false =>
          clear h92
          by_cases hcq : c.toNat = q.toNat
          · have hcq' : ((c.toNat : Int) == (q.toNat : Int)) = true := by simp; omega
            by_cases hl1 : i + 1 < t.size - 1
            · have hl1' : (i : Int) + 1 < ((t.size - 1 : Nat) : Int) := by omega
              obtain ⟨d, hd⟩ : ∃ d : UInt8, (t.extract 1 t.size)[i + 1]'(by simp; omega) = d := ⟨_, rfl⟩
              have HD : Hid (chr t (i + 1 + 1) = d.toNat) := by rw [← hd, ext1_at t (i + 1) hl1, ← chr_at t (i + 1 + 1) (by omega)]; congr 2; omega
              rw [if_neg (by simp), unhide HD] at hun
              by_cases hdq : d.toNat = q.toNat
              · have hdq' : ((d.toNat : Int) == (q.toNat : Int)) = true := by simp; omega
                rw [if_pos ⟨hcq, by omega, hdq⟩, toU8] at hun
                have HU := hide hun
                clear hun hcq hdq
                go_wp2_with fail
                refine (Try.WriteByte_k _ _ _ _ _ (unhide HBD) (by rw [Lib.byteCells_length]; omega) hsz).mono ?_
                rintro e w2 ⟨rfl, hb2, hbel2, _⟩
                rw [byte_snoc] at hb2
                have HB2 := hide hb2
                clear hb2
                have hsz2 := hbel2.size
                go_wp2
                exact ⟨⟨i + 2, f, _, by go_num, by omega, by omega, unhide HU, by simp; omega, unhide HB2, hbel.trans hbel2, by omega⟩, by simp [intOf]; omega⟩
              · have hdq' : ((d.toNat : Int) == (q.toNat : Int)) = false := by simp; omega
                rw [if_neg (by omega), if_pos hcq] at hun
                clear hcq hdq
                have HU := hide hun
                clear hun
                go_wp2_with fail
                refine (Try.String_any_k _ _ acc _ (unhide HBD) hsz).mono ?_
                rintro e w2 ⟨rfl, _, hbel2, _⟩
                go_wp2
                go_ret
                exact ⟨by rw [← unhide HU]; rfl, hbw.trans (hbel2.mono (by omega))⟩
            · have hl1' : ¬ (i : Int) + 1 < ((t.size - 1 : Nat) : Int) := by omega
              rw [if_neg (by simp), if_neg (by omega), if_pos hcq] at hun
              clear hcq
              have HU := hide hun
              clear hun
              go_wp2_with fail
              refine (Try.String_any_k _ _ acc _ (unhide HBD) hsz).mono ?_
              rintro e w2 ⟨rfl, _, hbel2, _⟩
              go_wp2
              go_ret
              exact ⟨by rw [← unhide HU]; rfl, hbw.trans (hbel2.mono (by omega))⟩
          · have hcq' : ((c.toNat : Int) == (q.toNat : Int)) = false := by simp; omega
            rw [if_neg (by simp), if_neg (fun h => hcq h.1), if_neg hcq, toU8] at hun
            have HU := hide hun
            clear hun hcq
            go_wp2_with fail
            refine (Try.WriteByte_k _ _ _ _ _ (unhide HBD) (by rw [Lib.byteCells_length]; omega) hsz).mono ?_
            rintro e w2 ⟨rfl, hb2, hbel2, _⟩
            rw [byte_snoc] at hb2
            have HB2 := hide hb2
            clear hb2
            have hsz2 := hbel2.size
            go_wp2
            exact ⟨⟨i + 1, f, _, by go_num, by omega, by omega, unhide HU, by simp; omega, unhide HB2, hbel.trans hbel2, by omega⟩, by simp [intOf]; omega⟩
      · have h92' : ((c.toNat : Int) == 92) = false := by simp; omega
        by_cases hcq : c.toNat = q.toNat
        · have hcq' : ((c.toNat : Int) == (q.toNat : Int)) = true := by simp; omega
          by_cases hl1 : i + 1 < t.size - 1
          · have hl1' : (i : Int) + 1 < ((t.size - 1 : Nat) : Int) := by omega
            obtain ⟨d, hd⟩ : ∃ d : UInt8, (t.extract 1 t.size)[i + 1]'(by simp; omega) = d := ⟨_, rfl⟩
            have HD : Hid (chr t (i + 1 + 1) = d.toNat) := by rw [← hd, ext1_at t (i + 1) hl1, ← chr_at t (i + 1 + 1) (by omega)]; congr 2; omega
            rw [if_neg (fun h => h92 h.1), unhide HD] at hun
            by_cases hdq : d.toNat = q.toNat
            · have hdq' : ((d.toNat : Int) == (q.toNat : Int)) = true := by simp; omega
              rw [if_pos ⟨hcq, by omega, hdq⟩, toU8] at hun
              have HU := hide hun
              clear hun hcq hdq
              go_wp2_with fail
              refine (Try.WriteByte_k _ _ _ _ _ (unhide HBD) (by rw [Lib.byteCells_length]; omega) hsz).mono ?_
              rintro e w2 ⟨rfl, hb2, hbel2, _⟩
              rw [byte_snoc] at hb2
              have HB2 := hide hb2
              clear hb2
              have hsz2 := hbel2.size
              go_wp2
              exact ⟨⟨i + 2, f, _, by go_num, by omega, by omega, unhide HU, by simp; omega, unhide HB2, hbel.trans hbel2, by omega⟩, by simp [intOf]; omega⟩
            · have hdq' : ((d.toNat : Int) == (q.toNat : Int)) = false := by simp; omega
              rw [if_neg (by omega), if_pos hcq] at hun
              clear hcq hdq
              have HU := hide hun
              clear hun
              go_wp2_with fail
              refine (Try.String_any_k _ _ acc _ (unhide HBD) hsz).mono ?_
              rintro e w2 ⟨rfl, _, hbel2, _⟩
              go_wp2
              go_ret
              exact ⟨by rw [← unhide HU]; rfl, hbw.trans (hbel2.mono (by omega))⟩
          · have hl1' : ¬ (i : Int) + 1 < ((t.size - 1 : Nat) : Int) := by omega
            rw [if_neg (fun h => h92 h.1), if_neg (by omega), if_pos hcq] at hun
            clear hcq
            have HU := hide hun
            clear hun
            go_wp2_with fail
            refine (Try.String_any_k _ _ acc _ (unhide HBD) hsz).mono ?_
            rintro e w2 ⟨rfl, _, hbel2, _⟩
            go_wp2
            go_ret
            exact ⟨by rw [← unhide HU]; rfl, hbw.trans (hbel2.mono (by omega))⟩
        · have hcq' : ((c.toNat : Int) == (q.toNat : Int)) = false := by simp; omega
          rw [if_neg (fun h => h92 h.1), if_neg (fun h => hcq h.1), if_neg hcq, toU8] at hun
          have HU := hide hun
          clear hun hcq
          go_wp2_with fail
          refine (Try.WriteByte_k _ _ _ _ _ (unhide HBD) (by rw [Lib.byteCells_length]; omega) hsz).mono ?_
          rintro e w2 ⟨rfl, hb2, hbel2, _⟩
          rw [byte_snoc] at hb2
          have HB2 := hide hb2
          clear hb2
          have hsz2 := hbel2.size
          go_wp2
          exact ⟨⟨i + 1, f, _, by go_num, by omega, by omega, unhide HU, by simp; omega, unhide HB2, hbel.trans hbel2, by omega⟩, by simp [intOf]; omega⟩
    · have hRa : R = acc := by rw [← hun]; exact uqF_past _ _ _ _ _ _ _ (by omega)
      subst hRa
      clear hun HR
      go_wp2_with fail
      refine (Try.String_any_k _ _ R _ (unhide HBD) hsz).mono ?_
      rintro e w2 ⟨rfl, _, hbel2, _⟩
      go_wp2
      go_ret
      exact ⟨rfl, hbw.trans (hbel2.mono (by omega))⟩
end Go.Proofs.Qxb6001402a
