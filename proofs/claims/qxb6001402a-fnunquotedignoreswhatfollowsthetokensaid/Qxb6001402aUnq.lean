import Derived.Test.Qxb6001402aQuote
import Derived.Test.Qxb6001402aBuild
import Derived.WalkLawsBesides
namespace Go.Proofs.Qxb6001402a
open Go.RowKit
set_option linter.unusedVariables false
set_option linter.unusedSimpArgs false

/-- what a backslash and a byte stand for -/
def unescF (c : Int) : ByteArray :=
  if c = 48 then ⟨#[0]⟩ else if c = 98 then ⟨#[8]⟩ else if c = 110 then ⟨#[10]⟩ else if c = 114 then ⟨#[13]⟩ else if c = 116 then ⟨#[9]⟩ else if c = 90 then ⟨#[26]⟩
  else if c = 37 ∨ c = 95 then ⟨#[92]⟩ ++ Utf8.encode c else Utf8.encode c

theorem enc_size : ∀ n : Fin 256, (Utf8.encode (n.val : Int)).size ≤ 4 := by decide +kernel

theorem unesc_size (c : Int) (h0 : 0 ≤ c) (h1 : c < 256) : (unescF c).size ≤ 8 := by
  obtain ⟨n, rfl⟩ := Int.eq_ofNat_of_zero_le h0
  have h := enc_size ⟨n, by omega⟩
  have h2 : ((⟨#[92]⟩ : ByteArray) ++ Utf8.encode (n : Int)).size = 1 + (Utf8.encode (n : Int)).size := by simp; rfl
  unfold unescF
  repeat' split
  all_goals first | decide | (rw [h2]; simp at h; omega) | (simp at h; omega)

theorem ret_str {a b : ByteArray} (h : a = b) : Ending.returned (.string a) = .returned (.string b) := by rw [h]

set_option maxHeartbeats 1000000 in
theorem unescape_any (c : Int) (w : World) (h0 : 0 ≤ c) (h1 : c < 256) : Calls Try.prog 33 #[.int .u8 c] w fun e w' => e = .returned (.string (unescF c)) ∧ w' = w := by
  have hsz : (Utf8.encode c).size ≤ 4 := by
    obtain ⟨n, rfl⟩ := Int.eq_ofNat_of_zero_le h0
    exact enc_size ⟨n, by omega⟩
  go_enter Try.func33, Try.ntmps33
  go_wp2
  all_goals (go_ret; refine ⟨ret_str ?_, rfl⟩; simp_all [unescF])

/-- the value of a quoted token, read from place i on -/
def uqF (ch : Nat → Nat) (n q : Nat) (es : Bool) : Nat → Nat → List UInt8 → List UInt8
  | 0, _, acc => acc
  | f + 1, i, acc => if i < n then
      if ch i = 92 ∧ es = true ∧ i + 1 < n then uqF ch n q es f (i + 2) (acc ++ (unescF (ch (i + 1) : Nat)).data.toList)
      else if ch i = q ∧ i + 1 < n ∧ ch (i + 1) = q then uqF ch n q es f (i + 2) (acc ++ [q.toUInt8])
      else if ch i = q then acc
      else uqF ch n q es f (i + 1) (acc ++ [(ch i).toUInt8])
    else acc

theorem uqF_past (ch : Nat → Nat) (n q : Nat) (es : Bool) (f i : Nat) (acc : List UInt8) (h : n ≤ i) : uqF ch n q es f i acc = acc := by
  cases f with
  | zero => rfl
  | succ f => rw [uqF, if_neg (by omega)]

theorem uqF_congr (ch ch' : Nat → Nat) (n q : Nat) (es : Bool) (h : ∀ k, k < n → ch k = ch' k) (f i : Nat) (acc : List UInt8) : uqF ch n q es f i acc = uqF ch' n q es f i acc := by
  induction f generalizing i acc with
  | zero => rfl
  | succ f ih =>
    simp only [uqF]
    by_cases hi : i < n
    · rw [if_pos hi, if_pos hi, h i hi]
      by_cases hi1 : i + 1 < n
      · rw [h (i + 1) hi1]
        split
        · exact ih _ _
        · split
          · exact ih _ _
          · split
            · rfl
            · exact ih _ _
      · have e1 : ¬ (ch' i = 92 ∧ es = true ∧ i + 1 < n) := fun h => hi1 h.2.2
        have e2 : ∀ x, ¬ (ch' i = q ∧ i + 1 < n ∧ x = q) := fun x h => hi1 h.2.1
        rw [if_neg e1, if_neg e1, if_neg (e2 _), if_neg (e2 _)]
        split
        · rfl
        · exact ih _ _
    · rw [if_neg hi, if_neg hi]

theorem qEnd_past (ch : Nat → Nat) (n q : Nat) (es : Bool) (f i : Nat) (h : n ≤ i) : qEnd ch n q es f i = n := by
  cases f with
  | zero => rfl
  | succ f => rw [qEnd, if_neg (by omega)]

/-- what follows the token does not matter -/
theorem uqF_cut (ch : Nat → Nat) (n q e : Nat) (es : Bool) (f i : Nat) (acc : List UInt8) (hf : n ≤ i + f) (he : qEnd ch n q es f i = e) (hen : e < n) : uqF ch n q es f i acc = uqF ch e q es f i acc := by
  induction f generalizing i acc with
  | zero => rw [qEnd] at he; omega
  | succ f ih =>
    by_cases hi : i < n
    · rw [qEnd, if_pos hi] at he
      rw [uqF, uqF, if_pos hi]
      by_cases h1 : ch i = 92 ∧ es = true
      · rw [if_pos h1] at he
        have h2 : i + 2 ≤ n := by
          apply Decidable.byContradiction
          intro h
          rw [qEnd_past _ _ _ _ _ _ (by omega)] at he
          omega
        have h3 := qEnd_gt ch n q es f (i + 2) h2
        rw [he] at h3
        rw [if_pos ⟨h1.1, h1.2, by omega⟩, if_pos (by omega), if_pos ⟨h1.1, h1.2, by omega⟩]
        exact ih _ _ (by omega) he
      · rw [if_neg h1] at he
        rw [if_neg (fun h => h1 ⟨h.1, h.2.1⟩)]
        by_cases h2 : ch i = q ∧ i + 1 < n ∧ ch (i + 1) = q
        · rw [if_pos h2] at he
          have h3 := qEnd_gt ch n q es f (i + 2) (by omega)
          rw [he] at h3
          rw [if_pos h2, if_pos (by omega), if_neg (fun h => h1 ⟨h.1, h.2.1⟩), if_pos ⟨h2.1, by omega, h2.2.2⟩]
          exact ih _ _ (by omega) he
        · rw [if_neg h2] at he
          rw [if_neg h2]
          by_cases h3 : ch i = q
          · rw [if_pos h3] at he
            rw [if_pos h3, if_pos (by omega), if_neg (fun h => h1 ⟨h.1, h.2.1⟩), if_neg (by omega), if_pos h3]
          · rw [if_neg h3] at he
            have h4 := qEnd_gt ch n q es f (i + 1) (by omega)
            rw [he] at h4
            rw [if_neg h3, if_pos (by omega), if_neg (fun h => h1 ⟨h.1, h.2.1⟩), if_neg (fun h => h3 h.1), if_neg h3]
            exact ih _ _ (by omega) he
    · rw [qEnd_past _ _ _ _ _ _ (by omega)] at he
      omega
end Go.Proofs.Qxb6001402a
