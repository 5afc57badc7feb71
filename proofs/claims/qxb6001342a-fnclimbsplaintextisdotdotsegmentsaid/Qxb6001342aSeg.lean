import Derived.Test.Qxb6001342aBits
namespace Go.Proofs.Qxb6001342a
open Go.RowKit
set_option linter.unusedVariables false
set_option linter.unusedSimpArgs false

/-- the one state of a text without glob syntax -/
def st (ch : Nat → Nat) : Nat → Int
  | 0 => 1
  | k + 1 => afterF (st ch k) (ch k) true

def globs : List Nat := [42, 63, 91, 93, 123, 125, 40, 41, 33, 92, 64, 43, 44]

def Plain (ch : Nat → Nat) (n : Nat) : Prop := ∀ k, k < n → ch k ∉ globs

theorem Plain.ne {ch : Nat → Nat} {n k : Nat} (h : Plain ch n) (hk : k < n) (x : Nat) (hx : x ∈ globs) : ch k ≠ x := fun e => h k hk (e ▸ hx)

/-- the state at place i of a segment that begins at place s -/
def seg (ch : Nat → Nat) (s i : Nat) : Int :=
  if i = s then 1 else if i = s + 1 then (if ch s = 46 then 2 else 8) else if i = s + 2 then (if ch s = 46 ∧ ch (s + 1) = 46 then 4 else 8) else 8

theorem after_plain (x c : Int) (h : x = 1 ∨ x = 2 ∨ x = 4 ∨ x = 8 ∨ x = 64) (h1 : c ≠ 42) (h2 : c ≠ 63) (h3 : c ≠ 91) (h4 : c ≠ 43) (h5 : c ≠ 64) (h6 : c ≠ 33) :
    afterF x c true = if x = 64 then 64 else if c = 47 then (if x = 4 then 64 else 1) else if c = 46 ∧ x = 1 then 2 else if c = 46 ∧ x = 2 then 4 else 8 := by
  rcases h with rfl | rfl | rfl | rfl | rfl <;> simp [afterF, h1, h2, h3, h4, h5, h6] <;> split <;> simp_all

theorem seg_vals (ch : Nat → Nat) (s i : Nat) : seg ch s i = 1 ∨ seg ch s i = 2 ∨ seg ch s i = 4 ∨ seg ch s i = 8 := by
  unfold seg
  repeat' split
  all_goals simp

theorem seg_next (ch : Nat → Nat) (s i : Nat) (hs : s ≤ i) (h1 : ch i ≠ 42) (h2 : ch i ≠ 63) (h3 : ch i ≠ 91) (h4 : ch i ≠ 43) (h5 : ch i ≠ 64) (h6 : ch i ≠ 33) (h7 : ch i ≠ 47) :
    afterF (seg ch s i) (ch i) true = seg ch s (i + 1) := by
  rw [after_plain _ _ (by rcases seg_vals ch s i with h | h | h | h <;> simp [h]) (by omega) (by omega) (by omega) (by omega) (by omega) (by omega)]
  by_cases e0 : i = s
  · subst e0
    simp [seg]
    by_cases hd : ch i = 46
    · simp [hd]
    · have hd' : ¬ (ch i : Int) = 46 := by omega
      have h47 : ¬ (ch i : Int) = 47 := by omega
      simp [hd, hd', h47]
  · by_cases e1 : i = s + 1
    · subst e1
      simp [seg]
      have h47 : ¬ (ch (s + 1) : Int) = 47 := by omega
      have hss : ¬ s + 1 + 1 = s := by omega
      by_cases ha : ch s = 46
      · by_cases hd : ch (s + 1) = 46
        · simp [ha, hd, hss]
        · have hd' : ¬ (ch (s + 1) : Int) = 46 := by omega
          simp [ha, hd, hd', h47, hss]
      · simp [ha, h47, hss]
    · have h47 : ¬ (ch i : Int) = 47 := by omega
      have e3 : seg ch s (i + 1) = 8 := by simp [seg, e1]; omega
      rw [e3]
      have e4 : seg ch s i = 4 ∨ seg ch s i = 8 := by
        simp only [seg, if_neg e0, if_neg e1]
        repeat' split
        all_goals simp
      rcases e4 with h | h <;> simp [h, h47]

theorem seg_slash (ch : Nat → Nat) (s i : Nat) : afterF (seg ch s i) 47 true = if seg ch s i = 4 then 64 else 1 := by
  rcases seg_vals ch s i with h | h | h | h <;> simp [h, afterF]

theorem st_climbed (ch : Nat → Nat) (k j : Nat) (h : st ch k = 64) : st ch (k + j) = 64 := by
  induction j with
  | zero => exact h
  | succ j ih => rw [← Nat.add_assoc, st, ih]; simp [afterF]

theorem st_vals (ch : Nat → Nat) (n k : Nat) (hp : Plain ch n) (hk : k ≤ n) : st ch k = 1 ∨ st ch k = 2 ∨ st ch k = 4 ∨ st ch k = 8 ∨ st ch k = 64 := by
  induction k with
  | zero => simp [st]
  | succ k ih =>
    have ne := hp.ne (k := k) (by omega)
    rw [st, after_plain _ _ (ih (by omega)) (by have := ne 42 (by decide); omega) (by have := ne 63 (by decide); omega) (by have := ne 91 (by decide); omega) (by have := ne 43 (by decide); omega) (by have := ne 64 (by decide); omega) (by have := ne 33 (by decide); omega)]
    repeat' split
    all_goals simp

theorem or_zero (y : Int) (h : 0 ≤ y ∧ y < 128) : bits .or .u8 0 y = y := by
  obtain ⟨Y, rfl⟩ := Int.eq_ofNat_of_zero_le h.1
  have := u8_or_nat 0 Y (by omega) (by omega)
  simpa using this

theorem step_one (x c : Int) (syn : Bool) (h : x = 1 ∨ x = 2 ∨ x = 4 ∨ x = 8 ∨ x = 64) : stepTo x c syn 7 = afterF x c syn := by
  have bd := fun y (hy : 0 ≤ y ∧ y ≤ 64) => or_zero _ (after_bd y c syn hy)
  rcases h with rfl | rfl | rfl | rfl | rfl
  · simp [stepTo, pw, show bits .and .u8 1 1 = 1 by decide, show bits .and .u8 1 2 = 0 by decide, show bits .and .u8 1 4 = 0 by decide, show bits .and .u8 1 8 = 0 by decide, show bits .and .u8 1 16 = 0 by decide, show bits .and .u8 1 32 = 0 by decide, show bits .and .u8 1 64 = 0 by decide, bd 1]
  · simp [stepTo, pw, show bits .and .u8 2 1 = 0 by decide, show bits .and .u8 2 2 = 2 by decide, show bits .and .u8 2 4 = 0 by decide, show bits .and .u8 2 8 = 0 by decide, show bits .and .u8 2 16 = 0 by decide, show bits .and .u8 2 32 = 0 by decide, show bits .and .u8 2 64 = 0 by decide, bd 2]
  · simp [stepTo, pw, show bits .and .u8 4 1 = 0 by decide, show bits .and .u8 4 2 = 0 by decide, show bits .and .u8 4 4 = 4 by decide, show bits .and .u8 4 8 = 0 by decide, show bits .and .u8 4 16 = 0 by decide, show bits .and .u8 4 32 = 0 by decide, show bits .and .u8 4 64 = 0 by decide, bd 4]
  · simp [stepTo, pw, show bits .and .u8 8 1 = 0 by decide, show bits .and .u8 8 2 = 0 by decide, show bits .and .u8 8 4 = 0 by decide, show bits .and .u8 8 8 = 8 by decide, show bits .and .u8 8 16 = 0 by decide, show bits .and .u8 8 32 = 0 by decide, show bits .and .u8 8 64 = 0 by decide, bd 8]
  · simp [stepTo, pw, show bits .and .u8 64 1 = 0 by decide, show bits .and .u8 64 2 = 0 by decide, show bits .and .u8 64 4 = 0 by decide, show bits .and .u8 64 8 = 0 by decide, show bits .and .u8 64 16 = 0 by decide, show bits .and .u8 64 32 = 0 by decide, show bits .and .u8 64 64 = 64 by decide, bd 64]

theorem keeps_plain (ch : Nat → Nat) (n : Nat) (hp : Plain ch n) : Keeps ch n (fun i s op => op = [] ∧ s = st ch i) := by
  refine ⟨⟨rfl, rfl⟩, ?_, ?_, ?_, ?_, ?_⟩
  · intro i s op hi h; exact absurd h (hp.ne (by omega) 92 (by decide))
  · intro i s op hi h; exact absurd h (hp.ne (by omega) 123 (by decide))
  · intro i s op b f hi h; exact absurd h (hp.ne (by omega) 44 (by decide))
  · intro i s op b f hi h; exact absurd h (hp.ne (by omega) 125 (by decide))
  · intro i s op syn hi _ h91 h
    obtain ⟨rfl, rfl⟩ := h
    cases syn with
    | false => exact absurd (h91 rfl) (hp.ne (by omega) 91 (by decide))
    | true => exact ⟨rfl, by rw [step_one _ _ _ (st_vals ch n i hp (by omega))]; rfl⟩

/-- what the reader of segments answers -/
def ans (ch : Nat → Nat) (n : Nat) : Bool := bits .and .u8 (st ch n) 84 != 0

theorem ans_four {ch : Nat → Nat} {n : Nat} (h : st ch n = 4) : ans ch n = true := by rw [ans, h]; decide
theorem ans_climbed {ch : Nat → Nat} {n : Nat} (h : st ch n = 64) : ans ch n = true := by rw [ans, h]; decide
theorem ans_no {ch : Nat → Nat} {n : Nat} (h : st ch n = 1 ∨ st ch n = 2 ∨ st ch n = 8) : ans ch n = false := by
  rcases h with h | h | h <;> rw [ans, h] <;> decide

end Go.Proofs.Qxb6001342a
