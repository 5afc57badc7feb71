import Derived.Test.Qxb6001342aA
namespace Go.Proofs.Qxb6001342a
open Go.RowKit
set_option linter.unusedVariables false
set_option linter.unusedSimpArgs false

def pw : Nat → Int
  | 0 => 1
  | 1 => 2
  | 2 => 4
  | 3 => 8
  | 4 => 16
  | 5 => 32
  | 6 => 64
  | _ => 128

def stepTo (s c : Int) (syn : Bool) : Nat → Int
  | 0 => 0
  | k + 1 => if (bits .and .u8 s (pw k) != 0) = true then bits .or .u8 (stepTo s c syn k) (afterF (pw k) c syn) else stepTo s c syn k

theorem stepTo_yes {s c : Int} {syn : Bool} {k : Nat} (h : (bits .and .u8 s (pw k) != 0) = true) : bits .or .u8 (stepTo s c syn k) (afterF (pw k) c syn) = stepTo s c syn (k + 1) := by
  rw [stepTo, if_pos h]
theorem stepTo_no {s c : Int} {syn : Bool} {k : Nat} (h : ¬ (bits .and .u8 s (pw k) != 0) = true) : stepTo s c syn k = stepTo s c syn (k + 1) := by
  rw [stepTo, if_neg h]

set_option maxHeartbeats 1000000 in
theorem step_any (s c : Int) (syn : Bool) (w : World) (h0 : 0 ≤ c) (h1 : c < 256) :
    Calls Try.prog 21 #[.int .u8 s, .int .u8 c, .bool syn] w fun e w' => e = .returned (.int .u8 (stepTo s c syn 7)) ∧ w' = w := by
  go_enter Try.func21, Try.ntmps21
  go_wp2
  go_loop [7, 8] (fun nx st => ∃ k : Nat, k ≤ 7 ∧ nx = .int .u8 (stepTo s c syn k) ∧ st = .int .u8 (pw k)) (fun _ st => 128 - (intOf st).toNat)
  case atStart => exact ⟨0, by omega, rfl, rfl⟩
  case round =>
    obtain ⟨k, hk, rfl, rfl⟩ := hrel
    have hk7 : k = 0 ∨ k = 1 ∨ k = 2 ∨ k = 3 ∨ k = 4 ∨ k = 5 ∨ k = 6 ∨ k = 7 := by omega
    rcases hk7 with rfl | rfl | rfl | rfl | rfl | rfl | rfl | rfl
    · simp only [show pw 0 = 1 from rfl]
      by_cases hb : (bits .and .u8 s 1 != 0) = true
      · go_wp2_with (go_at_call 17; refine (after1 _ _ _ h0 h1).mono ?_; rintro e w' ⟨rfl, rfl⟩)
        exact ⟨⟨1, by omega, congrArg _ (stepTo_yes (k := 0) hb), rfl⟩, by decide⟩
      · go_wp2
        exact ⟨⟨1, by omega, congrArg _ (stepTo_no (k := 0) hb), rfl⟩, by decide⟩
    · simp only [show pw 1 = 2 from rfl]
      by_cases hb : (bits .and .u8 s 2 != 0) = true
      · go_wp2_with (go_at_call 17; refine (after2 _ _ _ h0 h1).mono ?_; rintro e w' ⟨rfl, rfl⟩)
        exact ⟨⟨2, by omega, congrArg _ (stepTo_yes (k := 1) hb), rfl⟩, by decide⟩
      · go_wp2
        exact ⟨⟨2, by omega, congrArg _ (stepTo_no (k := 1) hb), rfl⟩, by decide⟩
    · simp only [show pw 2 = 4 from rfl]
      by_cases hb : (bits .and .u8 s 4 != 0) = true
      · go_wp2_with (go_at_call 17; refine (after4 _ _ _ h0 h1).mono ?_; rintro e w' ⟨rfl, rfl⟩)
        exact ⟨⟨3, by omega, congrArg _ (stepTo_yes (k := 2) hb), rfl⟩, by decide⟩
      · go_wp2
        exact ⟨⟨3, by omega, congrArg _ (stepTo_no (k := 2) hb), rfl⟩, by decide⟩
    · simp only [show pw 3 = 8 from rfl]
      by_cases hb : (bits .and .u8 s 8 != 0) = true
      · go_wp2_with (go_at_call 17; refine (after8 _ _ _ h0 h1).mono ?_; rintro e w' ⟨rfl, rfl⟩)
        exact ⟨⟨4, by omega, congrArg _ (stepTo_yes (k := 3) hb), rfl⟩, by decide⟩
      · go_wp2
        exact ⟨⟨4, by omega, congrArg _ (stepTo_no (k := 3) hb), rfl⟩, by decide⟩
    · simp only [show pw 4 = 16 from rfl]
      by_cases hb : (bits .and .u8 s 16 != 0) = true
      · go_wp2_with (go_at_call 17; refine (after16 _ _ _ h0 h1).mono ?_; rintro e w' ⟨rfl, rfl⟩)
        exact ⟨⟨5, by omega, congrArg _ (stepTo_yes (k := 4) hb), rfl⟩, by decide⟩
      · go_wp2
        exact ⟨⟨5, by omega, congrArg _ (stepTo_no (k := 4) hb), rfl⟩, by decide⟩
    · simp only [show pw 5 = 32 from rfl]
      by_cases hb : (bits .and .u8 s 32 != 0) = true
      · go_wp2_with (go_at_call 17; refine (after32 _ _ _ h0 h1).mono ?_; rintro e w' ⟨rfl, rfl⟩)
        exact ⟨⟨6, by omega, congrArg _ (stepTo_yes (k := 5) hb), rfl⟩, by decide⟩
      · go_wp2
        exact ⟨⟨6, by omega, congrArg _ (stepTo_no (k := 5) hb), rfl⟩, by decide⟩
    · simp only [show pw 6 = 64 from rfl]
      by_cases hb : (bits .and .u8 s 64 != 0) = true
      · go_wp2_with (go_at_call 17; refine (after64 _ _ _ h0 h1).mono ?_; rintro e w' ⟨rfl, rfl⟩)
        exact ⟨⟨7, by omega, congrArg _ (stepTo_yes (k := 6) hb), rfl⟩, by decide⟩
      · go_wp2
        exact ⟨⟨7, by omega, congrArg _ (stepTo_no (k := 6) hb), rfl⟩, by decide⟩
    · simp only [show pw 7 = 128 from rfl]
      go_wp2
      go_ret
      exact ⟨rfl, rfl⟩
end Go.Proofs.Qxb6001342a
