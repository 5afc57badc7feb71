import Derived.Test.Qxb6001342aClimbs
namespace Go.Proofs.Qxb6001342a
open Go.RowKit

/-- the set s meets the set m -/
abbrev Hit (s m : Int) : Prop := bits .and .u8 s m ≠ 0

theorem hit_or {x y m : Int} (hx : 0 ≤ x ∧ x < 128) (hy : 0 ≤ y ∧ y < 128) (hm : 0 ≤ m ∧ m < 128) : Hit (bits .or .u8 x y) m ↔ (Hit x m ∨ Hit y m) := by
  obtain ⟨X, rfl⟩ := Int.eq_ofNat_of_zero_le hx.1
  obtain ⟨Y, rfl⟩ := Int.eq_ofNat_of_zero_le hy.1
  obtain ⟨M, rfl⟩ := Int.eq_ofNat_of_zero_le hm.1
  have h1 : X ||| Y < 2 ^ 7 := Nat.or_lt_two_pow (by omega) (by omega)
  have h1' : X ||| Y < 256 := by omega
  unfold Hit
  rw [u8_or_nat X Y (by omega) (by omega), u8_and_nat _ M h1' (by omega), u8_and_nat X M (by omega) (by omega), u8_and_nat Y M (by omega) (by omega), Nat.and_or_distrib_right]
  simp only [ne_eq, Int.natCast_eq_zero, Nat.or_eq_zero_iff]
  omega

theorem or_bd {x y : Int} (hx : 0 ≤ x ∧ x < 128) (hy : 0 ≤ y ∧ y < 128) : 0 ≤ bits .or .u8 x y ∧ bits .or .u8 x y < 128 := by
  obtain ⟨X, rfl⟩ := Int.eq_ofNat_of_zero_le hx.1
  obtain ⟨Y, rfl⟩ := Int.eq_ofNat_of_zero_le hy.1
  have h1 : X ||| Y < 2 ^ 7 := Nat.or_lt_two_pow (by omega) (by omega)
  rw [u8_or_nat X Y (by omega) (by omega)]
  omega

theorem after_bd (st c : Int) (syn : Bool) (h : 0 ≤ st ∧ st ≤ 64) : 0 ≤ afterF st c syn ∧ afterF st c syn < 128 := by
  unfold afterF
  repeat' split
  all_goals omega

theorem pw_bd (k : Nat) (h : k < 7) : 0 ≤ pw k ∧ pw k ≤ 64 := by
  have : k = 0 ∨ k = 1 ∨ k = 2 ∨ k = 3 ∨ k = 4 ∨ k = 5 ∨ k = 6 := by omega
  rcases this with rfl | rfl | rfl | rfl | rfl | rfl | rfl <;> decide

theorem stepTo_bd (s c : Int) (syn : Bool) (k : Nat) (h : k ≤ 7) : 0 ≤ stepTo s c syn k ∧ stepTo s c syn k < 128 := by
  induction k with
  | zero => exact ⟨by simp [stepTo], by simp [stepTo]⟩
  | succ k ih =>
    rw [stepTo]
    split
    · exact or_bd (ih (by omega)) (after_bd _ _ _ (pw_bd k (by omega)))
    · exact ih (by omega)

theorem hit_stepTo {s c m : Int} {syn : Bool} (hm : 0 ≤ m ∧ m < 128) (j : Nat) (hs : Hit s (pw j)) (ha : Hit (afterF (pw j) c syn) m) (k : Nat) (hj : j < k) (hk : k ≤ 7) : Hit (stepTo s c syn k) m := by
  induction k with
  | zero => omega
  | succ k ih =>
    rw [stepTo]
    by_cases e : j = k
    · subst e
      rw [if_pos (by simpa using hs), hit_or (stepTo_bd _ _ _ _ (by omega)) (after_bd _ _ _ (pw_bd _ (by omega))) hm]
      exact .inr ha
    · split
      · rw [hit_or (stepTo_bd _ _ _ _ (by omega)) (after_bd _ _ _ (pw_bd _ (by omega))) hm]
        exact .inl (ih (by omega) (by omega))
      · exact ih (by omega) (by omega)

theorem hit_step {s c m m' : Int} {syn : Bool} (hs : 0 ≤ s ∧ s < 128) (hm : 0 ≤ m' ∧ m' < 128) (h : Hit s m) (hsp : ∀ s : Fin 128, Hit (s.val : Int) m → ∃ j : Fin 7, Hit (s.val : Int) (pw j.val) ∧ Hit (pw j.val) m)
    (H : ∀ j : Fin 7, Hit (pw j.val) m → Hit (afterF (pw j.val) c syn) m') : Hit (stepTo s c syn 7) m' := by
  obtain ⟨S, rfl⟩ := Int.eq_ofNat_of_zero_le hs.1
  obtain ⟨j, h1, h2⟩ := hsp ⟨S, by omega⟩ h
  exact hit_stepTo hm j.val h1 (H j h2) 7 (by omega) (by omega)

theorem sp95 : ∀ s : Fin 128, Hit (s.val : Int) 95 → ∃ j : Fin 7, Hit (s.val : Int) (pw j.val) ∧ Hit (pw j.val) 95 := by decide +kernel
theorem sp65 : ∀ s : Fin 128, Hit (s.val : Int) 65 → ∃ j : Fin 7, Hit (s.val : Int) (pw j.val) ∧ Hit (pw j.val) 65 := by decide +kernel
theorem sp66 : ∀ s : Fin 128, Hit (s.val : Int) 66 → ∃ j : Fin 7, Hit (s.val : Int) (pw j.val) ∧ Hit (pw j.val) 66 := by decide +kernel
theorem sp64 : ∀ s : Fin 128, Hit (s.val : Int) 64 → ∃ j : Fin 7, Hit (s.val : Int) (pw j.val) ∧ Hit (pw j.val) 64 := by decide +kernel
theorem sp1 : ∀ s : Fin 128, Hit (s.val : Int) 1 → ∃ j : Fin 7, Hit (s.val : Int) (pw j.val) ∧ Hit (pw j.val) 1 := by decide +kernel
theorem sp2 : ∀ s : Fin 128, Hit (s.val : Int) 2 → ∃ j : Fin 7, Hit (s.val : Int) (pw j.val) ∧ Hit (pw j.val) 2 := by decide +kernel
theorem sp4 : ∀ s : Fin 128, Hit (s.val : Int) 4 → ∃ j : Fin 7, Hit (s.val : Int) (pw j.val) ∧ Hit (pw j.val) 4 := by decide +kernel

theorem af95 : ∀ (c : Fin 256) (syn : Bool) (j : Fin 7), Hit (pw j.val) 95 → Hit (afterF (pw j.val) (c.val : Int) syn) 95 := by decide +kernel
theorem af64 : ∀ (c : Fin 256) (syn : Bool) (j : Fin 7), Hit (pw j.val) 64 → Hit (afterF (pw j.val) (c.val : Int) syn) 64 := by decide +kernel
theorem afSlash : ∀ (syn : Bool) (j : Fin 7), Hit (pw j.val) 95 → Hit (afterF (pw j.val) 47 syn) 65 := by decide +kernel
theorem afDot1 : ∀ (syn : Bool) (j : Fin 7), Hit (pw j.val) 65 → Hit (afterF (pw j.val) 46 syn) 66 := by decide +kernel
theorem afDot2 : ∀ (syn : Bool) (j : Fin 7), Hit (pw j.val) 66 → Hit (afterF (pw j.val) 46 syn) 68 := by decide +kernel
theorem afA : ∀ (syn : Bool) (j : Fin 7), Hit (pw j.val) 1 → Hit (afterF (pw j.val) 46 syn) 2 := by decide +kernel
theorem afB : ∀ (syn : Bool) (j : Fin 7), Hit (pw j.val) 2 → Hit (afterF (pw j.val) 46 syn) 4 := by decide +kernel
theorem afC : ∀ (syn : Bool) (j : Fin 7), Hit (pw j.val) 4 → Hit (afterF (pw j.val) 47 syn) 64 := by decide +kernel
theorem fin68 : ∀ s : Fin 128, Hit (s.val : Int) 68 → Hit (s.val : Int) 84 := by decide +kernel
theorem fin64 : ∀ s : Fin 128, Hit (s.val : Int) 64 → Hit (s.val : Int) 84 := by decide +kernel

theorem chr_lt (a : ByteArray) (k : Nat) : chr a k < 256 := by
  unfold chr
  exact UInt8.toNat_lt _

/-- a reading of a text that ends in a slash and two dots -/
def AtEnd (q : Nat) (i : Nat) (s : Int) (op : List (Int × Int)) : Prop :=
  (0 ≤ s ∧ s < 128) ∧ (∀ p ∈ op, (0 ≤ p.1 ∧ p.1 < 128) ∧ (0 ≤ p.2 ∧ p.2 < 128) ∧ Hit p.1 95) ∧ (i ≤ q → Hit s 95) ∧ (i = q + 1 → Hit s 65) ∧ (i = q + 2 → Hit s 66) ∧ (i = q + 3 → Hit s 68)

theorem keeps_end (ch : Nat → Nat) (q : Nat) (hc : ∀ k, ch k < 256) (h0 : ch q = 47) (h1 : ch (q + 1) = 46) (h2 : ch (q + 2) = 46) : Keeps ch (q + 3) (AtEnd q) := by
  have far : ∀ i, i < q + 3 → ch i ≠ 47 → ch i ≠ 46 → i < q := by
    intro i hi ha hb
    have : i ≠ q := by rintro rfl; exact ha h0
    have : i ≠ q + 1 := by rintro rfl; exact hb h1
    have : i ≠ q + 2 := by rintro rfl; exact hb h2
    omega
  have st : ∀ i s op syn, i ≤ q + 2 → (0 ≤ s ∧ s < 128) → (i ≤ q → Hit s 95) → (i = q + 1 → Hit s 65) → (i = q + 2 → Hit s 66) →
      (∀ p ∈ op, (0 ≤ p.1 ∧ p.1 < 128) ∧ (0 ≤ p.2 ∧ p.2 < 128) ∧ Hit p.1 95) → AtEnd q (i + 1) (stepTo s (ch i) syn 7) op := by
    intro i s op syn hi hb ha hbb hcc hop
    refine ⟨stepTo_bd _ _ _ _ (by omega), hop, fun h => ?_, fun h => ?_, fun h => ?_, fun h => ?_⟩
    · exact hit_step hb (by decide) (ha (by omega)) sp95 (af95 ⟨ch i, hc i⟩ syn)
    · obtain rfl : i = q := by omega
      rw [h0]
      exact hit_step hb (by decide) (ha (by omega)) sp95 (afSlash syn)
    · obtain rfl : i = q + 1 := by omega
      rw [h1]
      exact hit_step hb (by decide) (hbb rfl) sp65 (afDot1 syn)
    · obtain rfl : i = q + 2 := by omega
      rw [h2]
      exact hit_step hb (by decide) (hcc rfl) sp66 (afDot2 syn)
  refine ⟨?_, ?_, ?_, ?_, ?_, ?_⟩
  · exact ⟨by decide, by simp, fun _ => by decide, fun h => by omega, fun h => by omega, fun h => by omega⟩
  · intro i s op hi h92 h
    obtain ⟨hb, hop, ha, _, _, _⟩ := h
    have hiq := far i (by omega) (by omega) (by omega)
    refine ⟨stepTo_bd _ _ _ _ (by omega), hop, fun h => ?_, fun h => ?_, fun h => by omega, fun h => by omega⟩
    · exact hit_step hb (by decide) (ha (by omega)) sp95 (af95 ⟨ch (i + 1), hc (i + 1)⟩ false)
    · obtain rfl : q = i + 1 := by omega
      rw [h0]
      exact hit_step hb (by decide) (ha (by omega)) sp95 (afSlash false)
  · intro i s op hi h123 h
    obtain ⟨hb, hop, ha, _, _, _⟩ := h
    have hiq := far i (by omega) (by omega) (by omega)
    refine ⟨hb, ?_, fun _ => ha (by omega), fun h => by omega, fun h => by omega, fun h => by omega⟩
    intro p hp
    rcases List.mem_append.1 hp with hp | hp
    · exact hop p hp
    · simp at hp; subst hp; exact ⟨hb, ⟨by simp, by simp⟩, ha (by omega)⟩
  · intro i s op b f hi h44 h
    obtain ⟨hb, hop, ha, _, _, _⟩ := h
    have hiq := far i (by omega) (by omega) (by omega)
    have hbf := hop (b, f) (by simp)
    refine ⟨hbf.1, ?_, fun _ => hbf.2.2, fun h => by omega, fun h => by omega, fun h => by omega⟩
    intro p hp
    rcases List.mem_append.1 hp with hp | hp
    · exact hop p (by simp [hp])
    · simp at hp; subst hp; exact ⟨hbf.1, or_bd hbf.2.1 hb, hbf.2.2⟩
  · intro i s op b f hi h125 h
    obtain ⟨hb, hop, ha, _, _, _⟩ := h
    have hiq := far i (by omega) (by omega) (by omega)
    have hbf := hop (b, f) (by simp)
    refine ⟨or_bd hb hbf.2.1, fun p hp => hop p (by simp [hp]), fun _ => ?_, fun h => by omega, fun h => by omega, fun h => by omega⟩
    rw [hit_or hb hbf.2.1 (by decide)]
    exact .inl (ha (by omega))
  · intro i s op syn hi _ _ h
    obtain ⟨hb, hop, ha, h65, h66, _⟩ := h
    exact st i s op syn (by omega) hb ha h65 h66 hop

/-- a reading of a text that begins with two dots and a slash -/
def AtHead (i : Nat) (s : Int) (op : List (Int × Int)) : Prop :=
  (0 ≤ s ∧ s < 128) ∧ (∀ p ∈ op, (0 ≤ p.1 ∧ p.1 < 128) ∧ (0 ≤ p.2 ∧ p.2 < 128) ∧ Hit p.1 64) ∧ (i = 0 → Hit s 1) ∧ (i = 1 → Hit s 2) ∧ (i = 2 → Hit s 4) ∧ (3 ≤ i → Hit s 64)

theorem keeps_head (ch : Nat → Nat) (n : Nat) (hc : ∀ k, ch k < 256) (h0 : ch 0 = 46) (h1 : ch 1 = 46) (h2 : ch 2 = 47) : Keeps ch n AtHead := by
  have far : ∀ i, ch i ≠ 47 → ch i ≠ 46 → 3 ≤ i := by
    intro i ha hb
    have : i ≠ 0 := by rintro rfl; exact hb h0
    have : i ≠ 1 := by rintro rfl; exact hb h1
    have : i ≠ 2 := by rintro rfl; exact ha h2
    omega
  refine ⟨?_, ?_, ?_, ?_, ?_, ?_⟩
  · exact ⟨by decide, by simp, fun _ => by decide, fun h => by omega, fun h => by omega, fun h => by omega⟩
  · intro i s op hi h92 h
    obtain ⟨hb, hop, _, _, _, ha⟩ := h
    have hiq := far i (by omega) (by omega)
    exact ⟨stepTo_bd _ _ _ _ (by omega), hop, fun h => by omega, fun h => by omega, fun h => by omega, fun _ => hit_step hb (by decide) (ha hiq) sp64 (af64 ⟨ch (i + 1), hc (i + 1)⟩ false)⟩
  · intro i s op hi h123 h
    obtain ⟨hb, hop, _, _, _, ha⟩ := h
    have hiq := far i (by omega) (by omega)
    refine ⟨hb, ?_, fun h => by omega, fun h => by omega, fun h => by omega, fun _ => ha hiq⟩
    intro p hp
    rcases List.mem_append.1 hp with hp | hp
    · exact hop p hp
    · simp at hp; subst hp; exact ⟨hb, ⟨by simp, by simp⟩, ha (by omega)⟩
  · intro i s op b f hi h44 h
    obtain ⟨hb, hop, _, _, _, ha⟩ := h
    have hiq := far i (by omega) (by omega)
    have hbf := hop (b, f) (by simp)
    refine ⟨hbf.1, ?_, fun h => by omega, fun h => by omega, fun h => by omega, fun _ => hbf.2.2⟩
    intro p hp
    rcases List.mem_append.1 hp with hp | hp
    · exact hop p (by simp [hp])
    · simp at hp; subst hp; exact ⟨hbf.1, or_bd hbf.2.1 hb, hbf.2.2⟩
  · intro i s op b f hi h125 h
    obtain ⟨hb, hop, _, _, _, ha⟩ := h
    have hiq := far i (by omega) (by omega)
    have hbf := hop (b, f) (by simp)
    refine ⟨or_bd hb hbf.2.1, fun p hp => hop p (by simp [hp]), fun h => by omega, fun h => by omega, fun h => by omega, fun _ => ?_⟩
    rw [hit_or hb hbf.2.1 (by decide)]
    exact .inl (ha hiq)
  · intro i s op syn hi _ _ h
    obtain ⟨hb, hop, a0, a1, a2, a3⟩ := h
    refine ⟨stepTo_bd _ _ _ _ (by omega), hop, fun h => by omega, fun h => ?_, fun h => ?_, fun h => ?_⟩
    · obtain rfl : i = 0 := by omega
      rw [h0]
      exact hit_step hb (by decide) (a0 rfl) sp1 (afA syn)
    · obtain rfl : i = 1 := by omega
      rw [h1]
      exact hit_step hb (by decide) (a1 rfl) sp2 (afB syn)
    · by_cases h3 : 3 ≤ i
      · exact hit_step hb (by decide) (a3 h3) sp64 (af64 ⟨ch i, hc i⟩ syn)
      · obtain rfl : i = 2 := by omega
        rw [h2]
        exact hit_step hb (by decide) (a2 rfl) sp4 (afC syn)

end Go.Proofs.Qxb6001342a
