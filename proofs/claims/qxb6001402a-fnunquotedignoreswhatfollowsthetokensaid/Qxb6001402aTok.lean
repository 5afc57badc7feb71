import Derived.Test.Qxb6001402aZZ
import Derived.Test.Qxb6001402aUnw
namespace Go.Proofs.Qxb6001402a
open Go.RowKit
set_option linter.unusedVariables false
set_option linter.unusedSimpArgs false

theorem zzunq_any (t : ByteArray) (es : Bool) (w : World) (hs : t.size ≤ 1048576) (h1 : 0 < t.size) (F : Nat) (hF : t.size ≤ F) :
    Calls Try.prog 19 #[.string t, .bool es] w fun e w' => e = .returned (.string ⟨(uqF (chr t) t.size (chr t 0) es F 1 []).toArray⟩) ∧ Below w.heap.size w w' := by
  obtain ⟨R, hR⟩ : ∃ R, uqF (chr t) t.size (chr t 0) es F 1 [] = R := ⟨_, rfl⟩
  go_enter Try.func19, Try.ntmps19
  go_wp2_with (go_at_call 24; refine (unquoted_any t es _ hs h1 F hF).mono ?_; rintro e w' ⟨rfl, hb⟩; rw [hR])
  go_ret
  exact ⟨by rw [hR]; rfl, hb⟩

theorem chr_extract (u : ByteArray) (e k : Nat) (he : e ≤ u.size) (hk : k < e) : chr (u.extract 0 e) k = chr u k := by
  have h1 : k < (u.extract 0 e).size := by simp; omega
  rw [← chr_at _ _ h1, ← chr_at u k (by omega)]
  congr 1
  simp [ByteArray.getElem_eq_getElem_data]

/-- the first token of a text that begins with a quote: what is needed of it -/
theorem tok_facts (u : ByteArray) (te : Bool) (h0 : 0 < u.size) (t : ByteArray) (ht : t = u.extract 0 (qEnd (chr u) u.size (chr u 0) te u.size (0 + 1))) :
    0 < t.size ∧ t.size ≤ u.size ∧ (∀ h : 0 < t.size, t[0]'h = u[0]'h0) ∧ uqF (chr t) t.size (chr t 0) te u.size 1 [] = uqF (chr u) u.size (chr u 0) te u.size 1 [] := by
  have hle := qEnd_le (chr u) u.size (chr u 0) te u.size 1
  have hgt := qEnd_gt (chr u) u.size (chr u 0) te u.size 1 (by omega)
  obtain ⟨e, he⟩ : ∃ e, qEnd (chr u) u.size (chr u 0) te u.size 1 = e := ⟨_, rfl⟩
  rw [show (0 + 1 : Nat) = 1 from rfl, he] at ht
  rw [he] at hle hgt
  subst ht
  have hsz : (u.extract 0 e).size = e := by simp; omega
  have hc0 := chr_extract u e 0 hle (by omega)
  refine ⟨by omega, by omega, fun h => ?_, ?_⟩
  · simp [ByteArray.getElem_eq_getElem_data]
  · rw [hsz, hc0, uqF_congr (ch' := chr u) (h := fun k hk => chr_extract u e k hle hk)]
    by_cases hen : e < u.size
    · exact (uqF_cut _ _ _ _ _ _ _ _ (by omega) he hen).symm
    · rw [show e = u.size by omega]
end Go.Proofs.Qxb6001402a
