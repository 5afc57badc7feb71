import Derived.Test.Qxb6001402aA
namespace Go.Proofs.Qxb6001402a
open Go.RowKit
set_option linter.unusedVariables false
set_option linter.unusedSimpArgs false

/-- the byte at place k, as a number -/
def chr (a : ByteArray) (k : Nat) : Nat := (a.data.toList.getD k 0).toNat

theorem chr_at (a : ByteArray) (k : Nat) (h : k < a.size) : (a[k]'h).toNat = chr a k := by
  have h' : k < a.data.toList.length := by simpa using h
  unfold chr
  rw [List.getD_eq_getElem?_getD, List.getElem?_eq_getElem h']
  rfl

/-- where the quoted token ends, read from place i on -/
def qEnd (ch : Nat → Nat) (n q : Nat) (es : Bool) : Nat → Nat → Nat
  | 0, _ => n
  | f + 1, i => if i < n then
      if ch i = 92 ∧ es = true then qEnd ch n q es f (i + 2)
      else if ch i = q ∧ i + 1 < n ∧ ch (i + 1) = q then qEnd ch n q es f (i + 2)
      else if ch i = q then i + 1
      else qEnd ch n q es f (i + 1)
    else n

theorem qEnd_le (ch : Nat → Nat) (n q : Nat) (es : Bool) (f i : Nat) : qEnd ch n q es f i ≤ n := by
  induction f generalizing i with
  | zero => simp [qEnd]
  | succ f ih =>
    unfold qEnd
    split
    · split
      · exact ih _
      · split
        · exact ih _
        · split
          · omega
          · exact ih _
    · omega

theorem qEnd_gt (ch : Nat → Nat) (n q : Nat) (es : Bool) (f i : Nat) (hi : i ≤ n) : i ≤ qEnd ch n q es f i := by
  induction f generalizing i with
  | zero => simpa [qEnd] using hi
  | succ f ih =>
    unfold qEnd
    split
    · split
      · by_cases h : i + 2 ≤ n
        · have := ih (i + 2) h; omega
        · have e : qEnd ch n q es f (i + 2) = n := by
            cases f with
            | zero => rfl
            | succ f => unfold qEnd; rw [if_neg (by omega)]
          omega
      · split
        · have := ih (i + 2) (by omega); omega
        · split
          · omega
          · have := ih (i + 1) (by omega); omega
    · omega

set_option maxRecDepth 100000 in
set_option maxHeartbeats 1000000 in
theorem quoteEnd_any (a : ByteArray) (s : Nat) (es : Bool) (w : World) (hs : a.size ≤ 1048576) (hlt : s < a.size) :
    Calls Try.prog 31 #[.string a, .int .i64 (s : Int), .bool es] w fun e w' => e = .returned (.int .i64 ((qEnd (chr a) a.size (chr a s) es a.size (s + 1) : Nat) : Int)) ∧ w' = w := by
  obtain ⟨q, hq⟩ : ∃ q : UInt8, (a[s]'hlt) = q := ⟨_, rfl⟩
  have hqc : chr a s = q.toNat := by rw [← chr_at a s hlt, hq]
  rw [hqc]
  clear hqc
  have hsi : (s : Int) < a.size := by omega
  go_enter Try.func31, Try.ntmps31
  go_wp2
  go_loop [8] (fun vi => ∃ i f : Nat, vi = .int .i64 (i : Int) ∧ i ≤ a.size + 1 ∧ Hid (a.size ≤ i + f ∧ qEnd (chr a) a.size q.toNat es f i = qEnd (chr a) a.size q.toNat es a.size (s + 1))) (fun vi => a.size + 1 - (intOf vi).toNat)
  case atStart => exact ⟨s + 1, a.size, by go_num, by omega, by omega, rfl⟩
  case round =>
    obtain ⟨i, f, rfl, hi, HR⟩ := hrel
    by_cases hl : i < a.size
    · obtain ⟨c, hc⟩ : ∃ c : UInt8, (a[i]'hl) = c := ⟨_, rfl⟩
      have HC : Hid (chr a i = c.toNat) := by rw [← chr_at a i hl, hc]; exact hide rfl
      obtain ⟨f, rfl⟩ : ∃ g, f = g + 1 := ⟨f - 1, by have := (unhide HR).1; omega⟩
      have hun := (unhide HR).2
      rw [qEnd, if_pos hl, unhide HC] at hun
      by_cases h92 : c.toNat = 92
      · have h92' : ((c.toNat : Int) == 92) = true := by simp; omega
        cases es with
        | true =>
          rw [if_pos ⟨h92, rfl⟩] at hun
          have HU := hide hun
          clear hun h92
          go_wp2
          exact ⟨⟨i + 2, f, by go_num, by omega, by have := (unhide HR).1; omega, unhide HU⟩, by simp [intOf]; omega⟩
        | false =>
          clear h92
          by_cases hcq : c.toNat = q.toNat
          · have hcq' : ((c.toNat : Int) == (q.toNat : Int)) = true := by simp; omega
            by_cases hl1 : i + 1 < a.size
            · have hl1' : (i : Int) + 1 < a.size := by omega
              obtain ⟨d, hd⟩ : ∃ d : UInt8, (a[i + 1]'hl1) = d := ⟨_, rfl⟩
              have HD : Hid (chr a (i + 1) = d.toNat) := by rw [← chr_at a (i + 1) hl1, hd]; exact hide rfl
              rw [if_neg (by simp), unhide HD] at hun
              by_cases hdq : d.toNat = q.toNat
              · have hdq' : ((d.toNat : Int) == (q.toNat : Int)) = true := by simp; omega
                rw [if_pos ⟨hcq, hl1, hdq⟩] at hun
                have HU := hide hun
                clear hun hcq hdq
                go_wp2
                exact ⟨⟨i + 2, f, by go_num, by omega, by have := (unhide HR).1; omega, unhide HU⟩, by simp [intOf]; omega⟩
              · have hdq' : ((d.toNat : Int) == (q.toNat : Int)) = false := by simp; omega
                rw [if_neg (by omega), if_pos hcq] at hun
                have HU := hide hun
                clear hun hcq hdq
                go_wp2
                go_ret
                exact ⟨by rw [← unhide HU]; rfl, rfl⟩
            · have hl1' : ¬ (i : Int) + 1 < a.size := by omega
              rw [if_neg (by simp), if_neg (by omega), if_pos hcq] at hun
              have HU := hide hun
              clear hun hcq
              go_wp2
              go_ret
              exact ⟨by rw [← unhide HU]; rfl, rfl⟩
          · have hcq' : ((c.toNat : Int) == (q.toNat : Int)) = false := by simp; omega
            rw [if_neg (by simp), if_neg (by omega), if_neg hcq] at hun
            have HU := hide hun
            clear hun hcq
            go_wp2
            exact ⟨⟨i + 1, f, by go_num, by omega, by have := (unhide HR).1; omega, unhide HU⟩, by simp [intOf]; omega⟩
      · have h92' : ((c.toNat : Int) == 92) = false := by simp; omega
        by_cases hcq : c.toNat = q.toNat
        · have hcq' : ((c.toNat : Int) == (q.toNat : Int)) = true := by simp; omega
          by_cases hl1 : i + 1 < a.size
          · have hl1' : (i : Int) + 1 < a.size := by omega
            obtain ⟨d, hd⟩ : ∃ d : UInt8, (a[i + 1]'hl1) = d := ⟨_, rfl⟩
            have HD : Hid (chr a (i + 1) = d.toNat) := by rw [← chr_at a (i + 1) hl1, hd]; exact hide rfl
            rw [if_neg (fun h => h92 h.1), unhide HD] at hun
            by_cases hdq : d.toNat = q.toNat
            · have hdq' : ((d.toNat : Int) == (q.toNat : Int)) = true := by simp; omega
              rw [if_pos ⟨hcq, hl1, hdq⟩] at hun
              have HU := hide hun
              clear hun hcq hdq
              go_wp2
              exact ⟨⟨i + 2, f, by go_num, by omega, by have := (unhide HR).1; omega, unhide HU⟩, by simp [intOf]; omega⟩
            · have hdq' : ((d.toNat : Int) == (q.toNat : Int)) = false := by simp; omega
              rw [if_neg (by omega), if_pos hcq] at hun
              have HU := hide hun
              clear hun hcq hdq
              go_wp2
              go_ret
              exact ⟨by rw [← unhide HU]; rfl, rfl⟩
          · have hl1' : ¬ (i : Int) + 1 < a.size := by omega
            rw [if_neg (fun h => h92 h.1), if_neg (by omega), if_pos hcq] at hun
            have HU := hide hun
            clear hun hcq
            go_wp2
            go_ret
            exact ⟨by rw [← unhide HU]; rfl, rfl⟩
        · have hcq' : ((c.toNat : Int) == (q.toNat : Int)) = false := by simp; omega
          rw [if_neg (fun h => h92 h.1), if_neg (by omega), if_neg hcq] at hun
          have HU := hide hun
          clear hun hcq
          go_wp2
          exact ⟨⟨i + 1, f, by go_num, by omega, by have := (unhide HR).1; omega, unhide HU⟩, by simp [intOf]; omega⟩
    · go_wp2
      go_ret
      have e : qEnd (chr a) a.size q.toNat es f i = a.size := by
        cases f with
        | zero => rfl
        | succ f => rw [qEnd, if_neg hl]
      rw [(unhide HR).2] at e
      rw [e]
      exact ⟨rfl, rfl⟩
end Go.Proofs.Qxb6001402a
