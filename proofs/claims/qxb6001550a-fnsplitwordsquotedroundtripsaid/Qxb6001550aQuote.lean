import Derived.Test.Qxb6001550aSp
namespace Go.Proofs.Qxb6001550a
open Go.RowKit
set_option linter.unusedVariables false
set_option linter.unusedSimpArgs false

/-! ### the quoted text, and what the machine makes of it -/

def escL : List UInt8 → List UInt8
  | [] => []
  | c :: cs => (if c.toNat = 34 ∨ c.toNat = 92 then [92, c] else [c]) ++ escL cs

theorem escL_snoc (l : List UInt8) (c : UInt8) : escL (l ++ [c]) = escL l ++ (if c.toNat = 34 ∨ c.toNat = 92 then [92, c] else [c]) := by
  induction l with
  | nil => simp [escL]
  | cons x xs ih => simp only [List.cons_append, escL, ih, List.append_assoc]

theorem escL_length (l : List UInt8) : (escL l).length ≤ 2 * l.length := by
  induction l with
  | nil => simp [escL]
  | cons x xs ih =>
    simp only [escL, List.length_append, List.length_cons]
    split <;> simp <;> omega

/-- the quoted words; the flag: this is the first -/
def qs : Bool → List (List UInt8) → List UInt8
  | _, [] => []
  | b, x :: xs => (if b then [] else [32]) ++ ([34] ++ (escL x ++ ([34] ++ qs false xs)))

theorem qs_snoc (b : Bool) (l : List (List UInt8)) (x : List UInt8) : qs b (l ++ [x]) = qs b l ++ ((if b = true ∧ l = [] then [] else [32]) ++ ([34] ++ (escL x ++ [34]))) := by
  induction l generalizing b with
  | nil => cases b <;> simp [qs]
  | cons y ys ih =>
    simp only [List.cons_append, qs, ih, List.append_assoc]
    simp

/-- the machine over a list -/
def spL (L : Int → Int) : List UInt8 → Nat → Bool → Bool → Nat → List UInt8 → List (ByteArray × Int) → List (ByteArray × Int) × Int
  | [], _, inw, inq, st, cur, ws => spEnd L inw inq st cur ws
  | [c], i, inw, inq, st, cur, ws =>
    if c.toNat = 34 then spEnd L (nW inw c) (!inq) (nS inw c i st) cur ws
    else if inq then spEnd L (nW inw c) inq (nS inw c i st) (cur ++ [c]) ws
    else if sepB c then
      if nW inw c then spEnd L false inq (nS inw c i st) [] (ws ++ [(⟨cur.toArray⟩, L (nS inw c i st))])
      else spEnd L (nW inw c) inq (nS inw c i st) cur ws
    else spEnd L (nW inw c) inq (nS inw c i st) (cur ++ [c]) ws
  | c :: c2 :: cs, i, inw, inq, st, cur, ws =>
    if c.toNat = 92 then spL L cs (i + 2) (nW inw c) inq (nS inw c i st) (cur ++ [c2]) ws
    else if c.toNat = 34 then spL L (c2 :: cs) (i + 1) (nW inw c) (!inq) (nS inw c i st) cur ws
    else if inq then spL L (c2 :: cs) (i + 1) (nW inw c) inq (nS inw c i st) (cur ++ [c]) ws
    else if sepB c then
      if nW inw c then spL L (c2 :: cs) (i + 1) false inq (nS inw c i st) [] (ws ++ [(⟨cur.toArray⟩, L (nS inw c i st))])
      else spL L (c2 :: cs) (i + 1) (nW inw c) inq (nS inw c i st) cur ws
    else spL L (c2 :: cs) (i + 1) (nW inw c) inq (nS inw c i st) (cur ++ [c]) ws

theorem drop_at8 (a : ByteArray) (i : Nat) (h : i < a.size) : a.data.toList.drop i = at8 a i :: a.data.toList.drop (i + 1) := by
  have h' : i < a.data.toList.length := by simpa using h
  rw [List.drop_eq_getElem_cons h']
  congr 1
  unfold at8
  rw [List.getD_eq_getElem?_getD, List.getElem?_eq_getElem h']
  rfl

theorem spF_spL (a : ByteArray) (L : Int → Int) (d i : Nat) (inw inq : Bool) (st : Nat) (cur : List UInt8) (ws : List (ByteArray × Int)) (hd : a.size ≤ i + d) (hi : i ≤ a.size) :
    spF (at8 a) a.size false L d i inw inq st cur ws = spL L (a.data.toList.drop i) i inw inq st cur ws := by
  induction d generalizing i inw inq st cur ws with
  | zero =>
    have : i = a.size := by omega
    rw [List.drop_eq_nil_of_le (by simp; omega)]
    rfl
  | succ d ih =>
    by_cases hlt : i < a.size
    · rw [spF, if_pos hlt, drop_at8 a i hlt]
      by_cases h1 : i + 1 < a.size
      · rw [drop_at8 a (i + 1) h1, spL]
        by_cases h92 : (at8 a i).toNat = 92
        · have he : escP (at8 a) a.size false i inq := ⟨h92, h1, .inr rfl⟩
          rw [if_pos he, if_pos h92, if_neg (by simp), ih _ _ _ _ _ _ (by omega) (by omega)]
        · have he : ¬ escP (at8 a) a.size false i inq := fun e => h92 e.1
          rw [if_neg he, if_neg h92, ← drop_at8 a (i + 1) h1]
          simp only [ih (i + 1) _ _ _ _ _ (by omega) (by omega)]
      · have he : ¬ escP (at8 a) a.size false i inq := fun e => h1 e.2.1
        have hnil : a.data.toList.drop (i + 1) = [] := List.drop_eq_nil_of_le (by simp; omega)
        have hp : ∀ inw inq st cur ws, spF (at8 a) a.size false L d (i + 1) inw inq st cur ws = spEnd L inw inq st cur ws := fun inw inq st cur ws => spF_past _ _ _ _ _ _ _ _ _ _ _ (by omega)
        rw [if_neg he, hnil, spL]
        simp only [hp]
    · rw [spF_past _ _ _ _ _ _ _ _ _ _ _ (by omega), List.drop_eq_nil_of_le (by simp; omega)]
      rfl

/-- in quotes: the escaped word, its closing quote -/
theorem spL_word (L : Int → Int) (x rest : List UInt8) (i st : Nat) (cur : List UInt8) (ws : List (ByteArray × Int)) :
    ∃ j, spL L (escL x ++ ([34] ++ rest)) i true true st cur ws = spL L rest j true false st (cur ++ x) ws := by
  induction x generalizing i cur with
  | nil =>
    refine ⟨i + 1, ?_⟩
    cases rest with
    | nil => simp [escL, spL, nW, nS]
    | cons c cs => simp [escL, spL, nW, nS]
  | cons c x ih =>
    by_cases h : c.toNat = 34 ∨ c.toNat = 92
    · obtain ⟨j, hj⟩ := ih (i + 2) (cur ++ [c])
      refine ⟨j, ?_⟩
      rw [escL, if_pos h]
      simp only [List.cons_append, List.nil_append, List.append_assoc] at hj ⊢
      rw [spL, if_pos (by rfl)]
      simp only [nW, nS, Bool.true_or, if_true]
      exact hj
    · obtain ⟨j, hj⟩ := ih (i + 1) (cur ++ [c])
      refine ⟨j, ?_⟩
      have hne : ∃ c2 cs, escL x ++ ([34] ++ rest) = c2 :: cs := by
        cases hh : escL x ++ ([34] ++ rest) with
        | nil => simp at hh
        | cons c2 cs => exact ⟨c2, cs, rfl⟩
      obtain ⟨c2, cs, hcs⟩ := hne
      rw [escL, if_neg h]
      simp only [List.cons_append, List.nil_append, List.append_assoc] at hj ⊢
      simp only [List.cons_append, List.nil_append] at hcs
      rw [hcs] at hj ⊢
      rw [spL, if_neg (fun e => h (.inr e)), if_neg (fun e => h (.inl e)), if_pos rfl]
      simp only [nW, nS, Bool.true_or, if_true]
      exact hj

theorem spL_rest (n : Int) (xs : List (List UInt8)) (i st : Nat) (cur : List UInt8) (ws : List (ByteArray × Int)) :
    spL (fun _ => n) (qs false xs) i true false st cur ws = (ws ++ ((⟨cur.toArray⟩, n) :: xs.map fun x => (⟨x.toArray⟩, n)), 0) := by
  induction xs generalizing i st cur ws with
  | nil => simp [qs, spL, spEnd]
  | cons x xs ih =>
    obtain ⟨j, hj⟩ := spL_word (fun _ => n) x (qs false xs) (i + 2) (i + 1) [] (ws ++ [(⟨cur.toArray⟩, n)])
    have hne : ∃ c2 cs, escL x ++ ([34] ++ qs false xs) = c2 :: cs := by
      cases hh : escL x ++ ([34] ++ qs false xs) with
      | nil => simp at hh
      | cons c2 cs => exact ⟨c2, cs, rfl⟩
    obtain ⟨c2, cs, hcs⟩ := hne
    rw [hcs] at hj
    rw [qs, if_neg (by simp), hcs]
    simp only [List.cons_append, List.nil_append]
    rw [spL, if_neg (by decide), if_neg (by decide), if_neg (by simp), if_pos (by decide), if_pos (by simp [nW])]
    rw [spL, if_neg (by decide), if_pos (by decide)]
    rw [show nW false 34 = true by decide, show nS false (34 : UInt8) (i + 1) (nS true 32 i st) = i + 1 by simp [nS, sepB]]
    rw [show (!false) = true from rfl, show i + 1 + 1 = i + 2 from rfl, hj, ih]
    simp

theorem spL_all (n : Int) (xs : List (List UInt8)) :
    spL (fun _ => n) (qs true xs) 0 false false 0 [] [] = (xs.map fun x => (⟨x.toArray⟩, n), 0) := by
  cases xs with
  | nil => simp [qs, spL, spEnd]
  | cons x xs =>
    obtain ⟨j, hj⟩ := spL_word (fun _ => n) x (qs false xs) 1 0 [] []
    have hne : ∃ c2 cs, escL x ++ ([34] ++ qs false xs) = c2 :: cs := by
      cases hh : escL x ++ ([34] ++ qs false xs) with
      | nil => simp at hh
      | cons c2 cs => exact ⟨c2, cs, rfl⟩
    obtain ⟨c2, cs, hcs⟩ := hne
    rw [hcs] at hj
    rw [qs, if_pos rfl, hcs]
    simp only [List.cons_append, List.nil_append]
    rw [spL, if_neg (by decide), if_pos (by decide)]
    rw [show nW false 34 = true by decide, show nS false (34 : UInt8) 0 0 = 0 by simp [nS, sepB]]
    rw [show (!false) = true from rfl, show 0 + 1 = 1 from rfl, hj, spL_rest]
    simp

/-- the whole: the quoted words come back -/
theorem spF_all (a : ByteArray) (n : Int) (xs : List (List UInt8)) (F : Nat) (hF : a.size ≤ F) (ha : a.data.toList = qs true xs) :
    spF (at8 a) a.size false (fun _ => n) F 0 false false 0 [] [] = (xs.map fun x => (⟨x.toArray⟩, n), 0) := by
  rw [spF_spL a _ F 0 false false 0 [] [] (by omega) (by omega), List.drop_zero, ha, spL_all]
end Go.Proofs.Qxb6001550a
