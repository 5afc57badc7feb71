import Derived.Test.Qxb6001550aMem
namespace Go.Proofs.Qxb6001550a
open Go.RowKit
set_option linter.unusedVariables false
set_option linter.unusedSimpArgs false

/-! ### the machine of splitWords, in plain words -/

/-- the byte at a place -/
def at8 (a : ByteArray) (k : Nat) : UInt8 := a.data.toList.getD k 0

theorem at8_at (a : ByteArray) (k : Nat) (h : k < a.size) : a[k]'h = at8 a k := by
  have h' : k < a.data.toList.length := by simpa using h
  unfold at8
  rw [List.getD_eq_getElem?_getD, List.getElem?_eq_getElem h']
  simp [ByteArray.getElem_eq_getElem_data]

/-- a separator -/
def sepB (c : UInt8) : Bool := c.toNat == 32 || c.toNat == 9
/-- in a word behind the byte's first test -/
def nW (inw : Bool) (c : UInt8) : Bool := inw || !sepB c
/-- the word's place behind the byte's first test -/
def nS (inw : Bool) (c : UInt8) (i st : Nat) : Nat := if inw || sepB c then st else i

def spEnd (L : Int → Int) (inw inq : Bool) (st : Nat) (cur : List UInt8) (ws : List (ByteArray × Int)) : List (ByteArray × Int) × Int :=
  (if inw then ws ++ [(⟨cur.toArray⟩, L st)] else ws, if inq then L st else 0)

/-- the byte is taken with the one behind it -/
def escP (f : Nat → UInt8) (n : Nat) (keep : Bool) (i : Nat) (inq : Bool) : Prop := (f i).toNat = 92 ∧ i + 1 < n ∧ (inq = true ∨ keep = false)
instance (f : Nat → UInt8) (n : Nat) (keep : Bool) (i : Nat) (inq : Bool) : Decidable (escP f n keep i inq) := by unfold escP; infer_instance

def spF (f : Nat → UInt8) (n : Nat) (keep : Bool) (L : Int → Int) : Nat → Nat → Bool → Bool → Nat → List UInt8 → List (ByteArray × Int) → List (ByteArray × Int) × Int
  | 0, _, inw, inq, st, cur, ws => spEnd L inw inq st cur ws
  | d + 1, i, inw, inq, st, cur, ws =>
    if i < n then
      if escP f n keep i inq then spF f n keep L d (i + 2) (nW inw (f i)) inq (nS inw (f i) i st) (if keep then cur ++ [f i] ++ [f (i + 1)] else cur ++ [f (i + 1)]) ws
      else if (f i).toNat = 34 then spF f n keep L d (i + 1) (nW inw (f i)) (!inq) (nS inw (f i) i st) cur ws
      else if inq then spF f n keep L d (i + 1) (nW inw (f i)) inq (nS inw (f i) i st) (cur ++ [f i]) ws
      else if sepB (f i) then
        if nW inw (f i) then spF f n keep L d (i + 1) false inq (nS inw (f i) i st) [] (ws ++ [(⟨cur.toArray⟩, L (nS inw (f i) i st))])
        else spF f n keep L d (i + 1) (nW inw (f i)) inq (nS inw (f i) i st) cur ws
      else spF f n keep L d (i + 1) (nW inw (f i)) inq (nS inw (f i) i st) (cur ++ [f i]) ws
    else spEnd L inw inq st cur ws

theorem spF_past (f : Nat → UInt8) (n : Nat) (keep : Bool) (L : Int → Int) (d i : Nat) (inw inq : Bool) (st : Nat) (cur : List UInt8) (ws : List (ByteArray × Int)) (h : n ≤ i) : spF f n keep L d i inw inq st cur ws = spEnd L inw inq st cur ws := by
  cases d with
  | zero => rfl
  | succ d => rw [spF, if_neg (by omega)]

/-- without a backslash the rules agree -/
theorem spF_rules (f : Nat → UInt8) (n : Nat) (L : Int → Int) (h : ∀ k, k < n → (f k).toNat ≠ 92) (d i : Nat) (inw inq : Bool) (st : Nat) (cur : List UInt8) (ws : List (ByteArray × Int)) :
    spF f n true L d i inw inq st cur ws = spF f n false L d i inw inq st cur ws := by
  induction d generalizing i inw inq st cur ws with
  | zero => rfl
  | succ d ih =>
    rw [spF, spF]
    by_cases hi : i < n
    · have e1 : ¬ escP f n true i inq := fun e => h i hi e.1
      have e2 : ¬ escP f n false i inq := fun e => h i hi e.1
      rw [if_pos hi, if_pos hi, if_neg e1, if_neg e2]
      simp only [ih]
    · rw [if_neg hi, if_neg hi]

theorem nS_le (inw : Bool) (c : UInt8) (i st : Nat) (h : st ≤ i) : nS inw c i st ≤ i := by
  unfold nS
  split <;> omega
end Go.Proofs.Qxb6001550a
