import Derived.Test.Qxb6001402aA
import Derived.Test.Qxb6001402aIdx
import Derived.Lib.IndexLaws
import Derived.Deep.QuietTactic
import Derived.BigQuiet
import Derived.Deep.RegionHeld3
import Derived.Deep.RegionWith
import Derived.Deep.DrawnRows
import Derived.Deep.DeepCutAuto
namespace Go.Proofs.Qxb6001402a
open Go.RowKit
set_option linter.unusedVariables false
set_option linter.unusedSimpArgs false
attribute [local go_sem ↓] Go.wp_at_zero Go.wp_at_succ

/-- the lexer that lies in block b -/
def LexAt (w : World) (b : Nat) (a : ByteArray) (p : Nat) (bs aq ic en : Bool) : Prop :=
  w.heap[b]? = some (.cells #[.string a, .int .i64 (p : Int), .bool bs, .bool aq, .bool ic, .bool en] 35 (0, 0))

theorem LexAt.c0 {w : World} {b p : Nat} {a : ByteArray} {bs aq ic en : Bool} (h : LexAt w b a p bs aq ic en) : w.cell? ⟨b, 0, none⟩ = some (.string a) := by rw [cell_of_row w b 0 _ 35 (0, 0) h]; rfl
theorem LexAt.c1 {w : World} {b p : Nat} {a : ByteArray} {bs aq ic en : Bool} (h : LexAt w b a p bs aq ic en) : w.cell? ⟨b, 1, none⟩ = some (.int .i64 (p : Int)) := by rw [cell_of_row w b 1 _ 35 (0, 0) h]; rfl
theorem LexAt.c2 {w : World} {b p : Nat} {a : ByteArray} {bs aq ic en : Bool} (h : LexAt w b a p bs aq ic en) : w.cell? ⟨b, 2, none⟩ = some (.bool bs) := by rw [cell_of_row w b 2 _ 35 (0, 0) h]; rfl
theorem LexAt.c3 {w : World} {b p : Nat} {a : ByteArray} {bs aq ic en : Bool} (h : LexAt w b a p bs aq ic en) : w.cell? ⟨b, 3, none⟩ = some (.bool aq) := by rw [cell_of_row w b 3 _ 35 (0, 0) h]; rfl
theorem LexAt.c4 {w : World} {b p : Nat} {a : ByteArray} {bs aq ic en : Bool} (h : LexAt w b a p bs aq ic en) : w.cell? ⟨b, 4, none⟩ = some (.bool ic) := by rw [cell_of_row w b 4 _ 35 (0, 0) h]; rfl
theorem LexAt.c5 {w : World} {b p : Nat} {a : ByteArray} {bs aq ic en : Bool} (h : LexAt w b a p bs aq ic en) : w.cell? ⟨b, 5, none⟩ = some (.bool en) := by rw [cell_of_row w b 5 _ 35 (0, 0) h]; rfl
theorem LexAt.fr {w : World} {b p : Nat} {a : ByteArray} {bs aq ic en : Bool} (h : LexAt w b a p bs aq ic en) (j : Nat) : w.frozen? ⟨b, j, none⟩ = false := frozen_of_row w b j _ 35 h
theorem LexAt.setPos {w : World} {b p : Nat} {a : ByteArray} {bs aq ic en : Bool} (h : LexAt w b a p bs aq ic en) (q : Nat) : LexAt (w.setCell ⟨b, 1, none⟩ (.int .i64 (q : Int))) b a q bs aq ic en := by
  have := heap_setCell_same w b 1 _ 35 (.int .i64 (q : Int)) h
  simpa [LexAt] using this
theorem LexAt.setCode {w : World} {b p : Nat} {a : ByteArray} {bs aq ic en : Bool} (h : LexAt w b a p bs aq ic en) (q : Bool) : LexAt (w.setCell ⟨b, 4, none⟩ (.bool q)) b a p bs aq q en := by
  have := heap_setCell_same w b 4 _ 35 (.bool q) h
  simpa [LexAt] using this
theorem LexAt.setEnd {w : World} {b p : Nat} {a : ByteArray} {bs aq ic en : Bool} (h : LexAt w b a p bs aq ic en) (q : Bool) : LexAt (w.setCell ⟨b, 5, none⟩ (.bool q)) b a p bs aq ic q := by
  have := heap_setCell_same w b 5 _ 35 (.bool q) h
  simpa [LexAt] using this
theorem LexAt.drew {w : World} {b p : Nat} {a : ByteArray} {bs aq ic en : Bool} (h : LexAt w b a p bs aq ic en) : LexAt w.drew b a p bs aq ic en := h
theorem LexAt.drewN {w : World} {b p : Nat} {a : ByteArray} {bs aq ic en : Bool} (h : LexAt w b a p bs aq ic en) (n : Nat) : LexAt (w.drewN n) b a p bs aq ic en := h

def posOf (b : Nat) (w : World) : Nat := match w.cell? ⟨b, 1, none⟩ with | some (.int _ q) => q.toNat | _ => 0
theorem LexAt.pos {w : World} {b p : Nat} {a : ByteArray} {bs aq ic en : Bool} (h : LexAt w b a p bs aq ic en) : posOf b w = p := by
  unfold posOf; rw [h.c1]; simp

def quoteB (c : Int) : Bool := c == 39 || c == 34 || c == 96

def RelS (a : ByteArray) (w : World) (b p0 : Nat) (bs aq en : Bool) (wr : World) : Prop :=
  ∃ (p : Nat) (ic : Bool), p0 ≤ p ∧ p ≤ a.size ∧ (∀ h : p0 < a.size, quoteB ((a[p0]'h).toNat : Int) = true → p = p0) ∧ LexAt wr b a p bs aq ic en ∧ w.grownBy wr (some b) ∧ wr.heap.size = w.heap.size

theorem grown_drewN {w wr : World} {row : Option Nat} (h : w.grownBy wr row) (n : Nat) : w.grownBy (wr.drewN n) row := ⟨h.os, h.tape, h.output, h.size, h.block⟩

theorem _root_.Go.World.grownBy.setB {w wr : World} {b : Nat} (h : w.grownBy wr (some b)) (x : Addr) (v : Value) (hx : x.block = b) : w.grownBy (wr.setCell x v) (some b) :=
  ⟨h.os, h.tape, h.output, by have := h.size; simpa using this, fun k hk hne => (heap_setCell_other wr x k v (fun e => hne (by rw [e, hx]))).trans (h.block k hk hne)⟩

theorem ext_at (a : ByteArray) (p : Nat) (h : p < a.size) : (a.extract p a.size)[0]'(by simp; omega) = a[p]'h := by
  simp [ByteArray.getElem_extract]

theorem first_at (a : ByteArray) (p : Nat) (h : p < a.size) : (List.take (a.size - p) (List.drop p a.data.toList))[0]? = some ((a.extract p a.size)[0]'(by simp; omega)) := by
  rw [ext_at a p h, List.getElem?_take, if_pos (by omega), List.getElem?_drop, Nat.add_zero]
  have h' : p < a.data.toList.length := by simpa using h
  rw [List.getElem?_eq_getElem h']
  rfl

theorem quote_no {a : ByteArray} {p0 p : Nat} {c : UInt8} {hlt : p < a.size} (hcp : (a[p]'hlt) = c) (hq : ∀ h : p0 < a.size, quoteB ((a[p0]'h).toNat : Int) = true → p = p0) (hn : quoteB (c.toNat : Int) = false) (q : Nat) :
    ∀ h : p0 < a.size, quoteB ((a[p0]'h).toNat : Int) = true → q = p0 := by
  intro h hh
  have e := hq h hh
  subst e
  rw [hcp, hn] at hh
  cases hh

theorem idx_bd (l : List UInt8) (c : UInt8) : -1 ≤ Lib.indexByte l c ∧ Lib.indexByte l c < l.length := by
  refine ⟨Lib.indexByte_ge l c, ?_⟩
  by_cases h : 0 ≤ Lib.indexByte l c
  · obtain ⟨o, ho⟩ := Int.eq_ofNat_of_zero_le h
    have := (Lib.indexByte_some (l := l) (c := c) (o := o) ho).1
    have := (List.getElem?_eq_some_iff.1 this).1
    omega
  · omega

theorem idx_some {l : List UInt8} {c : UInt8} {k : Nat} (h : l[k]? = some c) : 0 ≤ Lib.indexByte l c := by
  have h1 := Lib.indexByte_ge l c
  by_cases e : Lib.indexByte l c = -1
  · exact absurd h (Lib.indexByte_none e k)
  · omega

theorem pre_at {l t : List UInt8} (h : Lib.hasPrefix l t = true) (k : Nat) (x : UInt8) (hk : t[k]? = some x) : l[k]? = some x := by
  unfold Lib.hasPrefix at h
  obtain ⟨r, rfl⟩ := List.isPrefixOf_iff_prefix.1 h
  rw [List.getElem?_append_left (List.getElem?_eq_some_iff.1 hk).1]
  exact hk

theorem pre_len {l t : List UInt8} (h : Lib.hasPrefix l t = true) : t.length ≤ l.length := by
  unfold Lib.hasPrefix at h
  exact (List.isPrefixOf_iff_prefix.1 h).length_le

theorem pre_head {l t : List UInt8} {c x : UInt8} (h0 : l[0]? = some c) (h : Lib.hasPrefix l (x :: t) = true) : c = x := by
  have := pre_at h 0 x rfl
  rw [h0] at this
  exact Option.some.inj this

theorem pre_no {l t : List UInt8} {c x : UInt8} (h0 : l[0]? = some c) (h : c ≠ x) : Lib.hasPrefix l (x :: t) = false := by
  cases e : Lib.hasPrefix l (x :: t) with
  | false => rfl
  | true => exact absurd (pre_head h0 e) h

theorem rel_pos {a : ByteArray} {w wr : World} {b p0 p : Nat} {bs aq ic en : Bool} {n : Nat} {x : Int} (hl : LexAt wr b a p bs aq ic en) (q : Nat) (hpq : p < q) (hqa : q ≤ a.size) (hp1 : p0 ≤ p)
    (hq : Hid (∀ h : p0 < a.size, quoteB ((a[p0]'h).toNat : Int) = true → q = p0)) (hg : w.grownBy wr (some b)) (hz : wr.heap.size = w.heap.size) (hx : x = (q : Int) := by omega) :
    RelS a w b p0 bs aq en ((wr.drewN n).setCell ⟨b, 1, none⟩ (.int .i64 x)) ∧ a.size - posOf b ((wr.drewN n).setCell ⟨b, 1, none⟩ (.int .i64 x)) < a.size - posOf b wr := by
  subst hx
  have hl' := (hl.drewN n).setPos q
  refine ⟨⟨q, ic, by omega, hqa, unhide hq, hl', ?_, by simpa using hz⟩, ?_⟩
  · exact (grown_drewN hg n).setB ⟨b, 1, none⟩ _ rfl
  · rw [hl'.pos, hl.pos]; omega

theorem rel_code {a : ByteArray} {w wr : World} {b p0 p : Nat} {bs aq ic en : Bool} {n : Nat} {x : Int} {cd : Bool} (hl : LexAt wr b a p bs aq ic en) (q : Nat) (hpq : p < q) (hqa : q ≤ a.size) (hp1 : p0 ≤ p)
    (hq : Hid (∀ h : p0 < a.size, quoteB ((a[p0]'h).toNat : Int) = true → q = p0)) (hg : w.grownBy wr (some b)) (hz : wr.heap.size = w.heap.size) (hx : x = (q : Int) := by omega) :
    RelS a w b p0 bs aq en (((wr.drewN n).setCell ⟨b, 1, none⟩ (.int .i64 x)).setCell ⟨b, 4, none⟩ (.bool cd)) ∧ a.size - posOf b (((wr.drewN n).setCell ⟨b, 1, none⟩ (.int .i64 x)).setCell ⟨b, 4, none⟩ (.bool cd)) < a.size - posOf b wr := by
  subst hx
  have hl' := ((hl.drewN n).setPos q).setCode cd
  refine ⟨⟨q, cd, by omega, hqa, unhide hq, hl', ?_, by simpa using hz⟩, ?_⟩
  · exact ((grown_drewN hg n).setB ⟨b, 1, none⟩ _ rfl).setB ⟨b, 4, none⟩ _ rfl
  · rw [hl'.pos, hl.pos]; omega

theorem wrap_in (x : Int) (h : -9223372036854775808 ≤ x ∧ x ≤ 9223372036854775807) : IntKind.i64.wrap x = x := by
  rw [IntKind.wrap_i64]; omega

theorem wp_at_world {P : Program} {c : Code} {Q : Exit → Act → World → Prop} {a : Act} {W : World} (S : World → Prop) (hS : S W) (h : ∀ w', S w' → Code.wp P c Q a w') : Code.wp P c Q a W := h W hS

theorem lex_moved {a : ByteArray} {w wr : World} {b p p1 n : Nat} {bs aq ic en : Bool} {x : Int} (hl : LexAt wr b a p bs aq ic en) (hg : w.grownBy wr (some b)) (hz : wr.heap.size = w.heap.size) (hx : x = (p1 : Int)) :
    LexAt ((wr.drewN n).setCell ⟨b, 1, none⟩ (.int .i64 x)) b a p1 bs aq ic en ∧ w.grownBy ((wr.drewN n).setCell ⟨b, 1, none⟩ (.int .i64 x)) (some b) ∧ ((wr.drewN n).setCell ⟨b, 1, none⟩ (.int .i64 x)).heap.size = w.heap.size := by
  subst hx
  exact ⟨(hl.drewN n).setPos p1, (grown_drewN hg n).setB ⟨b, 1, none⟩ _ rfl, by simpa using hz⟩

theorem wrap64_nat (p k : Nat) (h : p + k ≤ 1048576) : wrap64 ((p : Int) + (k : Int)) = ((p + k : Nat) : Int) := by
  unfold wrap64; omega

theorem rel_exec {a : ByteArray} {w wr wx : World} {b p0 p p1 : Nat} {bs aq ic en : Bool} {x : Int} {cd : Bool} (hl : LexAt wr b a p bs aq ic en) (hlx : LexAt wx b a p1 bs aq ic en) (q : Nat) (hpq : p < q) (hqa : q ≤ a.size) (hp1 : p0 ≤ p)
    (hq : Hid (∀ h : p0 < a.size, quoteB ((a[p0]'h).toNat : Int) = true → q = p0)) (hg : w.grownBy wx (some b)) (hz : wx.heap.size = w.heap.size) (hx : x = (q : Int)) :
    RelS a w b p0 bs aq en ((wx.setCell ⟨b, 1, none⟩ (.int .i64 x)).setCell ⟨b, 4, none⟩ (.bool cd)).drew ∧ a.size - posOf b ((wx.setCell ⟨b, 1, none⟩ (.int .i64 x)).setCell ⟨b, 4, none⟩ (.bool cd)).drew < a.size - posOf b wr := by
  subst hx
  have hl' := (hlx.setPos q).setCode cd
  refine ⟨⟨q, cd, by omega, hqa, unhide hq, hl'.drew, ?_, by simpa using hz⟩, ?_⟩
  · have := (hg.setB ⟨b, 1, none⟩ (.int .i64 (q : Int)) rfl).setB ⟨b, 4, none⟩ (.bool cd) rfl
    exact grown_drewN this 1
  · rw [hl'.drew.pos, hl.pos]; omega

theorem lex_moved1 {a : ByteArray} {w wr : World} {b p p1 : Nat} {bs aq ic en : Bool} {x : Int} (hl : LexAt wr b a p bs aq ic en) (hg : w.grownBy wr (some b)) (hz : wr.heap.size = w.heap.size) (hx : x = (p1 : Int)) :
    LexAt (wr.setCell ⟨b, 1, none⟩ (.int .i64 x)).drew b a p1 bs aq ic en ∧ w.grownBy (wr.setCell ⟨b, 1, none⟩ (.int .i64 x)).drew (some b) ∧ (wr.setCell ⟨b, 1, none⟩ (.int .i64 x)).drew.heap.size = w.heap.size := by
  subst hx
  exact ⟨(hl.setPos p1).drew, grown_drewN (hg.setB ⟨b, 1, none⟩ _ rfl) 1, by simpa using hz⟩

theorem index_bd (l sub : List UInt8) : -1 ≤ Lib.index l sub ∧ (0 ≤ Lib.index l sub → Lib.index l sub + sub.length ≤ l.length) := by
  refine ⟨Lib.index_ge l sub, ?_⟩
  induction l with
  | nil =>
    unfold Lib.index
    split
    · rename_i h; simp at h; subst h; simp
    · intro h; omega
  | cons b l ih =>
    unfold Lib.index
    split
    · rename_i h
      have := (List.isPrefixOf_iff_prefix.1 h).length_le
      intro _; omega
    · split
      · intro h; omega
      · rename_i h1 h2
        intro h
        have hge := Lib.index_ge l sub
        have h2' : Lib.index l sub ≠ -1 := by simpa using h2
        have := ih (by omega)
        simp only [List.length_cons]
        omega

set_option maxRecDepth 100000 in
set_option maxHeartbeats 2000000 in
theorem skip_any (a : ByteArray) (w : World) (hs : a.size ≤ 1048576) (b p0 : Nat) (bs aq ic0 en : Bool) (m : Int) (hb : 0 < b) (hp0 : p0 ≤ a.size) (hl : LexAt w b a p0 bs aq ic0 en) (hm : w.cell? ⟨0, 0, none⟩ = some (.int .i64 m)) :
    Calls Try.prog 22 #[.pointer (some ⟨b, 0, none⟩)] w fun e w' => e = .returned (.tuple #[]) ∧ RelS a w b p0 bs aq en w' := by
  go_enter Try.func22, Try.ntmps22
  go_wp2
  go_loopw [2] (fun _ wr => RelS a w b p0 bs aq en wr) (fun _ wr => a.size - posOf b wr)
  case atStart => exact ⟨p0, ic0, by omega, hp0, fun _ _ => rfl, hl, World.grownBy.refl _ _, rfl⟩
  case round =>
    obtain ⟨p, ic, hp1, hp2, hq, hlx, hg, hz⟩ := hrel
    have c0 := hlx.c0
    have c1 := hlx.c1
    have c4 := hlx.c4
    have f1 := hlx.fr 1
    have f4 := hlx.fr 4
    have HL := hide hlx
    have HQ := hide hq
    clear hlx hq
    have hm' : wr.cell? ⟨0, 0, none⟩ = some (.int .i64 m) := hg.cell hm (by simp; omega)
    by_cases hlt : p < a.size
    · have hlt' : (p : Int) < a.size := by omega
      have hsz : 0 < a.size - p := by omega
      obtain ⟨R, eR⟩ : ∃ R, List.take (a.size - p) (List.drop p a.data.toList) = R := ⟨_, rfl⟩
      have hRl : R.length = a.size - p := by rw [← eR]; simp
      have HRL := hide hRl
      obtain ⟨c, hc⟩ : ∃ c : UInt8, (a.extract p a.size)[0]'(by simp; omega) = c := ⟨_, rfl⟩
      have HR0 : Hid (R[0]? = some c) := by rw [← eR, ← hc]; exact first_at a p hlt
      have HCP : Hid ((a[p]'hlt) = c) := by rw [← hc, ext_at a p hlt]; exact hide rfl
      have HQC : quoteB (c.toNat : Int) = false → ∀ q : Nat, Hid (∀ h : p0 < a.size, quoteB ((a[p0]'h).toNat : Int) = true → q = p0) := fun hn q => hide (quote_no (unhide HCP) (unhide HQ) hn q)
      have HHQ := hide HQC
      clear hRl HQC
      go_wp2
      go_quiet (fail)
      go_wp2
      go_quiet (fail)
      by_cases hsp : (c.toNat : Int) ≤ 32
      · go_wp2_with (first | (go_at_call 25; refine (space_any _ _).mono ?_; rintro e w' ⟨rfl, rfl⟩) | (go_at_call 26; refine (hasPrefix_any _ _ _).mono ?_; rintro e w' ⟨rfl, rfl⟩) | (go_at_call 27; refine (indexByte_any _ _ _).mono ?_; rintro e w' ⟨rfl, rfl⟩) | (go_at_call 29; refine (Try.strings_Index _ _ m _ (by simp; omega) (by exact hm')).mono ?_; rintro e w' ⟨rfl, rfl⟩))
        exact rel_pos (unhide HL) (p + 1) (by omega) (by omega) hp1 (unhide HHQ (by simp [quoteB]; omega) _) hg hz
      · by_cases h127 : (c.toNat : Int) = 127
        · have h127' : ((c.toNat : Int) == 127) = true := by simpa using h127
          clear h127
          go_wp2_with (first | (go_at_call 25; refine (space_any _ _).mono ?_; rintro e w' ⟨rfl, rfl⟩) | (go_at_call 26; refine (hasPrefix_any _ _ _).mono ?_; rintro e w' ⟨rfl, rfl⟩) | (go_at_call 27; refine (indexByte_any _ _ _).mono ?_; rintro e w' ⟨rfl, rfl⟩) | (go_at_call 29; refine (Try.strings_Index _ _ m _ (by simp; omega) (by exact hm')).mono ?_; rintro e w' ⟨rfl, rfl⟩))
          exact rel_pos (unhide HL) (p + 1) (by omega) (by omega) hp1 (unhide HHQ (by simp at h127'; simp [quoteB]; omega) _) hg hz
        · have h127' : ((c.toNat : Int) == 127) = false := by simpa using h127
          clear h127
          by_cases h35 : (c.toNat : Int) = 35
          · have h35' : ((c.toNat : Int) == 35) = true := by simpa using h35
            clear h35
            have hq := hide (unhide HHQ (by simp at h35'; simp [quoteB]; omega))
            obtain ⟨q, hqq⟩ : ∃ q, Lib.indexByte R 10 = q := ⟨_, rfl⟩
            have hqb := idx_bd R 10
            rw [hqq, unhide HRL] at hqb
            by_cases hq0 : 0 ≤ q
            · go_wp2_with (first | (go_at_call 25; refine (space_any _ _).mono ?_; rintro e w' ⟨rfl, rfl⟩) | (go_at_call 26; refine (hasPrefix_any _ _ _).mono ?_; rintro e w' ⟨rfl, rfl⟩) | (go_at_call 27; refine (indexByte_any _ _ _).mono ?_; rintro e w' ⟨rfl, rfl⟩) | (go_at_call 29; refine (Try.strings_Index _ _ m _ (by simp; omega) (by exact hm')).mono ?_; rintro e w' ⟨rfl, rfl⟩))
              exact rel_pos (unhide HL) (p + q.toNat + 1) (by omega) (by omega) hp1 (unhide hq _) hg hz
            · go_wp2_with (first | (go_at_call 25; refine (space_any _ _).mono ?_; rintro e w' ⟨rfl, rfl⟩) | (go_at_call 26; refine (hasPrefix_any _ _ _).mono ?_; rintro e w' ⟨rfl, rfl⟩) | (go_at_call 27; refine (indexByte_any _ _ _).mono ?_; rintro e w' ⟨rfl, rfl⟩) | (go_at_call 29; refine (Try.strings_Index _ _ m _ (by simp; omega) (by exact hm')).mono ?_; rintro e w' ⟨rfl, rfl⟩))
              exact rel_pos (unhide HL) a.size (by omega) (by omega) hp1 (unhide hq _) hg hz
          · have h35' : ((c.toNat : Int) == 35) = false := by simpa using h35
            clear h35
            cases hB2 : Lib.hasPrefix R [45, 45] with
            | true =>
              have h45 : c = 45 := pre_head (unhide HR0) hB2
              have H45 := hide h45
              have hl2 : 2 ≤ a.size - p := by have := pre_len hB2; rw [unhide HRL] at this; simpa using this
              have hq := hide (unhide HHQ (by rw [h45]; decide))
              by_cases h2 : a.size - p = 2
              · have h2' : (((a.size - p : Nat) : Int) == 2) = true := by simp; omega
                clear h45
                obtain ⟨q, hqq⟩ : ∃ q, Lib.indexByte R 10 = q := ⟨_, rfl⟩
                have hqb := idx_bd R 10
                rw [hqq, unhide HRL] at hqb
                by_cases hq0 : 0 ≤ q
                · go_wp2_with (first | (go_at_call 25; refine (space_any _ _).mono ?_; rintro e w' ⟨rfl, rfl⟩) | (go_at_call 26; refine (hasPrefix_any _ _ _).mono ?_; rintro e w' ⟨rfl, rfl⟩) | (go_at_call 27; refine (indexByte_any _ _ _).mono ?_; rintro e w' ⟨rfl, rfl⟩) | (go_at_call 29; refine (Try.strings_Index _ _ m _ (by simp; omega) (by exact hm')).mono ?_; rintro e w' ⟨rfl, rfl⟩))
                  exact rel_pos (unhide HL) (p + q.toNat + 1) (by omega) (by omega) hp1 (unhide hq _) hg hz
                · go_wp2_with (first | (go_at_call 25; refine (space_any _ _).mono ?_; rintro e w' ⟨rfl, rfl⟩) | (go_at_call 26; refine (hasPrefix_any _ _ _).mono ?_; rintro e w' ⟨rfl, rfl⟩) | (go_at_call 27; refine (indexByte_any _ _ _).mono ?_; rintro e w' ⟨rfl, rfl⟩) | (go_at_call 29; refine (Try.strings_Index _ _ m _ (by simp; omega) (by exact hm')).mono ?_; rintro e w' ⟨rfl, rfl⟩))
                  exact rel_pos (unhide HL) a.size (by omega) (by omega) hp1 (unhide hq _) hg hz
              · have h2' : (((a.size - p : Nat) : Int) == 2) = false := by simp; omega
                have hl3 : 2 < a.size - p := by omega
                have hl3' : (2 : Int) < ((a.size - p : Nat) : Int) := by omega
                obtain ⟨d, hd⟩ : ∃ d : UInt8, (a.extract p a.size)[2]'(by simp; omega) = d := ⟨_, rfl⟩
                by_cases hd1 : (d.toNat : Int) ≤ 32
                · clear h45
                  obtain ⟨q, hqq⟩ : ∃ q, Lib.indexByte R 10 = q := ⟨_, rfl⟩
                  have hqb := idx_bd R 10
                  rw [hqq, unhide HRL] at hqb
                  by_cases hq0 : 0 ≤ q
                  · go_wp2_with (first | (go_at_call 25; refine (space_any _ _).mono ?_; rintro e w' ⟨rfl, rfl⟩) | (go_at_call 26; refine (hasPrefix_any _ _ _).mono ?_; rintro e w' ⟨rfl, rfl⟩) | (go_at_call 27; refine (indexByte_any _ _ _).mono ?_; rintro e w' ⟨rfl, rfl⟩) | (go_at_call 29; refine (Try.strings_Index _ _ m _ (by simp; omega) (by exact hm')).mono ?_; rintro e w' ⟨rfl, rfl⟩))
                    exact rel_pos (unhide HL) (p + q.toNat + 1) (by omega) (by omega) hp1 (unhide hq _) hg hz
                  · go_wp2_with (first | (go_at_call 25; refine (space_any _ _).mono ?_; rintro e w' ⟨rfl, rfl⟩) | (go_at_call 26; refine (hasPrefix_any _ _ _).mono ?_; rintro e w' ⟨rfl, rfl⟩) | (go_at_call 27; refine (indexByte_any _ _ _).mono ?_; rintro e w' ⟨rfl, rfl⟩) | (go_at_call 29; refine (Try.strings_Index _ _ m _ (by simp; omega) (by exact hm')).mono ?_; rintro e w' ⟨rfl, rfl⟩))
                    exact rel_pos (unhide HL) a.size (by omega) (by omega) hp1 (unhide hq _) hg hz
                · by_cases hd2 : (d.toNat : Int) = 127
                  · have hd2' : ((d.toNat : Int) == 127) = true := by simpa using hd2
                    clear hd2 h45
                    obtain ⟨q, hqq⟩ : ∃ q, Lib.indexByte R 10 = q := ⟨_, rfl⟩
                    have hqb := idx_bd R 10
                    rw [hqq, unhide HRL] at hqb
                    by_cases hq0 : 0 ≤ q
                    · go_wp2_with (first | (go_at_call 25; refine (space_any _ _).mono ?_; rintro e w' ⟨rfl, rfl⟩) | (go_at_call 26; refine (hasPrefix_any _ _ _).mono ?_; rintro e w' ⟨rfl, rfl⟩) | (go_at_call 27; refine (indexByte_any _ _ _).mono ?_; rintro e w' ⟨rfl, rfl⟩) | (go_at_call 29; refine (Try.strings_Index _ _ m _ (by simp; omega) (by exact hm')).mono ?_; rintro e w' ⟨rfl, rfl⟩))
                      exact rel_pos (unhide HL) (p + q.toNat + 1) (by omega) (by omega) hp1 (unhide hq _) hg hz
                    · go_wp2_with (first | (go_at_call 25; refine (space_any _ _).mono ?_; rintro e w' ⟨rfl, rfl⟩) | (go_at_call 26; refine (hasPrefix_any _ _ _).mono ?_; rintro e w' ⟨rfl, rfl⟩) | (go_at_call 27; refine (indexByte_any _ _ _).mono ?_; rintro e w' ⟨rfl, rfl⟩) | (go_at_call 29; refine (Try.strings_Index _ _ m _ (by simp; omega) (by exact hm')).mono ?_; rintro e w' ⟨rfl, rfl⟩))
                      exact rel_pos (unhide HL) a.size (by omega) (by omega) hp1 (unhide hq _) hg hz
                  · have hd2' : ((d.toNat : Int) == 127) = false := by simpa using hd2
                    have n3 : Lib.hasPrefix R [47, 42, 33] = false := pre_no (unhide HR0) (by intro e; rw [e] at h45; revert h45; decide)
                    have n4 : Lib.hasPrefix R [47, 42, 77, 33] = false := pre_no (unhide HR0) (by intro e; rw [e] at h45; revert h45; decide)
                    have n5 : Lib.hasPrefix R [47, 42] = false := pre_no (unhide HR0) (by intro e; rw [e] at h45; revert h45; decide)
                    have n6 : Lib.hasPrefix R [42, 47] = false := pre_no (unhide HR0) (by intro e; rw [e] at h45; revert h45; decide)
                    clear hd2 h45
                    go_wp2_with (first | (go_at_call 25; refine (space_any _ _).mono ?_; rintro e w' ⟨rfl, rfl⟩) | (go_at_call 26; refine (hasPrefix_any _ _ _).mono ?_; rintro e w' ⟨rfl, rfl⟩) | (go_at_call 27; refine (indexByte_any _ _ _).mono ?_; rintro e w' ⟨rfl, rfl⟩) | (go_at_call 29; refine (Try.strings_Index _ _ m _ (by simp; omega) (by exact hm')).mono ?_; rintro e w' ⟨rfl, rfl⟩))
                    all_goals (refine bodyPost_ret (results_none rfl _ _ _) rfl ?_; exact ⟨rfl, p, ic, hp1, hp2, unhide HQ, (unhide HL).drewN _, grown_drewN hg _, hz⟩)
            | false =>
              by_cases hex : Lib.hasPrefix R [47, 42, 33] = true ∨ Lib.hasPrefix R [47, 42, 77, 33] = true
              · have h47 : c = 47 := by rcases hex with h | h <;> exact pre_head (unhide HR0) h
                have hq := hide (unhide HHQ (by rw [h47]; decide))
                clear h47
                obtain ⟨q, hqq⟩ : ∃ q, Lib.indexByte R 33 = q := ⟨_, rfl⟩
                have hqb := idx_bd R 33
                have hq0 : 0 ≤ q := by rw [← hqq]; rcases hex with h | h; exact idx_some (pre_at h 2 33 rfl); exact idx_some (pre_at h 3 33 rfl)
                rw [hqq, unhide HRL] at hqb
                obtain ⟨p1, hp1q⟩ : ∃ p1 : Nat, (p1 : Int) = (p : Int) + (q + 1) := ⟨p + q.toNat + 1, by omega⟩
                have hpp : p < p1 := by omega
                have hpa : p1 ≤ a.size := by omega
                have hxx : IntKind.i64.wrap ((p : Int) + IntKind.i64.wrap (q + 1)) = (p1 : Int) := by rw [wrap_in (q + 1) (by omega), wrap_in _ (by omega)]; omega
                have HX := hide hxx
                clear hxx hp1q
                have HEX := hide hex
                clear hex
                go_upto_region 9 with (first | (go_at_call 25; refine (space_any _ _).mono ?_; rintro e w' ⟨rfl, rfl⟩) | (go_at_call 26; refine (hasPrefix_any _ _ _).mono ?_; rintro e w' ⟨rfl, rfl⟩) | (go_at_call 27; refine (indexByte_any _ _ _).mono ?_; rintro e w' ⟨rfl, rfl⟩) | (go_at_call 29; refine (Try.strings_Index _ _ m _ (by simp; omega) (by exact hm')).mono ?_; rintro e w' ⟨rfl, rfl⟩))
                go_cut [74] (fun v wx => v = .bool true ∧ LexAt wx b a p bs aq ic en ∧ w.grownBy wx (some b) ∧ wx.heap.size = w.heap.size)
                case first =>
                  cases hB3 : Lib.hasPrefix R [47, 42, 33] with
                  | true =>
                    go_wp2_with (first | (go_at_call 25; refine (space_any _ _).mono ?_; rintro e w' ⟨rfl, rfl⟩) | (go_at_call 26; refine (hasPrefix_any _ _ _).mono ?_; rintro e w' ⟨rfl, rfl⟩) | (go_at_call 27; refine (indexByte_any _ _ _).mono ?_; rintro e w' ⟨rfl, rfl⟩) | (go_at_call 29; refine (Try.strings_Index _ _ m _ (by simp; omega) (by exact hm')).mono ?_; rintro e w' ⟨rfl, rfl⟩))
                    go_meet
                    case rel => exact ⟨rfl, (unhide HL).drewN _, grown_drewN hg _, hz⟩
                  | false =>
                    have hB4 : Lib.hasPrefix R [47, 42, 77, 33] = true := by
                      rcases unhide HEX with h | h
                      · rw [hB3] at h; cases h
                      · exact h
                    go_wp2_with (first | (go_at_call 25; refine (space_any _ _).mono ?_; rintro e w' ⟨rfl, rfl⟩) | (go_at_call 26; refine (hasPrefix_any _ _ _).mono ?_; rintro e w' ⟨rfl, rfl⟩) | (go_at_call 27; refine (indexByte_any _ _ _).mono ?_; rintro e w' ⟨rfl, rfl⟩) | (go_at_call 29; refine (Try.strings_Index _ _ m _ (by simp; omega) (by exact hm')).mono ?_; rintro e w' ⟨rfl, rfl⟩))
                    go_meet
                    case rel => exact ⟨rfl, (unhide HL).drewN _, grown_drewN hg _, hz⟩
                case rest =>
                  obtain ⟨rfl, hly, hgy, hzy⟩ := hcut
                  clear c0 c1 c4 f1 f4 hm'
                  have c0 := hly.c0
                  have c1 := hly.c1
                  have c4 := hly.c4
                  have f1 := hly.fr 1
                  have f4 := hly.fr 4
                  have HLY := hide hly
                  clear hly
                  go_wp2_with fail
                  go_cut [90] (fun _ wx => LexAt wx b a p1 bs aq ic en ∧ w.grownBy wx (some b) ∧ wx.heap.size = w.heap.size)
                  case first =>
                    go_region_with ((go_at_call 27; refine (indexByte_any _ _ _).mono ?_; rintro e w' ⟨rfl, rfl⟩))
                    all_goals
                      go_wp2_with fail
                      go_meet
                      case rel => exact lex_moved1 (unhide HLY) hgy hzy (unhide HX)
                  case rest =>
                    obtain ⟨hlx, hgx, hzx⟩ := hcut
                    clear c0 c1 c4 f1 f4
                    have c0 := hlx.c0
                    have c1 := hlx.c1
                    have c4 := hlx.c4
                    have f1 := hlx.fr 1
                    have f4 := hlx.fr 4
                    have HLX := hide hlx
                    clear hlx
                    have hpa' : (p1 : Int) ≤ a.size := by omega
                    have hpz : (0 : Int) ≤ p1 := by omega
                    go_wp2_with fail
                    go_region_with ((go_at_call 28; refine (version_any _ _ (by simp; omega)).mono ?_; rintro e w' ⟨⟨k, hk, rfl⟩, rfl⟩))
                    all_goals
                      go_wp2
                      have hk' : k ≤ a.size - p1 := by simpa using hk
                      exact rel_exec (unhide HL) (unhide HLX) (p1 + k) (by omega) (by omega) (by omega) (unhide hq _) hgx hzx (wrap64_nat p1 k (by omega))
              · have hB3 : Lib.hasPrefix R [47, 42, 33] = false := by cases h : Lib.hasPrefix R [47, 42, 33] with | false => rfl | true => exact absurd (.inl h) hex
                have hB4 : Lib.hasPrefix R [47, 42, 77, 33] = false := by cases h : Lib.hasPrefix R [47, 42, 77, 33] with | false => rfl | true => exact absurd (.inr h) hex
                clear hex
                cases hB5 : Lib.hasPrefix R [47, 42] with
                | true =>
                  have h47 : c = 47 := pre_head (unhide HR0) hB5
                  have hq := hide (unhide HHQ (by rw [h47]; decide))
                  clear h47
                  have hl2 : 2 ≤ a.size - p := by have := pre_len hB5; rw [unhide HRL] at this; simpa using this
                  have hl2' : (2 : Int) ≤ ((a.size - p : Nat) : Int) := by omega
                  obtain ⟨q, hqq⟩ : ∃ q, Lib.index (List.take (a.size - (p + 2)) (List.drop (p + 2) a.data.toList)) [42, 47] = q := ⟨_, rfl⟩
                  have hqb := index_bd (List.take (a.size - (p + 2)) (List.drop (p + 2) a.data.toList)) [42, 47]
                  rw [hqq] at hqb
                  simp only [List.length_take, List.length_drop, Array.length_toList, ByteArray.size_data, List.length_cons, List.length_nil] at hqb
                  by_cases hq0 : 0 ≤ q
                  · have hqc : q + 2 + 2 ≤ ((a.size - p : Nat) : Int) := by have := hqb.2 hq0; omega
                    go_wp2_with (first | (go_at_call 25; refine (space_any _ _).mono ?_; rintro e w' ⟨rfl, rfl⟩) | (go_at_call 26; refine (hasPrefix_any _ _ _).mono ?_; rintro e w' ⟨rfl, rfl⟩) | (go_at_call 27; refine (indexByte_any _ _ _).mono ?_; rintro e w' ⟨rfl, rfl⟩) | (go_at_call 29; refine (Try.strings_Index _ _ m _ (by simp; omega) (by exact hm')).mono ?_; rintro e w' ⟨rfl, rfl⟩))
                    exact rel_pos (unhide HL) (p + q.toNat + 4) (by omega) (by omega) hp1 (unhide hq _) hg hz
                  · go_wp2_with (first | (go_at_call 25; refine (space_any _ _).mono ?_; rintro e w' ⟨rfl, rfl⟩) | (go_at_call 26; refine (hasPrefix_any _ _ _).mono ?_; rintro e w' ⟨rfl, rfl⟩) | (go_at_call 27; refine (indexByte_any _ _ _).mono ?_; rintro e w' ⟨rfl, rfl⟩) | (go_at_call 29; refine (Try.strings_Index _ _ m _ (by simp; omega) (by exact hm')).mono ?_; rintro e w' ⟨rfl, rfl⟩))
                    exact rel_pos (unhide HL) a.size (by omega) (by omega) hp1 (unhide hq _) hg hz
                | false =>
                  cases ic with
                  | true =>
                    cases hB6 : Lib.hasPrefix R [42, 47] with
                    | true =>
                      have h42 : c = 42 := pre_head (unhide HR0) hB6
                      have hq := hide (unhide HHQ (by rw [h42]; decide))
                      clear h42
                      have hl2 : 2 ≤ a.size - p := by have := pre_len hB6; rw [unhide HRL] at this; simpa using this
                      go_wp2_with (first | (go_at_call 25; refine (space_any _ _).mono ?_; rintro e w' ⟨rfl, rfl⟩) | (go_at_call 26; refine (hasPrefix_any _ _ _).mono ?_; rintro e w' ⟨rfl, rfl⟩) | (go_at_call 27; refine (indexByte_any _ _ _).mono ?_; rintro e w' ⟨rfl, rfl⟩) | (go_at_call 29; refine (Try.strings_Index _ _ m _ (by simp; omega) (by exact hm')).mono ?_; rintro e w' ⟨rfl, rfl⟩))
                      exact rel_code (unhide HL) (p + 2) (by omega) (by omega) hp1 (unhide hq _) hg hz
                    | false =>
                      go_wp2_with (first | (go_at_call 25; refine (space_any _ _).mono ?_; rintro e w' ⟨rfl, rfl⟩) | (go_at_call 26; refine (hasPrefix_any _ _ _).mono ?_; rintro e w' ⟨rfl, rfl⟩) | (go_at_call 27; refine (indexByte_any _ _ _).mono ?_; rintro e w' ⟨rfl, rfl⟩) | (go_at_call 29; refine (Try.strings_Index _ _ m _ (by simp; omega) (by exact hm')).mono ?_; rintro e w' ⟨rfl, rfl⟩))
                      all_goals (refine bodyPost_ret (results_none rfl _ _ _) rfl ?_; exact ⟨rfl, p, true, hp1, hp2, unhide HQ, (unhide HL).drewN _, grown_drewN hg _, hz⟩)
                  | false =>
                    go_wp2_with (first | (go_at_call 25; refine (space_any _ _).mono ?_; rintro e w' ⟨rfl, rfl⟩) | (go_at_call 26; refine (hasPrefix_any _ _ _).mono ?_; rintro e w' ⟨rfl, rfl⟩) | (go_at_call 27; refine (indexByte_any _ _ _).mono ?_; rintro e w' ⟨rfl, rfl⟩) | (go_at_call 29; refine (Try.strings_Index _ _ m _ (by simp; omega) (by exact hm')).mono ?_; rintro e w' ⟨rfl, rfl⟩))
                    all_goals (refine bodyPost_ret (results_none rfl _ _ _) rfl ?_; exact ⟨rfl, p, false, hp1, hp2, unhide HQ, (unhide HL).drewN _, grown_drewN hg _, hz⟩)
    · have hd : decide ((p : Int) < a.size) = false := by simp; omega
      go_wp2
      go_quiet (fail)
      go_wp2
      go_end0
      exact ⟨rfl, p, ic, hp1, hp2, unhide HQ, (unhide HL).drewN nq, grown_drewN hg nq, hz⟩
end Go.Proofs.Qxb6001402a
