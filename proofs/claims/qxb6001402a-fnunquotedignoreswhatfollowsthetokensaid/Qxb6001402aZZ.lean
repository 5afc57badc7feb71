import Derived.Test.Qxb6001402aNext
namespace Go.Proofs.Qxb6001402a
open Go.RowKit
set_option linter.unusedVariables false
set_option linter.unusedSimpArgs false

set_option maxRecDepth 100000 in
theorem next_ended (a : ByteArray) (w : World) (b p : Nat) (bs aq ic : Bool) (hl : LexAt w b a p bs aq ic true) :
    Calls Try.prog 23 #[.pointer (some ⟨b, 0, none⟩)] w fun e w' => e = .returned (.agg #[.int .i64 0, .string ⟨#[]⟩, .bool false]) ∧ w' = w.alloc (.cells #[.int .i64 0, .string ⟨#[]⟩, .bool false] 38) := by
  have hbw : b < w.heap.size := (Array.getElem?_eq_some_iff.1 hl).1
  have c5 := hl.c5
  go_enter Try.func23, Try.ntmps23
  go_wp2
  exact bodyPost_ret (res23 _ _ _ _ _ _ rfl (heap_alloc_new w _)) rfl ⟨rfl, rfl⟩

theorem next_ended2 (a : ByteArray) (w : World) (b p : Nat) (bs aq ic : Bool) (hl : LexAt w b a p bs aq ic true) :
    Calls Try.prog 23 #[.pointer (some ⟨b, 0, none⟩)] w fun e w' => e = .returned (.agg #[.int .i64 0, .string ⟨#[]⟩, .bool false]) ∧ LexAt w' b a p bs aq ic true ∧ w.grownBy w' (some b) := by
  refine (next_ended a w b p bs aq ic hl).mono ?_
  rintro e w' ⟨rfl, rfl⟩
  exact ⟨rfl, hl.alloc _, World.grownBy_alloc w _ _⟩

theorem below_drewN {B : Nat} {w w' : World} (h : Below B w w') (n : Nat) : Below B w (w'.drewN n) := ⟨h.os, h.tape, h.output, h.size, h.block⟩

def lexBox (a : ByteArray) (p : Nat) (bs aq ic en : Bool) : Obj := .cells #[.string a, .int .i64 (p : Int), .bool bs, .bool aq, .bool ic, .bool en] 35

/-- what ZZNext leaves of a lexer that has not ended -/
def ZZR (a : ByteArray) (w : World) (p : Nat) (bs aq : Bool) (e : Ending) (w' : World) : Prop :=
  ∃ (k : Int) (t : ByteArray) (te : Bool) (p' : Nat) (ic en : Bool), e = .returned (.tuple #[.int .i64 k, .string t, .bool te, .int .i64 (p' : Int), .bool ic, .bool en]) ∧ p ≤ p' ∧ p' ≤ a.size ∧ (en = true → k = 0) ∧ (en = false → k ≠ 0 ∧ p < p') ∧
    (∀ h : p < a.size, quoteB ((a[p]'h).toNat : Int) = true → k = 2 ∧ te = escB ((a[p]'h).toNat : Int) bs aq ∧ t = a.extract p (qEnd (chr a) a.size (chr a p) te a.size (p + 1))) ∧ Below w.heap.size w w'

set_option maxRecDepth 100000 in
set_option maxHeartbeats 1000000 in
theorem zznext_any (a : ByteArray) (w : World) (hs : a.size ≤ 1048576) (p : Nat) (bs aq ic : Bool) (m : Int) (hp : p ≤ a.size) (hm : w.cell? ⟨0, 0, none⟩ = some (.int .i64 m)) :
    Calls Try.prog 16 #[.string a, .int .i64 (p : Int), .bool bs, .bool aq, .bool ic, .bool false] w fun e w' => ZZR a w p bs aq e w' := by
  have h0 : 0 < w.heap.size := World.block_lt_of_cell? w _ hm
  go_enter Try.func16, Try.ntmps16
  go_wp2_with (go_at_call 23; refine (next_any a _ hs w.heap.size p bs aq ic m h0 hp (heap_alloc_new w (lexBox a p bs aq ic false)) (by rw [World.cell?_alloc_old _ _ _ (by simp; omega)]; exact hm)).mono ?_; rintro e w2 ⟨k, t, te, p', ic', en, rfl, hlx, hpp, hpa, hen, hen', hq, hg⟩)
  have hsz : w.heap.size < w2.heap.size := by have := hg.size; simp at this; omega
  have hbel : Below w.heap.size w w2 := ⟨hg.os, hg.tape, hg.output, by omega, fun j hj => (hg.block j (by simp; omega) (by simp; omega)).trans (Below.heap_alloc w _ j hj)⟩
  have c1 : ∀ o, (w2.alloc o).cell? ⟨w.heap.size, 1, none⟩ = some (.int .i64 (p' : Int)) := fun o => (World.cell?_alloc_old _ _ _ (by simp; omega)).trans hlx.c1
  have c4 : ∀ o, (w2.alloc o).cell? ⟨w.heap.size, 4, none⟩ = some (.bool ic') := fun o => (World.cell?_alloc_old _ _ _ (by simp; omega)).trans hlx.c4
  have c5 : ∀ o, (w2.alloc o).cell? ⟨w.heap.size, 5, none⟩ = some (.bool en) := fun o => (World.cell?_alloc_old _ _ _ (by simp; omega)).trans hlx.c5
  have HQ := hide (And.intro hen (And.intro hen' hq))
  clear hen hen' hq hlx hg
  go_quiet (fail)
  go_wp2
  obtain ⟨hen, hen', hq⟩ := unhide HQ
  refine bodyPost_ret (v := .tuple #[.int .i64 k, .string t, .bool te, .int .i64 (p' : Int), .bool ic', .bool en]) (by simp [results, Try.results16, go_sem]) rfl ⟨k, t, te, p', ic', en, rfl, hpp, hpa, hen, hen', hq, ?_⟩
  exact below_drewN (hbel.alloc (by omega) _) _

set_option maxRecDepth 100000 in
set_option maxHeartbeats 1000000 in
theorem zznext_ended (a : ByteArray) (w : World) (p : Nat) (bs aq ic : Bool) :
    Calls Try.prog 16 #[.string a, .int .i64 (p : Int), .bool bs, .bool aq, .bool ic, .bool true] w fun e w' => e = .returned (.tuple #[.int .i64 0, .string ⟨#[]⟩, .bool false, .int .i64 (p : Int), .bool ic, .bool true]) ∧ Below w.heap.size w w' := by
  go_enter Try.func16, Try.ntmps16
  go_wp2_with (go_at_call 23; refine (next_ended2 a _ w.heap.size p bs aq ic (heap_alloc_new w (lexBox a p bs aq ic true))).mono ?_; rintro e w2 ⟨rfl, hlx, hg⟩)
  have hsz : w.heap.size < w2.heap.size := by have := hg.size; simp at this; omega
  have hbel : Below w.heap.size w w2 := ⟨hg.os, hg.tape, hg.output, by omega, fun j hj => (hg.block j (by simp; omega) (by simp; omega)).trans (Below.heap_alloc w _ j hj)⟩
  have c1 : ∀ o, (w2.alloc o).cell? ⟨w.heap.size, 1, none⟩ = some (.int .i64 (p : Int)) := fun o => (World.cell?_alloc_old _ _ _ (by simp; omega)).trans hlx.c1
  have c4 : ∀ o, (w2.alloc o).cell? ⟨w.heap.size, 4, none⟩ = some (.bool ic) := fun o => (World.cell?_alloc_old _ _ _ (by simp; omega)).trans hlx.c4
  have c5 : ∀ o, (w2.alloc o).cell? ⟨w.heap.size, 5, none⟩ = some (.bool true) := fun o => (World.cell?_alloc_old _ _ _ (by simp; omega)).trans hlx.c5
  clear hlx hg
  go_quiet (fail)
  go_wp2
  refine bodyPost_ret (v := .tuple #[.int .i64 0, .string ⟨#[]⟩, .bool false, .int .i64 (p : Int), .bool ic, .bool true]) (by simp [results, Try.results16, go_sem]) rfl ⟨rfl, ?_⟩
  exact below_drewN (hbel.alloc (by omega) _) _
end Go.Proofs.Qxb6001402a
