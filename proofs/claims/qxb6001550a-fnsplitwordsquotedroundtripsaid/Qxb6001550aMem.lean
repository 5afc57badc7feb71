import Derived.Test.Qxb6001550aA
namespace Go.Proofs.Qxb6001550a
open Go.RowKit
set_option linter.unusedVariables false
set_option linter.unusedSimpArgs false

/-! ### the memory of splitWords: the builder at b, the words' row above it -/

theorem own_others {w w' : World} {b n : Nat} {v : Value} {xs : List Value} (h : w.ownsRow (b + 1) 47 2 v n xs) (ho : Lib.OthersKept 5 (some b) w w') : w'.ownsRow (b + 1) 47 2 v n xs := by
  refine ⟨h.1, ?_⟩
  rcases h.2 with hn | ⟨g, cap, cur, rfl, hb, hg, rest⟩
  · exact .inl hn
  · refine .inr ⟨g, cap, cur, rfl, hb, ?_, rest⟩
    exact ho g _ hg (by intro e; cases e; omega) (by intro c fz e; cases e)

theorem builder_grown {w w' : World} {b : Nat} {bs : List Value} {v : Value} {n : Nat} {xs : List Value} (h : Lib.IsBuilderF 50 5 b b bs w) (hg : w.grownBy w' v.ownBlock) (hv : w.ownsRow (b + 1) 47 2 v n xs) : Lib.IsBuilderF 50 5 b b bs w' := by
  have key : ∀ p, Lib.BuilderAtF 50 5 b b p bs w → Lib.BuilderAtF 50 5 b b p bs w' := by
    rintro p ⟨hB, u, hb, hown, hne⟩
    have hbl : b < w.heap.size := (Array.getElem?_eq_some_iff.1 hb).1
    refine ⟨hB, u, ?_, ?_, hne⟩
    · rw [hg.block b hbl ?_]
      · exact hb
      · intro e
        have := (hv.lt b e.symm).1
        omega
    · refine hown.kept hg ?_
      rcases hown.2 with ⟨rfl, _⟩ | ⟨g, cap, cur, fz, rfl, _, hgg, _⟩
      · exact .inl rfl
      · refine .inr ?_
        intro e
        obtain ⟨c, fz', hc⟩ := Lib.ownsRow_kind hv g (by rw [← e]; rfl)
        rw [hgg] at hc
        cases hc
  exact h.elim (fun x => .inl (key _ x)) (fun x => .inr (key _ x))

theorem BuilderAtF.reset {w : World} {b : Nat} {p : Value} {bs : List Value} (h : Lib.BuilderAtF 50 5 b b p bs w) : Lib.IsBuilderF 50 5 b b [] ((w.setCell ⟨b, 0, none⟩ (.pointer none)).setCell ⟨b, 1, none⟩ (.slice none 0 0)) := by
  obtain ⟨hB, u, hb, hown, hne⟩ := h
  refine .inl ⟨hB, .slice none 0 0, ?_, ⟨rfl, .inl ⟨rfl, rfl⟩⟩, by simp [Value.ownBlock]⟩
  have h1 := heap_setCell_same w b 0 _ 50 (.pointer none) hb
  have h2 := heap_setCell_same _ b 1 _ 50 (.slice none 0 0) h1
  exact h2

theorem builder_cells {w : World} {b : Nat} {bs : List Value} (h : Lib.IsBuilderF 50 5 b b bs w) : ∃ p u, w.heap[b]? = some (.cells #[p, u] 50 (0, 0)) ∧ Lib.BuilderAtF 50 5 b b p bs w := by
  rcases h with h | h
  · obtain ⟨hB, u, hb, hown, hne⟩ := h
    exact ⟨_, u, hb, hB, u, hb, hown, hne⟩
  · obtain ⟨hB, u, hb, hown, hne⟩ := h
    exact ⟨_, u, hb, hB, u, hb, hown, hne⟩

theorem reset_any (b : Nat) (bs : List Value) (w : World) (h : Lib.IsBuilderF 50 5 b b bs w) :
    Calls Try.prog 20 #[.pointer (some ⟨b, 0, none⟩)] w fun e w' => e = .returned (.tuple #[]) ∧ Lib.IsBuilderF 50 5 b b [] w' ∧ Below b w w' ∧ Lib.OthersKept 5 (some b) w w' ∧ w'.heap.size = w.heap.size := by
  obtain ⟨p, u, hb, hat⟩ := builder_cells h
  have c0 : w.cell? ⟨b, 0, none⟩ = some p := by simp [World.cell?, hb]
  have c1 : w.cell? ⟨b, 1, none⟩ = some u := by simp [World.cell?, hb]
  have f0 : w.frozen? ⟨b, 0, none⟩ = false := by simp [World.frozen?, hb]
  have f1 : w.frozen? ⟨b, 1, none⟩ = false := by simp [World.frozen?, hb]
  have HA := hide hat
  clear hat h hb
  go_enter Try.func20, Try.ntmps20
  go_wp2
  refine bodyPost_end (results_none rfl _ _ _) rfl ?_
  exact ⟨rfl, BuilderAtF.reset (unhide HA), ((Below.refl b w).setCell (p := ⟨b, 0, none⟩) (Nat.le_refl _) _).setCell (p := ⟨b, 1, none⟩) (Nat.le_refl _) _, ((Lib.OthersKept.refl _ _ w).setCell ⟨b, 0, none⟩ rfl _).setCell ⟨b, 1, none⟩ rfl _, by simp⟩

/-- the words' cells -/
def flat (ws : List (ByteArray × Int)) : List Value := ws.flatMap fun p => [.string p.1, .int .i64 p.2]

theorem flat_snoc (ws : List (ByteArray × Int)) (s : ByteArray) (l : Int) : flat (ws ++ [(s, l)]) = flat ws ++ [.string s, .int .i64 l] := by simp [flat]

theorem flat_at (ws : List (ByteArray × Int)) (k : Nat) (hk : k < ws.length) : (flat ws)[2 * k]? = some (.string (ws[k]'hk).1) ∧ (flat ws)[2 * k + 1]? = some (.int .i64 (ws[k]'hk).2) := by
  induction ws generalizing k with
  | nil => simp at hk
  | cons p ps ih =>
    cases k with
    | zero => simp [flat]
    | succ k =>
      have := ih k (by simpa using hk)
      rw [show 2 * (k + 1) = 2 * k + 1 + 1 by omega]
      simpa [flat] using this

structure Mem (w0 : World) (b : Nat) (cur : List UInt8) (v : Value) (ws : List (ByteArray × Int)) (wr : World) : Prop where
  bd : Lib.IsBuilderF 50 5 b b (Lib.byteCells cur) wr
  row : wr.ownsRow (b + 1) 47 2 v ws.length (flat ws)
  size : b + 1 ≤ wr.heap.size
  below : Below b w0 wr

theorem Mem.others {w0 w w' : World} {b : Nat} {cur cur' : List UInt8} {v : Value} {ws : List (ByteArray × Int)} (h : Mem w0 b cur v ws w) (hb : Lib.IsBuilderF 50 5 b b (Lib.byteCells cur') w') (hw : Below b w w') (ho : Lib.OthersKept 5 (some b) w w') : Mem w0 b cur' v ws w' :=
  ⟨hb, own_others h.row ho, by have := hw.size; have := h.size; omega, h.below.trans hw⟩

theorem Mem.alloc {w0 w : World} {b : Nat} {cur : List UInt8} {v : Value} {ws : List (ByteArray × Int)} (h : Mem w0 b cur v ws w) (o : Obj) : Mem w0 b cur v ws (w.alloc o) :=
  ⟨h.bd.alloc o, h.row.alloc o, by have := h.size; simp; omega, h.below.alloc (by have := h.size; omega) o⟩

theorem Mem.drewN {w0 w : World} {b : Nat} {cur : List UInt8} {v : Value} {ws : List (ByteArray × Int)} (h : Mem w0 b cur v ws w) (n : Nat) : Mem w0 b cur v ws (w.drewN n) :=
  ⟨h.bd, h.row, h.size, ⟨h.below.os, h.below.tape, h.below.output, h.below.size, h.below.block⟩⟩

theorem Mem.appended {w0 w w' : World} {b : Nat} {cur : List UInt8} {v v' : Value} {ws ws' : List (ByteArray × Int)} (h : Mem w0 b cur v ws w) (hg : w.grownBy w' v.ownBlock) (hr : w'.ownsRow (b + 1) 47 2 v' ws'.length (flat ws')) : Mem w0 b cur v' ws' w' :=
  ⟨builder_grown h.bd hg h.row, hr, by have := hg.size; have := h.size; omega, h.below.grown hg (by have := h.size; omega) (fun k hk => by have := (h.row.lt k hk).1; omega)⟩
end Go.Proofs.Qxb6001550a
