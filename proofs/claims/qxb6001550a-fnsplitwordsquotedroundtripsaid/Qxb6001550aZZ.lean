import Derived.Test.Qxb6001550aSplit
namespace Go.Proofs.Qxb6001550a
open Go.RowKit
set_option linter.unusedVariables false
set_option linter.unusedSimpArgs false

/-- a block that is one row of cells -/
def RowAt (w : World) (g : Nat) (T : TypeId) (cs : List Value) : Prop := w.heap[g]? = some (.cells cs.toArray T (0, 0))

theorem RowAt.cell {w : World} {g : Nat} {T : TypeId} {cs : List Value} (h : RowAt w g T cs) (k : Nat) : w.cell? ⟨g, k, none⟩ = cs[k]? := by
  rw [cell_of_row _ _ _ _ _ _ h]; simp

theorem RowAt.frozen {w : World} {g : Nat} {T : TypeId} {cs : List Value} (h : RowAt w g T cs) (k : Nat) : w.frozen? ⟨g, k, none⟩ = false := by
  unfold RowAt at h
  simp [World.frozen?, h]

theorem RowAt.lt {w : World} {g : Nat} {T : TypeId} {cs : List Value} (h : RowAt w g T cs) : g < w.heap.size := (Array.getElem?_eq_some_iff.1 h).1

theorem RowAt.set {w : World} {g : Nat} {T : TypeId} {cs : List Value} (h : RowAt w g T cs) (k : Nat) (v : Value) : RowAt (w.setCell ⟨g, k, none⟩ v) g T (cs.set k v) := by
  unfold RowAt at *
  have := heap_setCell_same w g k _ T v h
  rw [this]
  simp

theorem RowAt.other {w : World} {g : Nat} {T : TypeId} {cs : List Value} (h : RowAt w g T cs) (a : Addr) (v : Value) (hne : g ≠ a.block) : RowAt (w.setCell a v) g T cs :=
  (heap_setCell_other w a g v hne).trans h

theorem RowAt.below {w w' : World} {g B : Nat} {T : TypeId} {cs : List Value} (h : RowAt w g T cs) (hb : Below B w w') (hg : g < B) : RowAt w' g T cs :=
  (hb.block g hg).trans h

theorem row_of_own {w : World} {B g n : Nat} {e : TypeId} {xs : List Value} (h : w.ownsRow B e 1 (.slice (some ⟨g, 0, none⟩) n n) n xs) : RowAt w g e xs ∧ xs.length = n := by
  rcases h.2 with ⟨h0, _⟩ | ⟨g', cap, cur, hv, _, hg, _, _, hs, ht⟩
  · cases h0
  · cases hv
    refine ⟨?_, by rw [h.1]; omega⟩
    have hl : cur.toList.length = n := by simp [hs]
    rw [Nat.mul_one, ← hl, List.take_length] at ht
    unfold RowAt
    rw [hg, ← ht]

/-- the two slices that ZZSplitWords hands back -/
structure Out (w : World) (B : Nat) (gt gl : Nat) (ws : List (ByteArray × Int)) : Prop where
  bt : B ≤ gt
  bl : B ≤ gl
  lt : gt < w.heap.size
  ll : gl < w.heap.size
  ct : ∀ k (h : k < ws.length), w.cell? ⟨gt, k, none⟩ = some (.string (ws[k]'h).1)
  cl : ∀ k (h : k < ws.length), w.cell? ⟨gl, k, none⟩ = some (.int .i64 (ws[k]'h).2)

theorem Out.below {w w' : World} {B C gt gl : Nat} {ws : List (ByteArray × Int)} (h : Out w B gt gl ws) (hb : Below C w w') (hc : w.heap.size ≤ C) : Out w' B gt gl ws :=
  ⟨h.bt, h.bl, by have := hb.size; have := h.lt; omega, by have := hb.size; have := h.ll; omega, fun k hk => (hb.cell (by have := h.lt; simp; omega)).trans (h.ct k hk), fun k hk => (hb.cell (by have := h.ll; simp; omega)).trans (h.cl k hk)⟩

theorem info9 : (Try.prog.info? 9).map (fun i => (i.zero, i.size, i.bytes)) = some (some (.string ⟨#[]⟩), 1, 16) := by kernel_rfl
theorem info3 : (Try.prog.info? 3).map (fun i => (i.zero, i.size, i.bytes)) = some (some (.int .i64 0), 1, 8) := by kernel_rfl

/-- the copying of the words, k of them done -/
structure Fill (gw gt gl k : Nat) (ws : List (ByteArray × Int)) (w1 wr : World) : Prop where
  gw_lt : gw < gt
  gt_lt : gt < gl
  gt_ge : w1.heap.size ≤ gt
  row : ∀ k (h : k < ws.length), wr.cell? ⟨gw, k * 2, none⟩ = some (.string (ws[k]'h).1) ∧ wr.cell? ⟨gw, k * 2 + 1, none⟩ = some (.int .i64 (ws[k]'h).2)
  t : ∃ ct : List Value, RowAt wr gt 9 ct ∧ ct.length = ws.length ∧ ∀ j (h : j < ws.length), j < k → ct[j]? = some (.string (ws[j]'h).1)
  l : ∃ cl : List Value, RowAt wr gl 3 cl ∧ cl.length = ws.length ∧ ∀ j (h : j < ws.length), j < k → cl[j]? = some (.int .i64 (ws[j]'h).2)
  below : Below w1.heap.size w1 wr

theorem Fill.start {gw : Nat} {ws : List (ByteArray × Int)} {w1 w2 w3 : World} {B : Nat} {zt zl : List Value} (hgw : gw < w1.heap.size) (hc : ∀ k (h : k < ws.length), w1.cell? ⟨gw, k * 2, none⟩ = some (.string (ws[k]'h).1) ∧ w1.cell? ⟨gw, k * 2 + 1, none⟩ = some (.int .i64 (ws[k]'h).2))
    (h2 : w2.ownsRow B 9 1 (.slice (some ⟨w1.heap.size, 0, none⟩) ws.length ws.length) ws.length zt) (g2 : w1.grownBy w2 none) (h3 : w3.ownsRow B 3 1 (.slice (some ⟨w2.heap.size, 0, none⟩) ws.length ws.length) ws.length zl) (g3 : w2.grownBy w3 none) : Fill gw w1.heap.size w2.heap.size 0 ws w1 w3 := by
  have e2 := row_of_own h2
  have e3 := row_of_own h3
  have hlt := e2.1.lt
  have k1 : ∀ o, w3.cell? ⟨gw, o, none⟩ = w1.cell? ⟨gw, o, none⟩ := fun o => (World.cell?_of_block (g3.block gw (by omega) (by simp))).trans (World.cell?_of_block (g2.block gw hgw (by simp)))
  refine ⟨hgw, hlt, Nat.le_refl _, fun k hk => by rw [k1, k1]; exact hc k hk, ⟨zt, ?_, e2.2, fun j h hj => by omega⟩, ⟨zl, e3.1, e3.2, fun j h hj => by omega⟩, ?_⟩
  · exact (g3.block _ hlt (by simp)).trans e2.1
  · exact ((Below.refl _ _).grown g2 (Nat.le_refl _) (by intro k hk; cases hk)).grown g3 (by omega) (by intro k hk; cases hk)

theorem Fill.step {gw gt gl k : Nat} {ws : List (ByteArray × Int)} {w1 wr : World} (h : Fill gw gt gl k ws w1 wr) (hk : k < ws.length) : Fill gw gt gl (k + 1) ws w1 ((wr.setCell ⟨gt, k, none⟩ (.string (ws[k]'hk).1)).setCell ⟨gl, k, none⟩ (.int .i64 (ws[k]'hk).2)) := by
  obtain ⟨h1, h2, h3, hrow, ⟨ct, ht, htl, htc⟩, ⟨cl, hl, hll, hlc⟩, hb⟩ := h
  refine ⟨h1, h2, h3, ?_, ⟨ct.set k _, (ht.set k _).other _ _ (by simp; omega), by simpa using htl, ?_⟩, ⟨cl.set k _, (hl.other ⟨gt, k, none⟩ _ (by simp; omega)).set k _, by simpa using hll, ?_⟩, ?_⟩
  · intro j hj
    have e : ∀ o, ((wr.setCell ⟨gt, k, none⟩ (.string (ws[k]'hk).1)).setCell ⟨gl, k, none⟩ (.int .i64 (ws[k]'hk).2)).cell? ⟨gw, o, none⟩ = wr.cell? ⟨gw, o, none⟩ := fun o =>
      (World.cell?_of_block (heap_setCell_other _ _ gw _ (by simp; omega))).trans (World.cell?_of_block (heap_setCell_other _ _ gw _ (by simp; omega)))
    rw [e, e]
    exact hrow j hj
  · intro j hj hjk
    by_cases e : k = j
    · subst e
      rw [List.getElem?_set_self (by omega)]
    · rw [List.getElem?_set_ne e]
      exact htc j hj (by omega)
  · intro j hj hjk
    by_cases e : k = j
    · subst e
      rw [List.getElem?_set_self (by omega)]
    · rw [List.getElem?_set_ne e]
      exact hlc j hj (by omega)
  · exact (hb.setCell (p := ⟨gt, k, none⟩) h3 _).setCell (p := ⟨gl, k, none⟩) (by simp; omega) _

theorem Fill.out {gw gt gl : Nat} {ws : List (ByteArray × Int)} {w1 wr : World} {B : Nat} (h : Fill gw gt gl ws.length ws w1 wr) (hB : B ≤ w1.heap.size) : Out wr B gt gl ws := by
  obtain ⟨h1, h2, h3, hrow, ⟨ct, ht, htl, htc⟩, ⟨cl, hl, hll, hlc⟩, hb⟩ := h
  exact ⟨by omega, by omega, ht.lt, hl.lt, fun k hk => (ht.cell k).trans (htc k hk hk), fun k hk => (hl.cell k).trans (hlc k hk hk)⟩

theorem split_ws (a : ByteArray) (n : Int) (vj : Value) (js : List Int) (keep : Bool) (r : Int) (hr : (if keep then 1 else 0) = r) (w : World) (hs : a.size ≤ 4194304) (hj : JoinsAt w vj js) (hl : js.length ≤ 1048576) (F : Nat) (hF : a.size ≤ F) (ws : List (ByteArray × Int)) (u : Int) (hws : Hid (spF (at8 a) a.size keep (fun s => lineF s js n) F 0 false false 0 [] [] = (ws, u))) :
    Calls Try.prog 15 #[.agg #[.string a, .int .i64 n, vj], .int .i64 r] w fun e w' => ∃ v, e = .returned (.tuple #[v, .int .i64 u]) ∧ w'.ownsRow w.heap.size 47 2 v ws.length (flat ws) ∧ Below w.heap.size w w' := by
  subst hr
  have h := split_any a n vj js keep w hs hj hl F hF
  rw [show spF (at8 a) a.size keep (fun s => lineF s js n) F 0 false false 0 [] [] = (ws, u) from hws] at h
  exact h

theorem addr_add (g j : Nat) : (⟨g, 0, none⟩ : Addr).add j = ⟨g, j, none⟩ := by unfold Addr.add; split <;> simp_all

theorem joins_shape {w : World} {v : Value} {js : List Int} (h : JoinsAt w v js) : ∃ ao l c, v = .slice ao l c := by
  rcases h with ⟨rfl, _⟩ | ⟨g, cap, rfl, _⟩
  · exact ⟨_, _, _, rfl⟩
  · exact ⟨_, _, _, rfl⟩

/-- the row of words, by its cells -/
def WordsAt (w : World) (v : Value) (ws : List (ByteArray × Int)) : Prop :=
  (v = .slice none 0 0 ∧ ws = []) ∨ ∃ g cap, v = .slice (some ⟨g, 0, none⟩) ws.length cap ∧ g < w.heap.size ∧ ∀ k (h : k < ws.length), w.cell? ⟨g, k * 2, none⟩ = some (.string (ws[k]'h).1) ∧ w.cell? ⟨g, k * 2 + 1, none⟩ = some (.int .i64 (ws[k]'h).2)

theorem words_at {w : World} {B : Nat} {v : Value} {ws : List (ByteArray × Int)} (h : w.ownsRow B 47 2 v ws.length (flat ws)) : WordsAt w v ws := by
  rcases h.2 with ⟨hv, h0⟩ | ⟨g, cap, cur, hv, _, hg, _⟩
  · exact .inl ⟨hv, List.length_eq_zero_iff.1 h0⟩
  · subst hv
    have hc := h.cells (g := g) rfl
    refine .inr ⟨g, cap, rfl, (Array.getElem?_eq_some_iff.1 hg).1, fun k hk => ?_⟩
    obtain ⟨f1, f2⟩ := flat_at ws k hk
    have h1 := hc _ _ f1
    have h2 := hc _ _ f2
    rw [addr_add] at h1 h2
    rw [show k * 2 = 2 * k by omega]
    exact ⟨h1, h2⟩

theorem empty_out {w w1 w2 w3 : World} {B : Nat} {zt zl : List Value} (h2 : w2.ownsRow B 9 1 (.slice (some ⟨w1.heap.size, 0, none⟩) 0 0) 0 zt) (g2 : w1.grownBy w2 none) (h3 : w3.ownsRow B 3 1 (.slice (some ⟨w2.heap.size, 0, none⟩) 0 0) 0 zl) (g3 : w2.grownBy w3 none) (hbs : w.heap.size ≤ w1.heap.size) (hbel : Below w.heap.size w w1) : Out w3 w.heap.size w1.heap.size w2.heap.size [] ∧ Below w.heap.size w w3 := by
  have e2 := (row_of_own h2).1.lt
  have e3 := (row_of_own h3).1.lt
  have s2 := g2.size
  have s3 := g3.size
  exact ⟨⟨hbs, by omega, by omega, e3, fun k hk => by simp at hk, fun k hk => by simp at hk⟩, (hbel.grown g2 hbs (by intro k hk; cases hk)).grown g3 (by omega) (by intro k hk; cases hk)⟩

set_option maxRecDepth 100000 in
set_option maxHeartbeats 2000000 in
theorem zzsplit_any (a : ByteArray) (n : Int) (vj : Value) (js : List Int) (keep : Bool) (w : World) (hs : a.size ≤ 4194304) (hj : JoinsAt w vj js) (hl : js.length ≤ 1048576) (F : Nat) (hF : a.size ≤ F) (ws : List (ByteArray × Int)) (u : Int) (HWS : Hid (spF (at8 a) a.size keep (fun s => lineF s js n) F 0 false false 0 [] [] = (ws, u))) (hlen : ws.length ≤ 4194304) :
    Calls Try.prog 10 #[.string a, .int .i64 n, vj, .bool keep] w fun e w' => ∃ gt gl, e = .returned (.tuple #[.slice (some ⟨gt, 0, none⟩) ws.length ws.length, .slice (some ⟨gl, 0, none⟩) ws.length ws.length, .int .i64 u]) ∧ Out w' w.heap.size gt gl ws ∧ Below w.heap.size w w' := by
  obtain ⟨i9, hi9, hz9, hs9, hb9⟩ := info_parts info9
  obtain ⟨i3, hi3, hz3, hs3, hb3⟩ := info_parts info3
  obtain ⟨jo, jl, jc, rfl⟩ := joins_shape hj
  have HJ := hide hj
  clear hj
  cases keep with
  | true =>
    go_enter Try.func10, Try.ntmps10
    go_wp2_with fail
    refine (split_ws a n _ js true 1 rfl _ hs (unhide HJ) hl F hF ws u HWS).mono ?_
    rintro e w1 ⟨v, rfl, hrow, hbel⟩
    rcases words_at hrow with ⟨rfl, rfl⟩ | ⟨gw, cap, rfl, hgw, hcw⟩
    · have hbs := hbel.size
      clear hrow
      go_wp2_with (first | (at_make; refine wpList_make_full _ rfl (.tmp 28) (.tmp 28) 25 rfl w.heap.size 9 i9 (.string ⟨#[]⟩) 1 Try.underlying25 hi9 hz9 hs9 .i64 .i64 _ _ 0 rfl rfl rfl rfl (by rw [hb9]; omega) (by unfold maxLen; omega) (by omega) ?_; intro w2 hown2 hgrow2; have hbs2 := (hown2.lt w1.heap.size rfl).2; have HO2 := hide hown2; have HG2 := hide hgrow2; clear hown2 hgrow2) | (at_make; refine wpList_make_full _ rfl (.tmp 31) (.tmp 31) 28 rfl w.heap.size 3 i3 (.int .i64 0) 1 Try.underlying28 hi3 hz3 hs3 .i64 .i64 _ _ 0 rfl rfl rfl rfl (by rw [hb3]; omega) (by unfold maxLen; omega) (by omega) ?_; intro w3 hown3 hgrow3; have HO3 := hide hown3; have HG3 := hide hgrow3; clear hown3 hgrow3))
      have HF := hide (empty_out (unhide HO2) (unhide HG2) (unhide HO3) (unhide HG3) hbs hbel)
      clear HO2 HG2 HO3 HG3
      go_loopw [16] (fun vk wr => vk = .int .i64 0 ∧ wr = w3) (fun vk _ => 0)
      case atStart => exact ⟨rfl, rfl⟩
      case round =>
        obtain ⟨rfl, rfl⟩ := hrel
        go_wp2
        refine bodyPost_ret (v := .tuple #[.slice (some ⟨w1.heap.size, 0, none⟩) 0 0, .slice (some ⟨w2.heap.size, 0, none⟩) 0 0, .int .i64 u]) (by simp [results, Try.results10, go_sem]) rfl ?_
        exact ⟨_, _, rfl, (unhide HF).1, (unhide HF).2⟩
    · have HCW := hide hcw
      have hbs := hbel.size
      clear hcw hrow
      go_wp2_with (first | (at_make; refine wpList_make_full _ rfl (.tmp 28) (.tmp 28) 25 rfl w.heap.size 9 i9 (.string ⟨#[]⟩) 1 Try.underlying25 hi9 hz9 hs9 .i64 .i64 _ _ ws.length rfl rfl rfl rfl (by rw [hb9]; omega) (by unfold maxLen; omega) (by omega) ?_; intro w2 hown2 hgrow2; have hbs2 := (hown2.lt w1.heap.size rfl).2; have HO2 := hide hown2; have HG2 := hide hgrow2; clear hown2 hgrow2) | (at_make; refine wpList_make_full _ rfl (.tmp 31) (.tmp 31) 28 rfl w.heap.size 3 i3 (.int .i64 0) 1 Try.underlying28 hi3 hz3 hs3 .i64 .i64 _ _ ws.length rfl rfl rfl rfl (by rw [hb3]; omega) (by unfold maxLen; omega) (by omega) ?_; intro w3 hown3 hgrow3; have HO3 := hide hown3; have HG3 := hide hgrow3; clear hown3 hgrow3))
      have HF := hide (Fill.start hgw (unhide HCW) (unhide HO2) (unhide HG2) (unhide HO3) (unhide HG3))
      clear HCW HO2 HG2 HO3 HG3
      obtain ⟨gt, hgt⟩ : ∃ gt, w1.heap.size = gt := ⟨_, rfl⟩
      obtain ⟨gl, hgl⟩ : ∃ gl, w2.heap.size = gl := ⟨_, rfl⟩
      rw [hgt, hgl] at HF
      rw [hgt, hgl]
      go_loopw [16] (fun vk wr => ∃ k : Nat, vk = .int .i64 (k : Int) ∧ k ≤ ws.length ∧ Fill gw gt gl k ws w1 wr) (fun vk _ => ws.length - (intOf vk).toNat)
      case atStart => exact ⟨0, rfl, by omega, unhide HF⟩
      case round =>
        clear HF
        obtain ⟨k, rfl, hk, hf⟩ := hrel
        by_cases hlt : k < ws.length
        · obtain ⟨x, hx⟩ : ∃ x, (ws[k]'hlt).1 = x := ⟨_, rfl⟩
          obtain ⟨y, hy⟩ : ∃ y, (ws[k]'hlt).2 = y := ⟨_, rfl⟩
          have hst := hf.step hlt
          obtain ⟨h1, h2, h3, hrow, ⟨ct, ht, htl, htc⟩, ⟨cl, hl2, hll, hlc⟩, hb⟩ := hf
          obtain ⟨c0, c1⟩ := hrow k hlt
          rw [hx] at c0 hst
          rw [hy] at c1 hst
          obtain ⟨t0, ht0⟩ : ∃ t0, wr.cell? ⟨gt, k, none⟩ = some t0 := ⟨_, (ht.cell k).trans (List.getElem?_eq_getElem (by omega))⟩
          obtain ⟨l0, hl0⟩ : ∃ l0, wr.cell? ⟨gl, k, none⟩ = some l0 := ⟨_, (hl2.cell k).trans (List.getElem?_eq_getElem (by omega))⟩
          have ft := ht.frozen k
          have fl := hl2.frozen k
          have c1' : (wr.setCell ⟨gt, k, none⟩ (.string x)).cell? ⟨gw, k * 2 + 1, none⟩ = some (.int .i64 y) := (World.cell?_of_block (heap_setCell_other _ _ gw _ (by simp; omega))).trans c1
          have hl0' : (wr.setCell ⟨gt, k, none⟩ (.string x)).cell? ⟨gl, k, none⟩ = some l0 := (World.cell?_of_block (heap_setCell_other _ _ gl _ (by simp; omega))).trans hl0
          have fl' : (wr.setCell ⟨gt, k, none⟩ (.string x)).frozen? ⟨gl, k, none⟩ = false := (World.frozen?_of_block (heap_setCell_other _ _ gl _ (by simp; omega))).trans fl
          have HST := hide hst
          clear hst htc hlc hrow ht hl2 hb hx hy
          go_wp2
          exact ⟨⟨k + 1, by go_num, by omega, unhide HST⟩, by simp [intOf]; omega⟩
        · have hke : k = ws.length := by omega
          subst hke
          have HFF := hide hf
          clear hf
          go_wp2
          refine bodyPost_ret (v := .tuple #[.slice (some ⟨gt, 0, none⟩) ws.length ws.length, .slice (some ⟨gl, 0, none⟩) ws.length ws.length, .int .i64 u]) (by simp [results, Try.results10, go_sem]) rfl ?_
          exact ⟨gt, gl, rfl, (unhide HFF).out hbs, hbel.trans ((unhide HFF).below.mono hbs)⟩
  | false =>
    go_enter Try.func10, Try.ntmps10
    go_wp2_with fail
    refine (split_ws a n _ js false 0 rfl _ hs (unhide HJ) hl F hF ws u HWS).mono ?_
    rintro e w1 ⟨v, rfl, hrow, hbel⟩
    rcases words_at hrow with ⟨rfl, rfl⟩ | ⟨gw, cap, rfl, hgw, hcw⟩
    · have hbs := hbel.size
      clear hrow
      go_wp2_with (first | (at_make; refine wpList_make_full _ rfl (.tmp 28) (.tmp 28) 25 rfl w.heap.size 9 i9 (.string ⟨#[]⟩) 1 Try.underlying25 hi9 hz9 hs9 .i64 .i64 _ _ 0 rfl rfl rfl rfl (by rw [hb9]; omega) (by unfold maxLen; omega) (by omega) ?_; intro w2 hown2 hgrow2; have hbs2 := (hown2.lt w1.heap.size rfl).2; have HO2 := hide hown2; have HG2 := hide hgrow2; clear hown2 hgrow2) | (at_make; refine wpList_make_full _ rfl (.tmp 31) (.tmp 31) 28 rfl w.heap.size 3 i3 (.int .i64 0) 1 Try.underlying28 hi3 hz3 hs3 .i64 .i64 _ _ 0 rfl rfl rfl rfl (by rw [hb3]; omega) (by unfold maxLen; omega) (by omega) ?_; intro w3 hown3 hgrow3; have HO3 := hide hown3; have HG3 := hide hgrow3; clear hown3 hgrow3))
      have HF := hide (empty_out (unhide HO2) (unhide HG2) (unhide HO3) (unhide HG3) hbs hbel)
      clear HO2 HG2 HO3 HG3
      go_loopw [16] (fun vk wr => vk = .int .i64 0 ∧ wr = w3) (fun vk _ => 0)
      case atStart => exact ⟨rfl, rfl⟩
      case round =>
        obtain ⟨rfl, rfl⟩ := hrel
        go_wp2
        refine bodyPost_ret (v := .tuple #[.slice (some ⟨w1.heap.size, 0, none⟩) 0 0, .slice (some ⟨w2.heap.size, 0, none⟩) 0 0, .int .i64 u]) (by simp [results, Try.results10, go_sem]) rfl ?_
        exact ⟨_, _, rfl, (unhide HF).1, (unhide HF).2⟩
    · have HCW := hide hcw
      have hbs := hbel.size
      clear hcw hrow
      go_wp2_with (first | (at_make; refine wpList_make_full _ rfl (.tmp 28) (.tmp 28) 25 rfl w.heap.size 9 i9 (.string ⟨#[]⟩) 1 Try.underlying25 hi9 hz9 hs9 .i64 .i64 _ _ ws.length rfl rfl rfl rfl (by rw [hb9]; omega) (by unfold maxLen; omega) (by omega) ?_; intro w2 hown2 hgrow2; have hbs2 := (hown2.lt w1.heap.size rfl).2; have HO2 := hide hown2; have HG2 := hide hgrow2; clear hown2 hgrow2) | (at_make; refine wpList_make_full _ rfl (.tmp 31) (.tmp 31) 28 rfl w.heap.size 3 i3 (.int .i64 0) 1 Try.underlying28 hi3 hz3 hs3 .i64 .i64 _ _ ws.length rfl rfl rfl rfl (by rw [hb3]; omega) (by unfold maxLen; omega) (by omega) ?_; intro w3 hown3 hgrow3; have HO3 := hide hown3; have HG3 := hide hgrow3; clear hown3 hgrow3))
      have HF := hide (Fill.start hgw (unhide HCW) (unhide HO2) (unhide HG2) (unhide HO3) (unhide HG3))
      clear HCW HO2 HG2 HO3 HG3
      obtain ⟨gt, hgt⟩ : ∃ gt, w1.heap.size = gt := ⟨_, rfl⟩
      obtain ⟨gl, hgl⟩ : ∃ gl, w2.heap.size = gl := ⟨_, rfl⟩
      rw [hgt, hgl] at HF
      rw [hgt, hgl]
      go_loopw [16] (fun vk wr => ∃ k : Nat, vk = .int .i64 (k : Int) ∧ k ≤ ws.length ∧ Fill gw gt gl k ws w1 wr) (fun vk _ => ws.length - (intOf vk).toNat)
      case atStart => exact ⟨0, rfl, by omega, unhide HF⟩
      case round =>
        clear HF
        obtain ⟨k, rfl, hk, hf⟩ := hrel
        by_cases hlt : k < ws.length
        · obtain ⟨x, hx⟩ : ∃ x, (ws[k]'hlt).1 = x := ⟨_, rfl⟩
          obtain ⟨y, hy⟩ : ∃ y, (ws[k]'hlt).2 = y := ⟨_, rfl⟩
          have hst := hf.step hlt
          obtain ⟨h1, h2, h3, hrow, ⟨ct, ht, htl, htc⟩, ⟨cl, hl2, hll, hlc⟩, hb⟩ := hf
          obtain ⟨c0, c1⟩ := hrow k hlt
          rw [hx] at c0 hst
          rw [hy] at c1 hst
          obtain ⟨t0, ht0⟩ : ∃ t0, wr.cell? ⟨gt, k, none⟩ = some t0 := ⟨_, (ht.cell k).trans (List.getElem?_eq_getElem (by omega))⟩
          obtain ⟨l0, hl0⟩ : ∃ l0, wr.cell? ⟨gl, k, none⟩ = some l0 := ⟨_, (hl2.cell k).trans (List.getElem?_eq_getElem (by omega))⟩
          have ft := ht.frozen k
          have fl := hl2.frozen k
          have c1' : (wr.setCell ⟨gt, k, none⟩ (.string x)).cell? ⟨gw, k * 2 + 1, none⟩ = some (.int .i64 y) := (World.cell?_of_block (heap_setCell_other _ _ gw _ (by simp; omega))).trans c1
          have hl0' : (wr.setCell ⟨gt, k, none⟩ (.string x)).cell? ⟨gl, k, none⟩ = some l0 := (World.cell?_of_block (heap_setCell_other _ _ gl _ (by simp; omega))).trans hl0
          have fl' : (wr.setCell ⟨gt, k, none⟩ (.string x)).frozen? ⟨gl, k, none⟩ = false := (World.frozen?_of_block (heap_setCell_other _ _ gl _ (by simp; omega))).trans fl
          have HST := hide hst
          clear hst htc hlc hrow ht hl2 hb hx hy
          go_wp2
          exact ⟨⟨k + 1, by go_num, by omega, unhide HST⟩, by simp [intOf]; omega⟩
        · have hke : k = ws.length := by omega
          subst hke
          have HFF := hide hf
          clear hf
          go_wp2
          refine bodyPost_ret (v := .tuple #[.slice (some ⟨gt, 0, none⟩) ws.length ws.length, .slice (some ⟨gl, 0, none⟩) ws.length ws.length, .int .i64 u]) (by simp [results, Try.results10, go_sem]) rfl ?_
          exact ⟨gt, gl, rfl, (unhide HFF).out hbs, hbel.trans ((unhide HFF).below.mono hbs)⟩
end Go.Proofs.Qxb6001550a
