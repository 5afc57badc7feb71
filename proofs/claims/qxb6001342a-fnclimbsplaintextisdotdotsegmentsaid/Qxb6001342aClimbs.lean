import Derived.Test.Qxb6001342aGroups
import Derived.WalkSmall
namespace Go.Proofs.Qxb6001342a
open Go.RowKit
set_option linter.unusedVariables false
set_option linter.unusedSimpArgs false

def prs (op : List (Int × Int)) : List Value := op.flatMap fun p => [Value.int .u8 p.1, Value.int .u8 p.2]

theorem prs_len (op : List (Int × Int)) : (prs op).length = op.length * 2 := by
  induction op with
  | nil => rfl
  | cons p op ih => simp only [prs, List.flatMap_cons, List.length_append] at *; rw [ih]; simp; omega

theorem prs_snoc (op : List (Int × Int)) (b f : Int) : prs op ++ [Value.int .u8 b, Value.int .u8 f] = prs (op ++ [(b, f)]) := by
  simp [prs, List.flatMap_append]

theorem prs_at0 (op : List (Int × Int)) (b f : Int) : (prs (op ++ [(b, f)]))[op.length * 2]? = some (.int .u8 b) := by
  rw [← prs_snoc, List.getElem?_append_right (by rw [prs_len]; exact Nat.le_refl _), prs_len]; simp
theorem prs_at1 (op : List (Int × Int)) (b f : Int) : (prs (op ++ [(b, f)]))[op.length * 2 + 1]? = some (.int .u8 f) := by
  rw [← prs_snoc, List.getElem?_append_right (by rw [prs_len]; omega), prs_len]; simp
theorem prs_set1 (op : List (Int × Int)) (b f x : Int) : (prs (op ++ [(b, f)])).set (op.length * 2 + 1) (.int .u8 x) = prs (op ++ [(b, x)]) := by
  rw [← prs_snoc, ← prs_snoc, List.set_append, if_neg (by rw [prs_len]; omega), prs_len]; simp
theorem prs_take (op : List (Int × Int)) (b f : Int) : (prs (op ++ [(b, f)])).take (op.length * 2) = prs op := by
  rw [← prs_snoc, List.take_append_of_le_length (by rw [prs_len]; exact Nat.le_refl _), List.take_of_length_le (by rw [prs_len]; exact Nat.le_refl _)]

theorem info35 : (Try.prog.info? 35).map (fun i => (i.zero, i.size, i.bytes)) = some (some (.agg #[.int .u8 0, .int .u8 0]), 2, 2) := by kernel_rfl

theorem dep_no {ch : Nat → Nat} {G : Nat → Bool} {i : Nat} (h : G i = false) : dep ch G (i + 1) = dep ch G i := by simp [dep, wt, h]
theorem dep_open {ch : Nat → Nat} {G : Nat → Bool} {i : Nat} (h : G i = true) (hc : ch i = 123) : dep ch G (i + 1) = dep ch G i + 1 := by simp [dep, wt, h, hc]
theorem dep_comma {ch : Nat → Nat} {G : Nat → Bool} {i : Nat} (hc : ch i = 44) : dep ch G (i + 1) = dep ch G i := by simp [dep, wt, hc]
theorem dep_close {ch : Nat → Nat} {G : Nat → Bool} {i : Nat} (h : G i = true) (hc : ch i = 125) : dep ch G (i + 1) = dep ch G i - 1 := by simp [dep, wt, h, hc]; omega
theorem dep_esc {ch : Nat → Nat} {G : Nat → Bool} {n i : Nat} (hg : Good ch n G) (he : esc ch i = false) (hc : ch i = 92) : dep ch G (i + 2) = dep ch G i ∧ esc ch (i + 2) = false := by
  have e1 : esc ch (i + 1) = true := by simp [esc, he, hc]
  have g0 : G i = false := by
    cases hg0 : G i with
    | false => rfl
    | true => have := (hg.low i hg0).2.2; omega
  have g1 : G (i + 1) = false := by
    cases hg0 : G (i + 1) with
    | false => rfl
    | true => have := (hg.low (i + 1) hg0).2.1; rw [e1] at this; cases this
  refine ⟨by rw [dep_no g1, dep_no g0], ?_⟩
  show (ch (i + 1) == 92 && !esc ch (i + 1)) = false
  simp [e1]
theorem esc_plain {ch : Nat → Nat} {i : Nat} (hc : ch i ≠ 92) : esc ch (i + 1) = false := by simp [esc, hc]

theorem snoc_pair (l : List (Int × Int)) (h : 0 < l.length) : ∃ l' x y, l = l' ++ [(x, y)] := by
  rcases List.eq_nil_or_concat l with rfl | ⟨l', ⟨x, y⟩, rfl⟩
  · simp at h
  · exact ⟨l', x, y, by simp⟩

theorem byte_lt (x : UInt8) : (x.toNat : Int) < 256 := by have := x.toNat_lt; omega

/-- what a reading of the text must keep -/
structure Keeps (ch : Nat → Nat) (n : Nat) (P : Nat → Int → List (Int × Int) → Prop) : Prop where
  start : P 0 1 []
  escd : ∀ i s op, i + 1 < n → ch i = 92 → P i s op → P (i + 2) (stepTo s (ch (i + 1)) false 7) op
  opening : ∀ i s op, i < n → ch i = 123 → P i s op → P (i + 1) s (op ++ [(s, 0)])
  comma : ∀ i s op b f, i < n → ch i = 44 → P i s (op ++ [(b, f)]) → P (i + 1) b (op ++ [(b, bits .or .u8 f s)])
  closing : ∀ i s op b f, i < n → ch i = 125 → P i s (op ++ [(b, f)]) → P (i + 1) (bits .or .u8 s f) op
  other : ∀ i s op syn, i < n → (ch i = 92 → n ≤ i + 1) → (syn = false → ch i = 91) → P i s op → P (i + 1) (stepTo s (ch i) syn 7) op

def RelC (a : ByteArray) (w : World) (gb : Nat) (G : Nat → Bool) (P : Nat → Int → List (Int × Int) → Prop) (vs vo vi : Value) (wr : World) : Prop :=
  ∃ (i : Nat) (s : Int) (op : List (Int × Int)), vs = .int .u8 s ∧ vi = .int .i64 (i : Int) ∧ i ≤ a.size ∧ op.length ≤ i ∧ dep (chr a) G i = op.length ∧ (i < a.size → esc (chr a) i = false) ∧ P i s op ∧
    wr.ownsRow w.heap.size 35 2 vo op.length (prs op) ∧ wr.ownsRow w.heap.size 4 1 (.slice (some ⟨gb, 0, none⟩) a.size a.size) a.size (bools a.size G) ∧ Below w.heap.size w wr

set_option maxRecDepth 100000 in
set_option maxHeartbeats 1000000 in
theorem climbs_any (a : ByteArray) (w : World) (hs : a.size ≤ 1048576) (P : Nat → Int → List (Int × Int) → Prop) (hP : Keeps (chr a) a.size P) :
    Calls Try.prog 18 #[.string a] w fun e w' => ∃ s op, P a.size s op ∧ e = .returned (.bool (bits .and .u8 s 84 != 0)) ∧ Below w.heap.size w w' := by
  obtain ⟨i35, hi35, hz35, hs35, hb35⟩ := info_parts info35
  have HP := hide hP
  clear hP
  go_enter Try.func18, Try.ntmps18
  go_wp2_with (go_at_call 20; refine (groups_any a _ hs).mono ?_; rintro e w1 ⟨gb, G, rfl, hgood, hown, hbel1⟩)
  have HG := hide hgood
  clear hgood
  go_loopw [4, 5, 6] (fun vs vo vi wr => RelC a w gb G P vs vo vi wr) (fun _ _ vi _ => a.size - (intOf vi).toNat)
  case atStart => exact ⟨0, 1, [], rfl, rfl, by omega, by simp, rfl, fun _ => rfl, (unhide HP).start, World.ownsRow_nil _ _ _ _, hown, hbel1⟩
  case round =>
    clear hown hbel1
    obtain ⟨i, s, op, rfl, rfl, hi, hol, hdep, hesc, hPi, hop, hgr, hbel⟩ := hrel
    have HD := hide hdep
    have HE := hide hesc
    have HPI := hide hPi
    clear hdep hesc hPi
    have hB : w.heap.size ≤ wr.heap.size := hbel.size
    by_cases hlt : i < a.size
    · have hch := chr_at a i hlt
      have HC : Hid ((a[i]'hlt).toNat = chr a i) := hch
      clear hch
      have hE := (unhide HE) hlt
      have HE' := hide hE
      clear hE
      by_cases h92 : ((a[i].toNat : Int) == 92) = true ∧ i + 1 < a.size
      · obtain ⟨h92, hl1⟩ := h92
        have h : chr a i = 92 := by rw [← unhide HC]; simp at h92; omega
        have hch1 := chr_at a (i + 1) hl1
        have HC1 : Hid ((a[i + 1]'hl1).toNat = chr a (i + 1)) := hch1
        clear hch1
        have HH := hide h
        clear h
        go_wp2_with (go_at_call 21; refine (step_any _ _ _ _ (by omega) (byte_lt _)).mono ?_; rintro e w' ⟨rfl, rfl⟩)
        have hx := (unhide HP).escd i s op hl1 (unhide HH) (unhide HPI)
        rw [← unhide HC1] at hx
        have hdd := dep_esc (unhide HG) (unhide HE') (unhide HH)
        exact ⟨⟨i + 2, _, op, rfl, by go_num, by omega, by omega, by rw [hdd.1]; exact unhide HD, fun _ => hdd.2, hx, hop, hgr, hbel⟩, by simp [intOf]; omega⟩
      · have hgc : wr.cell? ⟨gb, i, none⟩ = some (.bool (G i)) := by rw [hgr.cellAt i (by omega), bools_at _ _ _ hlt]
        cases hGi : G i with
        | true =>
          rw [hGi] at hgc
          have hlow := (unhide HG).low i hGi
          have HGi := hide hGi
          clear hGi
          have hc3 := hlow.2.2
          clear hlow
          rcases hc3 with h | h | h
          · have h92' : ((a[i].toNat : Int) == 92) = false := by simp; have := unhide HC; omega
            have h123 : ((a[i].toNat : Int) == 123) = true := by simp; have := unhide HC; omega
            have HH := hide h
            clear h92 h
            go_wp2_with (at_builtin; refine wpList_append_own_at _ rfl (.tmp 49) (.tmp 52) 33 rfl w.heap.size 35 i35 (.agg #[.int .u8 0, .int .u8 0]) 2 2 Try.underlying33 hi35 hz35 hs35 hb35 rfl (by decide) u5 _ _ rfl (hop.alloc _) ⟨wr.heap.size, 0, none⟩ 1 1 [.int .u8 s, .int .u8 0] rfl rfl (cell_two_new _ _ _ _) (by simp [Value.oneCell']) (by unfold maxLen; omega) (by omega) (by simp; omega) ?_; intro v1 w1 hown1 hgrow1 _ hat1)
            rw [prs_snoc] at hown1
            have hbel1 := below_app hbel hB hop hgrow1
            have hgr1 := (hgr.alloc (Obj.cells #[Value.int .u8 s, Value.int .u8 0] 35)).kept hgrow1 (apart_type hgr hop (by decide)).ne
            have hx := (unhide HP).opening i s op hlt (unhide HH) (unhide HPI)
            exact ⟨⟨i + 1, s, op ++ [(s, 0)], rfl, by go_num, by omega, by simp; omega, by rw [dep_open (unhide HGi) (unhide HH), unhide HD]; simp, fun _ => esc_plain (by rw [unhide HH]; decide), hx, by simpa using hown1, hgr1, hbel1.1⟩, by simp [intOf]; omega⟩
          · have h92' : ((a[i].toNat : Int) == 92) = false := by simp; have := unhide HC; omega
            have h123 : ((a[i].toNat : Int) == 123) = false := by simp; have := unhide HC; omega
            have h44 : ((a[i].toNat : Int) == 44) = true := by simp; have := unhide HC; omega
            have hdp : 0 < op.length := by
              have := (unhide HG).deep i (unhide HGi) (by omega)
              have := unhide HD
              omega
            obtain ⟨op', b, f, rfl⟩ := snoc_pair op hdp
            obtain ⟨go, co, hvo, hco1, hBo, hgo, hco2⟩ := own_some hop hdp
            subst hvo
            have e0 : (op' ++ [(b, f)]).length = op'.length + 1 := by simp
            rw [e0] at hop hco1 hol
            have hc0 : wr.cell? ⟨go, op'.length * 2, none⟩ = some (.int .u8 b) := by rw [hop.cellAt _ (by omega), prs_at0]
            have hc1 : wr.cell? ⟨go, op'.length * 2 + 1, none⟩ = some (.int .u8 f) := by rw [hop.cellAt _ (by omega), prs_at1]
            have hf1 := hop.frozenAt (op'.length * 2 + 1)
            have HO := hide hop
            have HH := hide h
            rw [e0]
            clear h92 h hdp e0 hop
            go_wp2
            have hx := (unhide HP).comma i s op' b f hlt (unhide HH) (unhide HPI)
            obtain ⟨hs1, hg1⟩ := (unhide HO).stored (op'.length * 2 + 1) (.int .u8 (bits .or .u8 f s))
            rw [prs_set1] at hs1
            have hgr1 := hgr.kept hg1 (apart_type hgr (unhide HO) (by decide)).ne
            exact ⟨⟨i + 1, b, op' ++ [(b, bits .or .u8 f s)], rfl, by go_num, by omega, by simp; omega, by rw [dep_comma (unhide HH), unhide HD]; simp, fun _ => esc_plain (by rw [unhide HH]; decide), hx, by simpa using hs1, hgr1, hbel.setCell hBo _⟩, by simp [intOf]; omega⟩
          · have h92' : ((a[i].toNat : Int) == 92) = false := by simp; have := unhide HC; omega
            have h123 : ((a[i].toNat : Int) == 123) = false := by simp; have := unhide HC; omega
            have h44 : ((a[i].toNat : Int) == 44) = false := by simp; have := unhide HC; omega
            have h125 : ((a[i].toNat : Int) == 125) = true := by simp; have := unhide HC; omega
            have hdp : 0 < op.length := by
              have := (unhide HG).deep i (unhide HGi) (by omega)
              have := unhide HD
              omega
            obtain ⟨op', b, f, rfl⟩ := snoc_pair op hdp
            obtain ⟨go, co, hvo, hco1, hBo, hgo, hco2⟩ := own_some hop hdp
            subst hvo
            have e0 : (op' ++ [(b, f)]).length = op'.length + 1 := by simp
            rw [e0] at hop hco1 hol
            have hc0 : wr.cell? ⟨go, op'.length * 2, none⟩ = some (.int .u8 b) := by rw [hop.cellAt _ (by omega), prs_at0]
            have hc1 : wr.cell? ⟨go, op'.length * 2 + 1, none⟩ = some (.int .u8 f) := by rw [hop.cellAt _ (by omega), prs_at1]
            have hf1 := hop.frozenAt (op'.length * 2 + 1)
            have HO := hide hop
            have HH := hide h
            rw [e0]
            clear h92 h hdp e0 hop
            go_wp2
            have hx := (unhide HP).closing i s op' b f hlt (unhide HH) (unhide HPI)
            have hp := own_cut (unhide HO) (m := op'.length) (by omega)
            rw [prs_take] at hp
            exact ⟨⟨i + 1, _, op', rfl, by go_num, by omega, by omega, by rw [dep_close (unhide HGi) (unhide HH), unhide HD]; simp, fun _ => esc_plain (by rw [unhide HH]; decide), hx, hp, hgr, hbel⟩, by simp [intOf]; omega⟩
        | false =>
          rw [hGi] at hgc
          have HD1 := hide ((dep_no hGi).trans (unhide HD))
          clear hGi
          by_cases h92t : ((a[i].toNat : Int) == 92) = true
          · have hl1 : ¬ (i : Int) + 1 < a.size := fun hl => h92 ⟨h92t, by omega⟩
            have h91 : ((a[i].toNat : Int) == 91) = false := by simp at *; omega
            have hx := (unhide HP).other i s op true hlt (fun _ => by omega) (by simp) (unhide HPI)
            rw [← unhide HC] at hx
            have HX := hide hx
            clear hx h92
            go_wp2_with (go_at_call 21; refine (step_any _ _ _ _ (by omega) (byte_lt _)).mono ?_; rintro e w' ⟨rfl, rfl⟩)
            exact ⟨⟨i + 1, _, op, rfl, by go_num, by omega, by omega, unhide HD1, fun _ => by omega, unhide HX, hop, hgr, hbel⟩, by simp [intOf]; omega⟩
          · have h92f : ((a[i].toNat : Int) == 92) = false := by simpa using h92t
            have hn92 : chr a i ≠ 92 := by rw [← unhide HC]; simp at h92t; omega
            have HN := hide hn92
            clear h92 h92t hn92
            by_cases h91 : ((a[i].toNat : Int) == 91) = true
            · have h : chr a i = 91 := by rw [← unhide HC]; simp at h91; omega
              have HX : ∀ syn, Hid (P (i + 1) (stepTo s ((a[i].toNat : Nat) : Int) syn 7) op) := by
                intro syn
                have hx := (unhide HP).other i s op syn hlt (fun h => absurd h (unhide HN)) (fun _ => h) (unhide HPI)
                rw [← unhide HC] at hx
                exact hx
              clear h
              go_wp2_with (first | (go_at_call 21; refine (step_any _ _ _ _ (by omega) (byte_lt _)).mono ?_; rintro e w' ⟨rfl, rfl⟩) | (go_at_call 22; refine (hasPrefix_any _ _ _).mono ?_; rintro e w' ⟨rfl, rfl⟩))
              all_goals exact ⟨⟨i + 1, _, op, rfl, by go_num, by omega, by omega, unhide HD1, fun _ => esc_plain (unhide HN), unhide (HX _), hop, hgr, hbel⟩, by simp [intOf]; omega⟩
            · have h91f : ((a[i].toNat : Int) == 91) = false := by simpa using h91
              have hx := (unhide HP).other i s op true hlt (fun h => absurd h (unhide HN)) (by simp) (unhide HPI)
              rw [← unhide HC] at hx
              have HX := hide hx
              clear hx h91
              go_wp2_with (go_at_call 21; refine (step_any _ _ _ _ (by omega) (byte_lt _)).mono ?_; rintro e w' ⟨rfl, rfl⟩)
              exact ⟨⟨i + 1, _, op, rfl, by go_num, by omega, by omega, unhide HD1, fun _ => esc_plain (unhide HN), unhide HX, hop, hgr, hbel⟩, by simp [intOf]; omega⟩
    · go_wp2
      go_ret
      have hie : i = a.size := by omega
      subst hie
      exact ⟨s, op, unhide HPI, rfl, hbel⟩
end Go.Proofs.Qxb6001342a
