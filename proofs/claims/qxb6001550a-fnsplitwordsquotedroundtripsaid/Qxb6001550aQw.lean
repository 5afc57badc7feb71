import Derived.Test.Qxb6001550aQuote
import Derived.Laws.IdiomStrings
import Derived.Laws.BytesArg
import Derived.Deep.AppendLies
import Derived.OwnWalk
import Derived.Deep.DeepCutAuto
import Derived.Deep.QuietTactic
import Derived.BigQuiet
namespace Go.Proofs.Qxb6001550a
open Go.RowKit
set_option linter.unusedVariables false
set_option linter.unusedSimpArgs false

/-- a slice of strings that can be read -/
def StrsAt (w : World) (v : Value) (ss : List ByteArray) : Prop :=
  (v = .slice none 0 0 ∧ ss = []) ∨ ∃ g cap, v = .slice (some ⟨g, 0, none⟩) ss.length cap ∧ g < w.heap.size ∧ ∀ k (h : k < ss.length), w.cell? ⟨g, k, none⟩ = some (.string (ss[k]'h))

theorem info5 : (Try.prog.info? 5).map (fun i => (i.zero, i.size, i.bytes)) = some (some (.int .u8 0), 1, 1) := by kernel_rfl

theorem byte_snoc' (l : List UInt8) (c : UInt8) : Lib.byteCells l ++ [.int .u8 (c.toNat : Int)] = Lib.byteCells (l ++ [c]) := by
  simp [Lib.byteCells]

def wt : List (List UInt8) → Nat
  | [] => 0
  | x :: xs => 16 + x.length + wt xs

theorem wt_len (l : List (List UInt8)) : 16 * l.length ≤ wt l := by
  induction l with
  | nil => simp [wt]
  | cons y ys ih => simp only [List.length_cons, wt]; omega

theorem wt_snoc (l : List (List UInt8)) (x : List UInt8) : wt (l ++ [x]) = wt l + 16 + x.length := by
  induction l with
  | nil => simp [wt]
  | cons y ys ih => simp only [List.cons_append, wt, ih]; omega

theorem wt_take (l : List (List UInt8)) (k : Nat) : wt (l.take k) ≤ wt l := by
  induction l generalizing k with
  | nil => simp [wt]
  | cons y ys ih =>
    cases k with
    | zero => simp [wt]
    | succ k => have := ih k; simp only [List.take_succ_cons, wt]; omega

theorem qs_length (b : Bool) (l : List (List UInt8)) : (qs b l).length ≤ 2 * wt l := by
  induction l generalizing b with
  | nil => simp [qs]
  | cons x xs ih =>
    have h1 := ih false
    have h2 := escL_length x
    simp only [qs, wt, List.length_append, List.length_singleton]
    cases b <;> simp <;> omega

theorem own_byte {w : World} {B : Nat} {v : Value} {bs : List UInt8} {c : UInt8} {z : Int} (h : w.ownsRow B 5 1 v (bs.length + 1) (Lib.byteCells bs ++ [.int .u8 z])) (hz : z = (c.toNat : Int)) : w.ownsRow B 5 1 v (bs ++ [c]).length (Lib.byteCells (bs ++ [c])) := by
  subst hz
  rw [byte_snoc'] at h
  simpa using h

def RelQ (ss : List ByteArray) (w : World) (vb vi : Value) (wr : World) : Prop :=
  ∃ (i : Nat) (bs : List UInt8), vi = .int .i64 (i : Int) ∧ i ≤ ss.length ∧ Hid (bs = qs true ((ss.take i).map (·.data.toList))) ∧ wr.ownsRow w.heap.size 5 1 vb bs.length (Lib.byteCells bs) ∧ Below w.heap.size w wr

def RelJ (x : ByteArray) (pre : List UInt8) (w : World) (vb vj : Value) (wr : World) : Prop :=
  ∃ (j : Nat) (bs : List UInt8), vj = .int .i64 (j : Int) ∧ j ≤ x.size ∧ bs.length ≤ pre.length + 2 * j ∧ Hid (bs = pre ++ escL (x.data.toList.take j)) ∧ wr.ownsRow w.heap.size 5 1 vb bs.length (Lib.byteCells bs) ∧ Below w.heap.size w wr

theorem conv_own {w : World} {B : Nat} {v : Value} {bs : List UInt8} (h : w.ownsRow B 5 1 v bs.length (Lib.byteCells bs)) : (convert 39 9 v).run Try.prog w = .ok (.string ⟨bs.toArray⟩) w := by
  rcases h.2 with ⟨rfl, h0⟩ | ⟨g, cap, cur, hv, _, hg, _⟩
  · have : bs = [] := List.length_eq_zero_iff.1 h0
    subst this
    exact run_convert_bytes_nil (w := w) 39 5 Try.underlying39 Try.underlying5 0 0 9 Try.underlying9
  · subst hv
    have hc := h.cells (g := g) rfl
    exact run_convert_bytes_back w 39 9 5 ⟨g, 0, none⟩ cap bs Try.underlying39 Try.underlying5 Try.underlying9 (fun j hj => hc j _ (by simp [Lib.byteCells, List.getElem?_eq_getElem hj]))

theorem grown_below {w0 w w1 : World} {B n : Nat} {v : Value} {xs : List Value} {o : Obj} (h : Below B w0 w) (hB : B ≤ w.heap.size) (hg : (w.alloc o).grownBy w1 v.ownBlock) (hv : w.ownsRow B 5 1 v n xs) : Below B w0 w1 :=
  (h.alloc hB o).grown hg (by simp; omega) (fun k hk => (hv.lt k hk).1)

theorem take_snoc (x : ByteArray) (j : Nat) (h : j < x.size) : x.data.toList.take (j + 1) = x.data.toList.take j ++ [at8 x j] := by
  have h' : j < x.data.toList.length := by simpa using h
  rw [List.take_add_one, List.getElem?_eq_getElem h']
  unfold at8
  rw [List.getD_eq_getElem?_getD, List.getElem?_eq_getElem h']
  rfl

theorem take_ss (ss : List ByteArray) (i : Nat) (h : i < ss.length) : (ss.take (i + 1)).map (·.data.toList) = (ss.take i).map (·.data.toList) ++ [(ss[i]'h).data.toList] := by
  rw [List.take_add_one, List.getElem?_eq_getElem h, Option.toList_some, List.map_append]
  rfl

theorem qs_next (ss : List ByteArray) (i : Nat) (hi : i < ss.length) : (if true = true ∧ (ss.take i).map (·.data.toList) = [] then [] else [(32 : UInt8)]) = (if i = 0 then [] else [32]) := by
  have h2 : ((ss.take i).map (·.data.toList)).length = i := by rw [List.length_map, List.length_take]; omega
  by_cases h0 : i = 0
  · rw [if_pos h0, if_pos ⟨rfl, List.length_eq_zero_iff.1 (by omega)⟩]
  · rw [if_neg h0, if_neg]
    rintro ⟨_, e⟩
    rw [e] at h2
    simp at h2
    omega

set_option maxRecDepth 100000 in
set_option maxHeartbeats 4000000 in
theorem quote_any (v : Value) (ss : List ByteArray) (w : World) (hv : StrsAt w v ss) (hw : wt (ss.map (·.data.toList)) ≤ 1048576) :
    Calls Try.prog 9 #[v] w fun e w' => e = .returned (.string ⟨(qs true (ss.map (·.data.toList))).toArray⟩) ∧ Below w.heap.size w w' := by
  obtain ⟨i5, hi5, hz5, hs5, hb5⟩ := info_parts info5
  have hss : ss.length ≤ 65536 := by have := wt_len (ss.map (·.data.toList)); simp at this; omega
  rcases hv with ⟨rfl, rfl⟩ | ⟨g0, cap0, rfl, hg0, hc0⟩
  · have hconv : (convert 39 9 (.slice none 0 0)).run Try.prog w = .ok (.string ⟨#[]⟩) w := run_convert_bytes_nil (w := w) 39 5 Try.underlying39 Try.underlying5 0 0 9 Try.underlying9
    go_enter Try.func9, Try.ntmps9
    go_wp2_with fail
    go_loop [3, 4] (fun vb vi => vb = .slice none 0 0 ∧ vi = .int .i64 0) (fun _ _ => 0)
    case atStart => exact ⟨rfl, rfl⟩
    case round =>
      obtain ⟨rfl, rfl⟩ := hrel
      go_wp2
      go_ret
      exact ⟨rfl, Below.refl _ _⟩
  · go_enter Try.func9, Try.ntmps9
    go_wp2_with fail
    go_loopw [3, 4] (fun vb vi wr => RelQ ss w vb vi wr) (fun _ vi _ => ss.length - (intOf vi).toNat)
    case atStart => exact ⟨0, [], rfl, by omega, hide (by simp [qs]), World.ownsRow_nil _ _ _ _, Below.refl _ _⟩
    case round =>
      obtain ⟨i, bs, rfl, hi, HBS, hown, hbel⟩ := hrel
      have hbs := hbel.size
      have hlen : bs.length ≤ 2 * wt ((ss.take i).map (·.data.toList)) := by rw [unhide HBS]; exact qs_length _ _
      by_cases hlt : i < ss.length
      · obtain ⟨x, hx⟩ : ∃ x, (ss[i]'hlt) = x := ⟨_, rfl⟩
        have hcx : ∀ wx, Below w.heap.size w wx → wx.cell? ⟨g0, i, none⟩ = some (.string x) := fun wx hbx => (hbx.cell hg0).trans ((hc0 i hlt).trans (by rw [hx]))
        have hts := take_ss ss i hlt
        rw [hx] at hts
        have hwt : wt ((ss.take i).map (·.data.toList)) + 16 + x.size ≤ 1048576 := by
          have h1 := wt_take (ss.map (·.data.toList)) (i + 1)
          rw [← List.map_take, hts, wt_snoc] at h1
          have : x.data.toList.length = x.size := by simp
          omega
        have HTS := hide hts
        have HCX := hide hcx
        clear hts hcx hx hc0
        go_upto_if 15 with fail
        go_cut [3] from 8 to 50 (fun vb wx => ∃ bs1, Hid (bs1 = bs ++ (if i = 0 then [] else [32])) ∧ bs1.length ≤ bs.length + 1 ∧ wx.ownsRow w.heap.size 5 1 vb bs1.length (Lib.byteCells bs1) ∧ Below w.heap.size w wx)
        case first =>
          by_cases hi0 : i = 0
          · subst hi0
            go_wp2_with fail
            go_meet
            case rel => exact ⟨bs, hide (by simp), by omega, hown, hbel⟩
          · have hi0' : (0 : Int) < (i : Int) := by omega
            go_wp2_with (at_builtin; refine wpList_append_lies _ rfl (.tmp 16) (.tmp 17) 39 rfl w.heap.size 5 i5 (.int .u8 0) 1 1 Try.underlying39 hi5 hz5 hs5 hb5 rfl (by omega) u3 bs.length (Lib.byteCells bs) rfl (hown.alloc _) ⟨wr.heap.size, 0, none⟩ 1 1 [.int .u8 32] rfl rfl (World.news_of_block (cs := #[.int .u8 32]) (t := 5) (fr := (0, 0)) (heap_alloc_new wr _)) (by simp [Value.oneCell']) (by omega) (by have : maxLen = 9223372036854775807 := rfl; omega) (by omega) (by simp; omega) (wr.heap.size + 1) (by simp) ?_; intro g1 cap1 w1 hown1 hgrow1 hat1 hlt1)
            go_meet
            case rel => exact ⟨bs ++ [32], hide (by rw [if_neg hi0]), by simp, own_byte hown1 rfl, grown_below hbel (by omega) hgrow1 hown⟩
        case rest =>
          obtain ⟨bs1, HB1, hl1, hown1, hbel1⟩ := hcut
          have hbs1 := hbel1.size
          clear hown hbel hbs
          go_wp2_with (at_builtin; refine wpList_append_lies _ rfl (.tmp 19) (.tmp 20) 39 rfl w.heap.size 5 i5 (.int .u8 0) 1 1 Try.underlying39 hi5 hz5 hs5 hb5 rfl (by omega) u3 bs1.length (Lib.byteCells bs1) rfl (hown1.alloc _) ⟨wc.heap.size, 0, none⟩ 1 1 [.int .u8 34] rfl rfl (World.news_of_block (cs := #[.int .u8 34]) (t := 5) (fr := (0, 0)) (heap_alloc_new wc _)) (by simp [Value.oneCell']) (by omega) (by have : maxLen = 9223372036854775807 := rfl; omega) (by omega) (by simp; omega) (wc.heap.size + 1) (by simp) ?_; intro g2 cap2 w2 hown2 hgrow2 hat2 hlt2; have hb2 := grown_below hbel1 (by omega) hgrow2 hown1; have c0 := unhide HCX _ hb2)
          go_loopw [3, 6] (fun vb vj wr => RelJ x (bs1 ++ [34]) w vb vj wr) (fun _ vj _ => x.size - (intOf vj).toNat)
          case atStart => exact ⟨0, bs1 ++ [34], rfl, by omega, by simp, hide (by simp [escL]), own_byte hown2 rfl, hb2⟩
          case round =>
            clear hown1 hown2 hgrow2 hb2 c0 hbel1
            obtain ⟨j, bs3, rfl, hj, hl3, HB3, hown3, hbel3⟩ := hrel
            have hbs3 := hbel3.size
            simp only [List.length_append, List.length_singleton] at hl3
            by_cases hjx : j < x.size
            · obtain ⟨c, hc⟩ : ∃ c : UInt8, (x[j]'hjx) = c := ⟨_, rfl⟩
              have hesc := take_snoc x j hjx
              rw [(at8_at x j hjx).symm.trans hc] at hesc
              by_cases h34 : c.toNat = 34
              · have t34 : ((c.toNat : Int) == 34) = true := by simp; omega
                have HESC := hide (hide (show bs3 ++ [92] ++ [c] = (bs1 ++ [34]) ++ escL (x.data.toList.take (j + 1)) by rw [unhide HB3, hesc, escL_snoc, if_pos (.inl h34)]; simp))
                clear hesc h34
                go_wp2_with (first | (at_builtin; refine wpList_append_lies _ rfl (.tmp 41) (.tmp 42) 39 rfl w.heap.size 5 i5 (.int .u8 0) 1 1 Try.underlying39 hi5 hz5 hs5 hb5 rfl (by omega) u3 bs3.length (Lib.byteCells bs3) rfl (hown3.alloc _) ⟨wr.heap.size, 0, none⟩ 1 1 [.int .u8 92] rfl rfl (World.news_of_block (cs := #[.int .u8 92]) (t := 5) (fr := (0, 0)) (heap_alloc_new wr _)) (by simp [Value.oneCell']) (by omega) (by have : maxLen = 9223372036854775807 := rfl; omega) (by omega) (by simp; omega) (wr.heap.size + 1) (by simp) ?_; intro g4 cap4 w4 hown4 hgrow4 hat4 hlt4; have hb4 := grown_below hbel3 (by omega) hgrow4 hown3; have hs4 := hb4.size) | (at_builtin; refine wpList_append_lies _ rfl (.tmp 44) (.tmp 46) 39 rfl w.heap.size 5 i5 (.int .u8 0) 1 1 Try.underlying39 hi5 hz5 hs5 hb5 rfl (by omega) (.slice (some ⟨g4, 0, none⟩) (bs3.length + 1) cap4) (bs3.length + 1) (Lib.byteCells bs3 ++ [.int .u8 92]) rfl (hown4.alloc _) ⟨w4.heap.size, 0, none⟩ 1 1 [.int .u8 (c.toNat : Int)] rfl rfl (World.news_of_block (cs := #[.int .u8 (c.toNat : Int)]) (t := 5) (fr := (0, 0)) (heap_alloc_new w4 _)) (by simp [Value.oneCell']) (by omega) (by have : maxLen = 9223372036854775807 := rfl; omega) (by omega) (by simp; omega) (w4.heap.size + 1) (by simp) ?_; intro g5 cap5 w5 hown5 hgrow5 hat5 hlt5))
                refine ⟨⟨j + 1, bs3 ++ [92] ++ [c], by go_num, by omega, by simp; omega, unhide HESC, ?_, grown_below hb4 (by omega) hgrow5 hown4⟩, by simp [intOf]; omega⟩
                exact own_byte (bs := bs3 ++ [92]) (by rw [← byte_snoc', List.length_append]; exact hown5) rfl
              · have t34 : ((c.toNat : Int) == 34) = false := by simp; omega
                by_cases h92 : c.toNat = 92
                · have t92 : ((c.toNat : Int) == 92) = true := by simp; omega
                  have HESC := hide (hide (show bs3 ++ [92] ++ [c] = (bs1 ++ [34]) ++ escL (x.data.toList.take (j + 1)) by rw [unhide HB3, hesc, escL_snoc, if_pos (.inr h92)]; simp))
                  clear hesc h92
                  go_wp2_with (first | (at_builtin; refine wpList_append_lies _ rfl (.tmp 41) (.tmp 42) 39 rfl w.heap.size 5 i5 (.int .u8 0) 1 1 Try.underlying39 hi5 hz5 hs5 hb5 rfl (by omega) u3 bs3.length (Lib.byteCells bs3) rfl (hown3.alloc _) ⟨wr.heap.size, 0, none⟩ 1 1 [.int .u8 92] rfl rfl (World.news_of_block (cs := #[.int .u8 92]) (t := 5) (fr := (0, 0)) (heap_alloc_new wr _)) (by simp [Value.oneCell']) (by omega) (by have : maxLen = 9223372036854775807 := rfl; omega) (by omega) (by simp; omega) (wr.heap.size + 1) (by simp) ?_; intro g4 cap4 w4 hown4 hgrow4 hat4 hlt4; have hb4 := grown_below hbel3 (by omega) hgrow4 hown3; have hs4 := hb4.size) | (at_builtin; refine wpList_append_lies _ rfl (.tmp 44) (.tmp 46) 39 rfl w.heap.size 5 i5 (.int .u8 0) 1 1 Try.underlying39 hi5 hz5 hs5 hb5 rfl (by omega) (.slice (some ⟨g4, 0, none⟩) (bs3.length + 1) cap4) (bs3.length + 1) (Lib.byteCells bs3 ++ [.int .u8 92]) rfl (hown4.alloc _) ⟨w4.heap.size, 0, none⟩ 1 1 [.int .u8 (c.toNat : Int)] rfl rfl (World.news_of_block (cs := #[.int .u8 (c.toNat : Int)]) (t := 5) (fr := (0, 0)) (heap_alloc_new w4 _)) (by simp [Value.oneCell']) (by omega) (by have : maxLen = 9223372036854775807 := rfl; omega) (by omega) (by simp; omega) (w4.heap.size + 1) (by simp) ?_; intro g5 cap5 w5 hown5 hgrow5 hat5 hlt5))
                  refine ⟨⟨j + 1, bs3 ++ [92] ++ [c], by go_num, by omega, by simp; omega, unhide HESC, ?_, grown_below hb4 (by omega) hgrow5 hown4⟩, by simp [intOf]; omega⟩
                  exact own_byte (bs := bs3 ++ [92]) (by rw [← byte_snoc', List.length_append]; exact hown5) rfl
                · have t92 : ((c.toNat : Int) == 92) = false := by simp; omega
                  have HESC := hide (hide (show bs3 ++ [c] = (bs1 ++ [34]) ++ escL (x.data.toList.take (j + 1)) by rw [unhide HB3, hesc, escL_snoc, if_neg (fun h => h.elim h34 h92)]; simp))
                  clear hesc
                  go_wp2_with (at_builtin; refine wpList_append_lies _ rfl (.tmp 44) (.tmp 46) 39 rfl w.heap.size 5 i5 (.int .u8 0) 1 1 Try.underlying39 hi5 hz5 hs5 hb5 rfl (by omega) u3 bs3.length (Lib.byteCells bs3) rfl (hown3.alloc _) ⟨wr.heap.size, 0, none⟩ 1 1 [.int .u8 (c.toNat : Int)] rfl rfl (World.news_of_block (cs := #[.int .u8 (c.toNat : Int)]) (t := 5) (fr := (0, 0)) (heap_alloc_new wr _)) (by simp [Value.oneCell']) (by omega) (by have : maxLen = 9223372036854775807 := rfl; omega) (by omega) (by simp; omega) (wr.heap.size + 1) (by simp) ?_; intro g5 cap5 w5 hown5 hgrow5 hat5 hlt5)
                  exact ⟨⟨j + 1, bs3 ++ [c], by go_num, by omega, by simp; omega, unhide HESC, own_byte hown5 rfl, grown_below hbel3 (by omega) hgrow5 hown3⟩, by simp [intOf]; omega⟩
            · obtain rfl : j = x.size := by omega
              go_wp2_with (at_builtin; refine wpList_append_lies _ rfl (.tmp 48) (.tmp 49) 39 rfl w.heap.size 5 i5 (.int .u8 0) 1 1 Try.underlying39 hi5 hz5 hs5 hb5 rfl (by omega) u3 bs3.length (Lib.byteCells bs3) rfl (hown3.alloc _) ⟨wr.heap.size, 0, none⟩ 1 1 [.int .u8 34] rfl rfl (World.news_of_block (cs := #[.int .u8 34]) (t := 5) (fr := (0, 0)) (heap_alloc_new wr _)) (by simp [Value.oneCell']) (by omega) (by have : maxLen = 9223372036854775807 := rfl; omega) (by omega) (by simp; omega) (wr.heap.size + 1) (by simp) ?_; intro g6 cap6 w6 hown6 hgrow6 hat6 hlt6)
              refine ⟨⟨i + 1, bs3 ++ [34], by go_num, by omega, hide ?_, own_byte hown6 rfl, grown_below hbel3 (by omega) hgrow6 hown3⟩, by simp [intOf]; omega⟩
              have e3 := unhide HB3
              rw [List.take_of_length_le (by simp)] at e3
              rw [unhide HTS, qs_snoc, qs_next ss i hlt, e3, unhide HB1, ← unhide HBS]
              simp
      · obtain rfl : i = ss.length := by omega
        have hconv := conv_own hown
        have HE : Hid (bs = qs true (ss.map (·.data.toList))) := by have := unhide HBS; rw [List.take_length] at this; exact hide this
        go_wp2
        go_ret
        exact ⟨by rw [← unhide HE]; rfl, hbel⟩
end Go.Proofs.Qxb6001550a
