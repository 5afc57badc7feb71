import Derived.Test.Qxb6001550aSplit
namespace Go.Proofs.Qxb6001550a
open Go.RowKit
set_option linter.unusedVariables false
set_option linter.unusedSimpArgs false

theorem ext_snoc (a : ByteArray) (s i : Nat) (hs : s ≤ i) (h : i < a.size) : (a.extract s (i + 1)).data.toList = (a.extract s i).data.toList ++ [at8 a i] := by
  have h' : i < a.data.toList.length := by simpa using h
  have e : a.data.toList[i]? = some (at8 a i) := by
    unfold at8
    rw [List.getD_eq_getElem?_getD, List.getElem?_eq_getElem h']
    rfl
  simp only [ByteArray.data_extract, Array.toList_extract, List.extract]
  rw [show i + 1 - s = (i - s) + 1 by omega, List.take_add_one, List.getElem?_drop, show s + (i - s) = i by omega, e]
  rfl

theorem ext_self (a : ByteArray) (s : Nat) : (a.extract s s).data.toList = [] := by
  simp [ByteArray.data_extract, Array.toList_extract, List.extract]

theorem ext_eq {a : ByteArray} {s i : Nat} {cur : List UInt8} (h : (a.extract s i).data.toList = cur) : a.extract s i = ⟨cur.toArray⟩ := by
  rw [← h]

/-- with no quote none is open at the end -/
theorem spF_noquote (f : Nat → UInt8) (n : Nat) (keep : Bool) (L : Int → Int) (h : ∀ k, k < n → (f k).toNat ≠ 34) (d i : Nat) (inw : Bool) (st : Nat) (cur : List UInt8) (ws : List (ByteArray × Int)) :
    (spF f n keep L d i inw false st cur ws).2 = 0 := by
  induction d generalizing i inw st cur ws with
  | zero => simp [spF, spEnd]
  | succ d ih =>
    rw [spF]
    by_cases hi : i < n
    · rw [if_pos hi]
      split
      · exact ih _ _ _ _ _
      · rw [if_neg (h i hi), if_neg (by simp)]
        split
        · split
          · exact ih _ _ _ _ _
          · exact ih _ _ _ _ _
        · exact ih _ _ _ _ _
    · rw [if_neg hi]
      simp [spEnd]

theorem spF_length (f : Nat → UInt8) (n : Nat) (keep : Bool) (L : Int → Int) (d i : Nat) (inw inq : Bool) (st : Nat) (cur : List UInt8) (ws : List (ByteArray × Int)) :
    (spF f n keep L d i inw inq st cur ws).1.length ≤ ws.length + (n - i) + 1 := by
  have hend : ∀ (inw inq : Bool) (st : Nat) (cur : List UInt8) (ws : List (ByteArray × Int)), (spEnd L inw inq st cur ws).1.length ≤ ws.length + 1 := by
    intro inw inq st cur ws
    unfold spEnd
    cases inw <;> simp
  induction d generalizing i inw inq st cur ws with
  | zero => rw [spF]; have := hend inw inq st cur ws; omega
  | succ d ih =>
    rw [spF]
    by_cases hi : i < n
    · rw [if_pos hi]
      split
      · have := ih (i + 2) (nW inw (f i)) inq (nS inw (f i) i st) (if keep then cur ++ [f i] ++ [f (i + 1)] else cur ++ [f (i + 1)]) ws
        omega
      · split
        · have := ih (i + 1) (nW inw (f i)) (!inq) (nS inw (f i) i st) cur ws
          omega
        · split
          · have := ih (i + 1) (nW inw (f i)) inq (nS inw (f i) i st) (cur ++ [f i]) ws
            omega
          · split
            · split
              · have := ih (i + 1) false inq (nS inw (f i) i st) [] (ws ++ [(⟨cur.toArray⟩, L (nS inw (f i) i st))])
                simp only [List.length_append, List.length_singleton] at this
                omega
              · have := ih (i + 1) (nW inw (f i)) inq (nS inw (f i) i st) cur ws
                omega
            · have := ih (i + 1) (nW inw (f i)) inq (nS inw (f i) i st) (cur ++ [f i]) ws
              omega
    · rw [if_neg hi]
      have := hend inw inq st cur ws
      omega

theorem info9' : (Try.prog.info? 9).map (fun i => (i.zero, i.size, i.bytes)) = some (some (.string ⟨#[]⟩), 1, 16) := by kernel_rfl

def strs (ws : List (ByteArray × Int)) : List Value := ws.map fun p => .string p.1
theorem strs_snoc (ws : List (ByteArray × Int)) (x : ByteArray) (l : Int) : strs (ws ++ [(x, l)]) = strs ws ++ [.string x] := by simp [strs]

theorem sep_or {c : UInt8} (h : sepB c = true) : c.toNat = 32 ∨ (¬ c.toNat = 32 ∧ c.toNat = 9) := by
  simp [sepB] at h
  omega
theorem nosep_and {c : UInt8} (h : sepB c = false) : ¬ c.toNat = 32 ∧ ¬ c.toNat = 9 := by
  simpa [sepB] using h

/-- the state of zzFields beside splitWords' machine -/
def RelF (a : ByteArray) (w : World) (L : Int → Int) (R : List (ByteArray × Int) × Int) (vo vb vi : Value) (wr : World) : Prop :=
  ∃ (i d st : Nat) (inw : Bool) (cur : List UInt8) (ws : List (ByteArray × Int)), vi = .int .i64 (i : Int) ∧ vb = .int .i64 (if inw then (st : Int) else -1) ∧ i ≤ a.size ∧ a.size ≤ i + d ∧ st ≤ i ∧ ws.length ≤ i ∧
    Hid ((inw = false → cur = []) ∧ (inw = true → (a.extract st i).data.toList = cur) ∧ spF (at8 a) a.size false L d i inw false st cur ws = R) ∧ wr.ownsRow w.heap.size 9 1 vo ws.length (strs ws) ∧ Below w.heap.size w wr

set_option maxRecDepth 100000 in
set_option maxHeartbeats 2000000 in
theorem fields_any (a : ByteArray) (w : World) (hs : a.size ≤ 65536) (L : Int → Int) (F : Nat) (hF : a.size ≤ F) (h92 : Hid (∀ k, k < a.size → (at8 a k).toNat ≠ 92)) (h34 : Hid (∀ k, k < a.size → (at8 a k).toNat ≠ 34)) (R : List (ByteArray × Int) × Int) (HR : Hid (spF (at8 a) a.size false L F 0 false false 0 [] [] = R)) :
    Calls Try.prog 13 #[.string a] w fun e w' => ∃ v, e = .returned v ∧ w'.ownsRow w.heap.size 9 1 v R.1.length (strs R.1) ∧ Below w.heap.size w w' := by
  obtain ⟨i9, hi9, hz9, hs9, hb9⟩ := info_parts info9'
  go_enter Try.func13, Try.ntmps13
  go_wp2
  go_loopw [3, 4, 5] (fun vo vb vi wr => RelF a w L R vo vb vi wr) (fun _ _ vi _ => a.size - (intOf vi).toNat)
  case atStart => exact ⟨0, F, 0, false, [], [], rfl, rfl, by omega, by omega, by omega, by simp, hide ⟨fun _ => rfl, by simp, unhide HR⟩, World.ownsRow_nil _ _ _ _, Below.refl _ _⟩
  case round =>
    obtain ⟨i, d, st, inw, cur, ws, rfl, rfl, hi, hd, hst, hws, HU, hown, hbel⟩ := hrel
    have hbs := hbel.size
    by_cases hlt : i < a.size
    · obtain ⟨c, hc⟩ : ∃ c : UInt8, (a[i]'hlt) = c := ⟨_, rfl⟩
      have HC : Hid (at8 a i = c) := hide ((at8_at a i hlt).symm.trans hc)
      obtain ⟨d, rfl⟩ : ∃ g, d = g + 1 := ⟨d - 1, by omega⟩
      obtain ⟨hu0, hu1, hun⟩ := unhide HU
      have hne : ¬ escP (at8 a) a.size false i false := fun h => unhide h92 i hlt h.1
      rw [spF, if_pos hlt, if_neg hne, if_neg (unhide h34 i hlt), if_neg (by simp), unhide HC] at hun
      cases hsb : sepB c with
      | true =>
        rw [if_pos hsb] at hun
        cases inw with
        | true =>
          rw [if_pos (by simp [nW]), show nS true c i st = st by simp [nS]] at hun
          have HX := hide (ext_eq (hu1 rfl))
          have HU' : Hid ((false = false → ([] : List UInt8) = []) ∧ (false = true → (a.extract st (i + 1)).data.toList = []) ∧ spF (at8 a) a.size false L d (i + 1) false false st [] (ws ++ [(⟨cur.toArray⟩, L st)]) = R) := hide ⟨fun _ => rfl, by simp, hun⟩
          clear hun hu0 hu1 HU hne
          rcases sep_or hsb with h32 | ⟨h32, h9⟩
          · have t32 : ((c.toNat : Int) == 32) = true := by simp; omega
            clear h32
            go_wp2_with (at_builtin; refine wpList_append_lies _ rfl _ _ _ rfl w.heap.size 9 i9 (.string ⟨#[]⟩) 1 16 Try.underlying25 hi9 hz9 hs9 hb9 rfl (by omega) u3 ws.length (strs ws) rfl (hown.alloc _) ⟨wr.heap.size, 0, none⟩ 1 1 [.string (a.extract st i)] rfl rfl (World.news_of_block (cs := #[.string (a.extract st i)]) (t := 9) (fr := (0, 0)) (heap_alloc_new wr _)) (by simp [Value.oneCell']) (by omega) (by have : maxLen = 9223372036854775807 := rfl; omega) (by omega) (by simp; omega) (wr.heap.size + 1) (by simp) ?_; intro g cap w1 hown1 hgrow hat hlt2)
            exact ⟨⟨i + 1, d, st, false, [], ws ++ [(⟨cur.toArray⟩, L st)], by go_num, rfl, by omega, by omega, by omega, by simp; omega, HU', by rw [strs_snoc, List.length_append, ← unhide HX]; exact hown1, (hbel.alloc (by omega) _).grown hgrow (by simp; omega) (fun k hk => (hown.lt k hk).1)⟩, by simp [intOf]; omega⟩
          · have t32 : ((c.toNat : Int) == 32) = false := by simp; omega
            have t9 : ((c.toNat : Int) == 9) = true := by simp; omega
            clear h32 h9
            go_wp2_with (at_builtin; refine wpList_append_lies _ rfl _ _ _ rfl w.heap.size 9 i9 (.string ⟨#[]⟩) 1 16 Try.underlying25 hi9 hz9 hs9 hb9 rfl (by omega) u3 ws.length (strs ws) rfl (hown.alloc _) ⟨wr.heap.size, 0, none⟩ 1 1 [.string (a.extract st i)] rfl rfl (World.news_of_block (cs := #[.string (a.extract st i)]) (t := 9) (fr := (0, 0)) (heap_alloc_new wr _)) (by simp [Value.oneCell']) (by omega) (by have : maxLen = 9223372036854775807 := rfl; omega) (by omega) (by simp; omega) (wr.heap.size + 1) (by simp) ?_; intro g cap w1 hown1 hgrow hat hlt2)
            exact ⟨⟨i + 1, d, st, false, [], ws ++ [(⟨cur.toArray⟩, L st)], by go_num, rfl, by omega, by omega, by omega, by simp; omega, HU', by rw [strs_snoc, List.length_append, ← unhide HX]; exact hown1, (hbel.alloc (by omega) _).grown hgrow (by simp; omega) (fun k hk => (hown.lt k hk).1)⟩, by simp [intOf]; omega⟩
        | false =>
          rw [if_neg (by simp [nW, hsb]), show nW false c = false by simp [nW, hsb], show nS false c i st = st by simp [nS, hsb]] at hun
          have HU' : Hid ((false = false → cur = []) ∧ (false = true → (a.extract st (i + 1)).data.toList = cur) ∧ spF (at8 a) a.size false L d (i + 1) false false st cur ws = R) := hide ⟨hu0, by simp, hun⟩
          clear hun hu0 hu1 HU hne
          rcases sep_or hsb with h32 | ⟨h32, h9⟩
          · have t32 : ((c.toNat : Int) == 32) = true := by simp; omega
            clear h32
            go_wp2
            exact ⟨⟨i + 1, d, st, false, cur, ws, by go_num, rfl, by omega, by omega, by omega, by omega, HU', hown, hbel⟩, by simp [intOf]; omega⟩
          · have t32 : ((c.toNat : Int) == 32) = false := by simp; omega
            have t9 : ((c.toNat : Int) == 9) = true := by simp; omega
            clear h32 h9
            go_wp2
            exact ⟨⟨i + 1, d, st, false, cur, ws, by go_num, rfl, by omega, by omega, by omega, by omega, HU', hown, hbel⟩, by simp [intOf]; omega⟩
      | false =>
        rw [if_neg (by simp [hsb]), show nW inw c = true by simp [nW, hsb]] at hun
        obtain ⟨h32, h9⟩ := nosep_and hsb
        have t32 : ((c.toNat : Int) == 32) = false := by simp; omega
        have t9 : ((c.toNat : Int) == 9) = false := by simp; omega
        clear h32 h9
        cases inw with
        | true =>
          rw [show nS true c i st = st by simp [nS]] at hun
          have HU' : Hid ((true = false → cur ++ [c] = []) ∧ (true = true → (a.extract st (i + 1)).data.toList = cur ++ [c]) ∧ spF (at8 a) a.size false L d (i + 1) true false st (cur ++ [c]) ws = R) := hide ⟨by simp, fun _ => by rw [ext_snoc a st i hst hlt, hu1 rfl, unhide HC], hun⟩
          clear hun hu0 hu1 HU hne
          go_wp2
          exact ⟨⟨i + 1, d, st, true, cur ++ [c], ws, by go_num, rfl, by omega, by omega, by omega, by omega, HU', hown, hbel⟩, by simp [intOf]; omega⟩
        | false =>
          rw [show nS false c i st = i by simp [nS, hsb]] at hun
          have HU' : Hid ((true = false → cur ++ [c] = []) ∧ (true = true → (a.extract i (i + 1)).data.toList = cur ++ [c]) ∧ spF (at8 a) a.size false L d (i + 1) true false i (cur ++ [c]) ws = R) := hide ⟨by simp, fun _ => by rw [ext_snoc a i i (Nat.le_refl _) hlt, ext_self, hu0 rfl, unhide HC], hun⟩
          clear hun hu0 hu1 HU hne
          go_wp2
          exact ⟨⟨i + 1, d, i, true, cur ++ [c], ws, by go_num, rfl, by omega, by omega, by omega, by omega, HU', hown, hbel⟩, by simp [intOf]; omega⟩
    · obtain ⟨hu0, hu1, hun⟩ := unhide HU
      rw [spF_past _ _ _ _ _ _ _ _ _ _ _ (by omega)] at hun
      obtain rfl : i = a.size := by omega
      clear HU HR
      subst hun
      cases inw with
      | true =>
        have HX := hide (ext_eq (hu1 rfl))
        clear hu0 hu1
        go_wp2_with (at_builtin; refine wpList_append_lies _ rfl _ _ _ rfl w.heap.size 9 i9 (.string ⟨#[]⟩) 1 16 Try.underlying25 hi9 hz9 hs9 hb9 rfl (by omega) u3 ws.length (strs ws) rfl (hown.alloc _) ⟨wr.heap.size, 0, none⟩ 1 1 [.string (a.extract st a.size)] rfl rfl (World.news_of_block (cs := #[.string (a.extract st a.size)]) (t := 9) (fr := (0, 0)) (heap_alloc_new wr _)) (by simp [Value.oneCell']) (by omega) (by have : maxLen = 9223372036854775807 := rfl; omega) (by omega) (by simp; omega) (wr.heap.size + 1) (by simp) ?_; intro g cap w1 hown1 hgrow hat hlt2)
        go_ret
        refine ⟨_, rfl, ?_, (hbel.alloc (by omega) _).grown hgrow (by simp; omega) (fun k hk => (hown.lt k hk).1)⟩
        show w1.ownsRow w.heap.size 9 1 _ (ws ++ [((⟨cur.toArray⟩ : ByteArray), L (st : Int))]).length (strs (ws ++ [((⟨cur.toArray⟩ : ByteArray), L (st : Int))]))
        rw [strs_snoc, List.length_append, ← unhide HX]
        exact hown1
      | false =>
        clear hu0 hu1
        go_wp2
        go_ret
        exact ⟨_, rfl, hown, hbel⟩
end Go.Proofs.Qxb6001550a
