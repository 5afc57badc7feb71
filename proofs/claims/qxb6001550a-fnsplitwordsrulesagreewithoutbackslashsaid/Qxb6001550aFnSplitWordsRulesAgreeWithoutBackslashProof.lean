/- A proof of 'Rows.FnSplitWordsRulesAgreeWithoutBackslashSaid'. The frame is the kit's template at this function; the walk is ours. -/
import Derived.Test.Qxb6001550aRows
import Derived.Test.Qxb6001550aZZ
import Derived.Test.Qxb6001550aFields
import Derived.WalkKit
import Derived.ProofKit
import Derived.OpenShut
import Derived.ShutString
import Derived.ChangeOld
import Derived.Below
namespace Go.Proofs.Qxb6001550a.fnSplitWordsRulesAgreeWithoutBackslash
open Go.ChangeShapes Go.WideShapes Go.ChangeAt Go.RowKit
open Go.ChangeMaps (open_string shut_string)
set_option linter.unusedVariables false

theorem own : ownKnob Try.prog.godebug = none := by kernel_rfl
theorem laidOut : laidOutB Try.prog = true := by kernel_rfl

/-- WHAT THE WALK IS TOLD OF A SLICE OF INTEGERS THAT CAME IN: it is nil; or it leads to a row of 'cap' cells, the numbers 'zs' (the first 'len' are its elements, the rest its spare room), each fitting its kind. -/
def IsRow (k : IntKind) (w : World) (a : Option Addr) (len cap : Nat) (zs : List Int) : Prop :=
  (a = none ∧ len = 0 ∧ cap = 0 ∧ zs = []) ∨
  ∃ x, a = some x ∧ len ≤ cap ∧ cap ≤ maxLen ∧ zs.length = cap ∧ (∀ i, i < zs.length → w.cell? (x.add i) = some (.int k (zs.getD i 0))) ∧ ∀ n ∈ zs, (Lit.int k n).wf = true


theorem zz12 (a : ByteArray) (n : Int) (a2 : Option Addr) (len cap : Nat) (w : World) (ha : a.size ≤ maxLen) (hl : len ≤ maxLen) : Calls Try.prog 12 #[.string a, .int .i64 n, .slice a2 len cap] w fun e w' => (∃ b, e = .returned (.bool b)) ∧ w' = w := by
  have e : maxLen = 9223372036854775807 := rfl
  rw [e] at ha hl
  go_enter Try.func12, Try.ntmps12
  go_wp2
  all_goals (go_ret; exact ⟨⟨_, rfl⟩, rfl⟩)

def Scan (a : ByteArray) (vq vi : Value) : Prop := ∃ (i : Nat) (hq : Bool), vi = .int .i64 (i : Int) ∧ vq = .bool hq ∧ i ≤ a.size ∧ Hid ((∀ k, k < i → (at8 a k).toNat ≠ 92) ∧ (hq = false → ∀ k, k < i → (at8 a k).toNat ≠ 34))

def CopyR (w : World) (g len : Nat) (zs : List Int) (vk : Value) (wr : World) : Prop :=
  ∃ k : Nat, vk = .int .i64 (k : Int) ∧ k ≤ len ∧ (∃ cl : List Value, RowAt wr g 3 cl ∧ cl.length = len ∧ ∀ j, j < k → cl[j]? = some (.int .i64 (zs.getD j 0))) ∧ Below w.heap.size w wr

def Cmp (w : World) (B gt gl gt2 gl2 : Nat) (ws : List (ByteArray × Int)) (vk : Value) (wr : World) : Prop :=
  ∃ k : Nat, vk = .int .i64 (k : Int) ∧ k ≤ ws.length ∧ Out wr B gt gl ws ∧ Out wr B gt2 gl2 ws ∧ Below w.heap.size w wr

def Cmp2 (w : World) (B gt gl gf : Nat) (ws : List (ByteArray × Int)) (vk : Value) (wr : World) : Prop :=
  ∃ k : Nat, vk = .int .i64 (k : Int) ∧ k ≤ ws.length ∧ Out wr B gt gl ws ∧ (∀ j (h : j < ws.length), wr.cell? ⟨gf, j, none⟩ = some (.string (ws[j]'h).1)) ∧ Below w.heap.size w wr

theorem _root_.Go.Proofs.Qxb6001550a.Out.base {w : World} {B C gt gl : Nat} {ws : List (ByteArray × Int)} (h : Out w B gt gl ws) (hc : C ≤ B) : Out w C gt gl ws :=
  ⟨by have := h.bt; omega, by have := h.bl; omega, h.lt, h.ll, h.ct, h.cl⟩

theorem _root_.Go.Proofs.Qxb6001550a.Out.drewN {w : World} {B gt gl : Nat} {ws : List (ByteArray × Int)} (h : Out w B gt gl ws) (n : Nat) : Out (w.drewN n) B gt gl ws := ⟨h.bt, h.bl, h.lt, h.ll, h.ct, h.cl⟩
theorem below_drew {B : Nat} {w w' : World} (h : Below B w w') (n : Nat) : Below B w (w'.drewN n) := ⟨h.os, h.tape, h.output, h.size, h.block⟩

theorem strs_at {w : World} {B : Nat} {v : Value} {ws : List (ByteArray × Int)} {u : Int} (h : w.ownsRow B 9 1 v (ws, u).1.length (strs (ws, u).1)) : (v = .slice none 0 0 ∧ ws = []) ∨ ∃ g cap, v = .slice (some ⟨g, 0, none⟩) ws.length cap ∧ g < w.heap.size ∧ ∀ k (hk : k < ws.length), w.cell? ⟨g, k, none⟩ = some (.string (ws[k]'hk).1) := by
  rcases h.2 with ⟨hv, h0⟩ | ⟨g, cap, cur, hv, _, hg, _⟩
  · exact .inl ⟨hv, List.length_eq_zero_iff.1 h0⟩
  · subst hv
    have hc := h.cells (g := g) rfl
    refine .inr ⟨g, cap, rfl, (Array.getElem?_eq_some_iff.1 hg).1, fun k hk => ?_⟩
    have h1 := hc k (.string (ws[k]'hk).1) (by simp [strs, List.getElem?_eq_getElem hk])
    rw [addr_add] at h1
    exact h1

set_option maxRecDepth 100000 in
set_option maxHeartbeats 4000000 in
theorem walk (a0 : ByteArray) (a1 : Int) (a2 : Option Addr) (len2 cap2 : Nat) (z2 : List Int) (w : World) (w0 : a0.size ≤ maxLen) (w1 : (Lit.int .i64 a1).wf = true) (w2 : IsRow .i64 w a2 len2 cap2 z2) :
    Calls Try.prog 6 #[.string a0, .int .i64 a1, .slice a2 len2 cap2] w fun e w' => e = .returned (.bool true) ∧ Below w.heap.size w w' := by
  have hml : maxLen = 9223372036854775807 := rfl
  have hl2 : len2 ≤ maxLen := by
    rcases w2 with ⟨_, rfl, _⟩ | ⟨x, _, h1, h2, _⟩
    · omega
    · omega
  obtain ⟨i3, hi3, hz3, hs3, hb3⟩ := info_parts info3
  have HRW := hide w2
  clear w2 w1
  have w0' : a0.size ≤ 9223372036854775807 := w0
  have hl2' : len2 ≤ 9223372036854775807 := hl2
  have hnq : ∀ W, (binOp .neq 28 (.slice a2 len2 cap2) (.slice none 0 0)).run Try.prog W = .ok (.bool a2.isSome) W := fun W => by cases a2 <;> rfl
  go_enter Try.func6, Try.ntmps6
  go_wp2_with fail
  refine (zz12 a0 a1 a2 len2 cap2 _ w0 hl2).mono ?_
  rintro e w' ⟨⟨b, rfl⟩, hw⟩
  replace hw := hw.symm
  subst hw
  clear w0 hl2
  cases b with
  | false =>
    go_wp2
    go_ret
    exact ⟨rfl, Below.refl _ _⟩
  | true =>
    by_cases s1 : a0.size ≤ 65536
    · by_cases s2 : len2 ≤ 4096
      · go_wp2_with fail
        go_loop [7, 8] (fun vq vi => Scan a0 vq vi) (fun _ vi => a0.size - (intOf vi).toNat)
        case atStart => exact ⟨0, false, rfl, rfl, by omega, hide ⟨fun k hk => by omega, fun _ k hk => by omega⟩⟩
        case round =>
          obtain ⟨i, hq, rfl, rfl, hi, HS⟩ := hrel
          by_cases hlt : i < a0.size
          · obtain ⟨c, hc⟩ : ∃ c : UInt8, (a0[i]'hlt) = c := ⟨_, rfl⟩
            have HC : Hid (at8 a0 i = c) := hide ((at8_at a0 i hlt).symm.trans hc)
            by_cases h92 : c.toNat = 92
            · have t92 : ((c.toNat : Int) == 92) = true := by simp; omega
              clear h92
              go_wp2
              go_ret
              exact ⟨rfl, Below.refl _ _⟩
            · have t92 : ((c.toNat : Int) == 92) = false := by simp; omega
              have k92 : ∀ k, k < i + 1 → (at8 a0 k).toNat ≠ 92 := fun k hk => by
                by_cases e : k = i
                · subst e; rw [unhide HC]; exact h92
                · exact (unhide HS).1 k (by omega)
              by_cases h34 : c.toNat = 34
              · have t34 : ((c.toNat : Int) == 34) = true := by simp; omega
                have HK := hide k92
                clear k92 h34
                go_wp2
                exact ⟨⟨i + 1, true, by go_num, rfl, by omega, hide ⟨unhide HK, by simp⟩⟩, by simp [intOf]; omega⟩
              · have t34 : ((c.toNat : Int) == 34) = false := by simp; omega
                have k34 : hq = false → ∀ k, k < i + 1 → (at8 a0 k).toNat ≠ 34 := fun hh k hk => by
                  by_cases e : k = i
                  · subst e; rw [unhide HC]; exact h34
                  · exact (unhide HS).2 hh k (by omega)
                have HK := hide (And.intro k92 k34)
                clear k92 k34
                go_wp2
                exact ⟨⟨i + 1, hq, by go_num, rfl, by omega, HK⟩, by simp [intOf]; omega⟩
          · obtain rfl : i = a0.size := by omega
            have H92 := hide (unhide HS).1
            have H34 := hide (unhide HS).2
            clear HS
            go_upto_region 17 with fail
            go_cut [53] (fun v wx => v = .bool a2.isSome ∧ wx = w)
            case first =>
              go_wp2_with fail
              go_meet
              case rel => exact ⟨rfl, rfl⟩
            case rest =>
              obtain ⟨rfl, hwc⟩ := hcut
              replace hwc := hwc.symm
              subst hwc
              go_upto_if 53 with fail
              go_cut [2] (fun v wx => ∃ js : List Int, JoinsAt wx v js ∧ js.length ≤ 4096 ∧ Below w.heap.size w wx)
              case first =>
                rcases unhide HRW with ⟨rfl, rfl, rfl, rfl⟩ | ⟨x, rfl, hle, hmx, hzl, hcell, _⟩
                · go_wp2
                  go_meet
                  case rel => exact ⟨[], .inl ⟨rfl, rfl⟩, by simp, Below.refl _ _⟩
                · obtain ⟨xb, xo, xs⟩ := x
                  go_wp2_with (at_make; refine wpList_make_full _ rfl _ _ 28 rfl w.heap.size 3 i3 (.int .i64 0) 1 Try.underlying28 hi3 hz3 hs3 .i64 .i64 _ _ len2 rfl rfl rfl rfl (by rw [hb3]; omega) (by unfold maxLen; omega) (Nat.le_refl _) ?_; intro w2 hown2 hgrow2)
                  have hbel0 : Below w.heap.size w w2 := (Below.refl _ _).grown hgrow2 (Nat.le_refl _) (by intro k hk; cases hk)
                  obtain ⟨hr0, hr1⟩ := row_of_own hown2
                  have HR0 := hide hr0
                  clear hown2 hgrow2 hr0
                  go_loopw [10] (fun vk wr => CopyR w w.heap.size len2 z2 vk wr) (fun vk _ => len2 - (intOf vk).toNat)
                  case atStart => exact ⟨0, rfl, by omega, ⟨_, unhide HR0, hr1, fun j hj => by omega⟩, hbel0⟩
                  case round =>
                    clear HR0 hbel0 hr1
                    obtain ⟨k, rfl, hk, ⟨cl, hrow, hcl, hval⟩, hbel⟩ := hrel
                    by_cases hlk : k < len2
                    · have hck := hcell k (by omega)
                      have hblk : (Addr.add ⟨xb, xo, xs⟩ k).block < w.heap.size := World.block_lt_of_cell? w _ hck
                      have hck' := (hbel.cell hblk).trans hck
                      obtain ⟨y, hy⟩ : ∃ y, z2.getD k 0 = y := ⟨_, rfl⟩
                      rw [hy] at hck'
                      obtain ⟨l0, hl0⟩ : ∃ l0, wr.cell? ⟨w.heap.size, k, none⟩ = some l0 := ⟨_, (hrow.cell k).trans (List.getElem?_eq_getElem (by omega))⟩
                      have fl := hrow.frozen k
                      have HRO := hide hrow
                      have HV := hide hval
                      clear hrow hval hck hcell
                      go_wp2
                      refine ⟨⟨k + 1, by go_num, by omega, ⟨cl.set k (.int .i64 y), (unhide HRO).set k _, by simpa using hcl, fun j hj => ?_⟩, hbel.setCell (p := ⟨w.heap.size, k, none⟩) (Nat.le_refl _) _⟩, by simp [intOf]; omega⟩
                      by_cases e : k = j
                      · subst e
                        rw [List.getElem?_set_self (by omega), hy]
                      · rw [List.getElem?_set_ne e]
                        exact unhide HV j (by omega)
                    · obtain rfl : k = len2 := by omega
                      go_wp2
                      go_meet
                      case rel => exact ⟨z2.take k, .inr ⟨_, _, by rw [List.length_take, Nat.min_eq_left (by omega)], hrow.lt, fun j hj => by
                        rw [List.length_take] at hj
                        rw [hrow.cell j, hval j (by omega)]
                        simp [show j < k by omega]⟩, by simp; omega, hbel⟩
              case rest =>
                obtain ⟨js, hj, hjl, hbel⟩ := hcut
                obtain ⟨vo, vl, vc, rfl⟩ := joins_shape hj
                obtain ⟨ws, u, H1⟩ : ∃ ws u, Hid (spF (at8 a0) a0.size false (fun s => lineF s js a1) a0.size 0 false false 0 [] [] = (ws, u)) := ⟨_, _, hide rfl⟩
                have H2 : Hid (spF (at8 a0) a0.size true (fun s => lineF s js a1) a0.size 0 false false 0 [] [] = (ws, u)) := hide ((spF_rules _ _ _ (unhide H92) _ _ _ _ _ _ _).trans (unhide H1))
                have hlen : ws.length ≤ 4194304 := by
                  have := spF_length (at8 a0) a0.size false (fun s => lineF s js a1) a0.size 0 false false 0 [] []
                  rw [show spF (at8 a0) a0.size false (fun s => lineF s js a1) a0.size 0 false false 0 [] [] = (ws, u) from unhide H1] at this
                  simp at this
                  omega
                have HJ := hide hj
                have HB := hide hbel
                clear hj hbel HRW hnq
                go_wp2_with fail
                refine (zzsplit_any a0 a1 _ js false _ (by omega) (unhide HJ) (by omega) a0.size (Nat.le_refl _) ws u H1 hlen).mono ?_
                rintro e w3 ⟨gt, gl, rfl, ho1, hb3⟩
                have HJ3 := hide ((unhide HJ).below hb3)
                have HB3 := hide ((unhide HB).trans (hb3.mono (unhide HB).size))
                have HO1 := hide ho1
                clear ho1 HJ hb3
                go_wp2_with fail
                refine (zzsplit_any a0 a1 _ js true _ (by omega) (unhide HJ3) (by omega) a0.size (Nat.le_refl _) ws u H2 hlen).mono ?_
                rintro e w4 ⟨gt2, gl2, rfl, ho2, hb4⟩
                have HO1' := hide (((unhide HO1).below hb4 (Nat.le_refl _)).base (unhide HB).size)
                have HO2 := hide (ho2.base (unhide HB3).size)
                have HB4 := hide ((unhide HB3).trans (hb4.mono (unhide HB3).size))
                clear ho2 HJ3 hb4 HO1 HB3 HB
                have tu : (u != u) = false := by simp
                have tl : ((ws.length : Int) != (ws.length : Int)) = false := by simp
                go_wp2_with fail
                go_loopw [17] (fun vk wr => Cmp w w.heap.size gt gl gt2 gl2 ws vk wr) (fun vk _ => ws.length - (intOf vk).toNat)
                case atStart => exact ⟨0, rfl, by omega, unhide HO1', unhide HO2, unhide HB4⟩
                case round =>
                  clear HO1' HO2 HB4
                  obtain ⟨k, rfl, hk, ho1, ho2, hbel⟩ := hrel
                  by_cases hlk : k < ws.length
                  · obtain ⟨x, hx⟩ : ∃ x, (ws[k]'hlk).1 = x := ⟨_, rfl⟩
                    obtain ⟨y, hy⟩ : ∃ y, (ws[k]'hlk).2 = y := ⟨_, rfl⟩
                    have c1 := ho1.ct k hlk
                    have c2 := ho2.ct k hlk
                    have d1 := ho1.cl k hlk
                    have d2 := ho2.cl k hlk
                    rw [hx] at c1 c2
                    rw [hy] at d1 d2
                    have HA := hide (And.intro ho1 (And.intro ho2 hbel))
                    have tx : (x.toList != x.toList) = false := by simp
                    have ty : (y != y) = false := by simp
                    clear ho1 ho2 hbel
                    go_wp2_with fail
                    go_quiet (fail)
                    go_wp2_with fail
                    obtain ⟨g1, g2, g3⟩ := unhide HA
                    exact ⟨⟨k + 1, by go_num, by omega, g1.drewN _, g2.drewN _, below_drew g3 _⟩, by simp [intOf]; omega⟩
                  · obtain rfl : k = ws.length := by omega
                    cases hq with
                    | true =>
                      go_wp2_with fail
                      go_ret
                      exact ⟨rfl, hbel⟩
                    | false =>
                      have h34 := hide ((unhide H34) rfl)
                      have hu0 : u = 0 := by
                        have := spF_noquote (at8 a0) a0.size false (fun s => lineF s js a1) (unhide h34) a0.size 0 false 0 [] []
                        rw [show spF (at8 a0) a0.size false (fun s => lineF s js a1) a0.size 0 false false 0 [] [] = (ws, u) from unhide H1] at this
                        exact this
                      subst hu0
                      have HO := hide ho1
                      have HB := hide hbel
                      clear ho1 ho2 hbel
                      go_wp2_with fail
                      refine (fields_any a0 _ s1 (fun s => lineF s js a1) a0.size (Nat.le_refl _) H92 h34 (ws, 0) H1).mono ?_
                      rintro e w5 ⟨v, rfl, hown, hb5⟩
                      have HO5 := hide ((unhide HO).below hb5 (Nat.le_refl _))
                      have HB5 := hide ((unhide HB).trans (hb5.mono (unhide HB).size))
                      clear hb5 HO HB
                      rcases strs_at hown with ⟨rfl, rfl⟩ | ⟨gf, cap, rfl, hgf, hcf⟩
                      · go_wp2_with fail
                        go_loopw [19] (fun vk wr => vk = .int .i64 0 ∧ wr = w5) (fun _ _ => 0)
                        case atStart => exact ⟨rfl, rfl⟩
                        case round =>
                          obtain ⟨rfl, rfl⟩ := hrel
                          go_wp2
                          go_ret
                          exact ⟨rfl, unhide HB5⟩
                      · have HCF := hide hcf
                        clear hcf hown
                        go_wp2_with fail
                        go_loopw [19] (fun vk wr => Cmp2 w w.heap.size gt gl gf ws vk wr) (fun vk _ => ws.length - (intOf vk).toNat)
                        case atStart => exact ⟨0, rfl, by omega, unhide HO5, unhide HCF, unhide HB5⟩
                        case round =>
                          clear HO5 HCF HB5
                          obtain ⟨k, rfl, hk, ho1, hcf, hbel⟩ := hrel
                          by_cases hlk : k < ws.length
                          · obtain ⟨x, hx⟩ : ∃ x, (ws[k]'hlk).1 = x := ⟨_, rfl⟩
                            have c1 := ho1.ct k hlk
                            have c2 := hcf k hlk
                            rw [hx] at c1 c2
                            have HA := hide (And.intro ho1 (And.intro hcf hbel))
                            have tx : (x.toList != x.toList) = false := by simp
                            clear ho1 hcf hbel
                            go_wp2_with fail
                            go_quiet (fail)
                            go_wp2_with fail
                            obtain ⟨g1, g2, g3⟩ := unhide HA
                            exact ⟨⟨k + 1, by go_num, by omega, g1.drewN _, g2, below_drew g3 _⟩, by simp [intOf]; omega⟩
                          · go_wp2
                            go_ret
                            exact ⟨rfl, hbel⟩
      · go_wp2_with fail
        go_ret
        exact ⟨rfl, Below.refl _ _⟩
    · go_wp2_with fail
      go_ret
      exact ⟨rfl, Below.refl _ _⟩

/-! ### THE ROW's STEP: WRITTEN OUT: LEAVE IT -/
set_option maxRecDepth 100000 in
theorem lifted (os : Os) (started : os.Started) (H : Type) (enc : TypeId × Value → H) :
    ReturnsInHanded {} Try.checked os 6 .any (Rows.fnSplitWordsRulesAgreeWithoutBackslashSpec.pre6 enc Try.prog Try.f6 Rows.fnSplitWordsRulesAgreeWithoutBackslashRow.domain false) (Rows.fnSplitWordsRulesAgreeWithoutBackslashSpec.post enc Try.prog Try.f6 false true false false) := by
  refine returnsInHanded_of_change (C := Try.checked) own started (by kernel_rfl) Try.func6
    (ChangeSpec.witness6 (enc := enc) (C := Try.checked) false ⟨#[], #[.string ByteArray.empty, .int .i64 0, .slice none 0 0], []⟩ 8 (by kernel_rfl) (by kernel_rfl) (by kernel_rfl) (by kernel_rfl)) ?_
  intro W base args ds gs before hval0 hW hcnd _
  have hval : ∀ (j : Nat) t v, Try.f6.params[j]? = some t → args[j]? = some v → Value.okWide Try.prog W .any base t v := hval0
  have hW' := hW
  obtain ⟨p, q, hA0, hV, rfl, hfz, hnd⟩ := hW
  have hA : DataW.TrodAll enc Try.prog W 0 (fun _ => true) true Try.f6.params.toList args.toList ds p := hA0
  rw [Try.params6] at hA hval
  obtain ⟨v0, vs0, d0, ds0, p0, q0, hargs, rfl, rfl, h0, r0⟩ := trodAll_cons hA
  obtain ⟨v1, vs1, d1, ds1, p1, q1, rfl, rfl, rfl, h1, r1⟩ := trodAll_cons r0
  obtain ⟨v2, vs2, d2, ds2, p2, q2, rfl, rfl, rfl, h2, r2⟩ := trodAll_cons r1
  obtain ⟨rfl, rfl, rfl⟩ := trodAll_nil r2
  obtain rfl : args = #[v0, v1, v2] := by cases args; simp_all
  obtain ⟨rfl, rfl⟩ := trodVars_none hV
  obtain ⟨a0, rfl, rfl, rfl, w0⟩ := open_string Try.underlying9 (hval 0 9 v0 rfl rfl) h0
  obtain ⟨a1, rfl, rfl, rfl, w1⟩ := open_int Try.underlying3 (hval 1 3 v1 rfl rfl) h1
  obtain ⟨a2, len2, cap2, rfl⟩ := okWide_slice Try.underlying28 (hval 2 28 v2 rfl rfl)
  have k2 := h2
  have lt2 : ∀ x ∈ p2, x.block < W.heap.size := by obtain ⟨m, hm⟩ := k2; exact DataW.trod_lt m _ _ _ hm
  obtain ⟨z2, w2⟩ : ∃ zs, IsRow .i64 W a2 len2 cap2 zs := by
    obtain ⟨fuel, hf⟩ := h2
    rcases open_ints Try.underlying28 Try.underlying3 (by kernel_rfl) hf with ⟨hcs, _⟩ | ⟨x, l, c, zs, hcs, _, hl, hm, hz, _, hcell, hwz⟩
    · simp [Value.cells] at hcs
      obtain ⟨rfl, rfl, rfl⟩ := hcs
      exact ⟨[], .inl ⟨rfl, rfl, rfl, rfl⟩⟩
    · simp [Value.cells] at hcs
      obtain ⟨rfl, rfl, rfl⟩ := hcs
      exact ⟨zs, .inr ⟨_, rfl, hl, hm, by simpa using hz, hcell, hwz⟩⟩
  clear hA0 hval0
  refine (walk a0 a1 a2 len2 cap2 z2 W w0 w1 w2).mono fun e W' ⟨he, bel⟩ => ?_
  subst he
  exact ⟨_, rfl, _, _, _, [], _, [], hW', trodAll_mk1 (shut_bool Try.underlying4 _), (trodAll_cons_mk (shut_string Try.underlying9 w0) (trodAll_cons_mk (shut_int Try.underlying3 w1) (trodAll_cons_mk (Below.trod laidOut (by kernel_rfl) (of_decide_eq_true (by kernel_rfl)) k2 bel lt2) trodAll_mk0))), rfl, bel.frame _, fun h => by cases h⟩

theorem over : Rows.fnSplitWordsRulesAgreeWithoutBackslashRow.holds Try.pinned (OpenSpec.ofChange Rows.fnSplitWordsRulesAgreeWithoutBackslashSpec) :=
  OpenClaim.holds_of_wide 6 Try.f6 rfl rfl rfl rfl rfl rfl rfl ⟨rfl, rfl, rfl, rfl, rfl⟩ rfl rfl rfl rfl rfl (by kernel_rfl) Try.func6 (by kernel_rfl)
    (of_decide_eq_true (by kernel_rfl)) (by unfold Func.isWrapper; first | (rw [if_pos (by decide +kernel)]; kernel_rfl) | (rw [if_neg (by decide +kernel)]; exact ⟨rfl, rfl⟩))
    (fun os started H enc _ => lifted os started H enc)

/-- THE STATEMENT -/
theorem proved : Rows.FnSplitWordsRulesAgreeWithoutBackslashSaid := over
#print axioms proved
end Go.Proofs.Qxb6001550a.fnSplitWordsRulesAgreeWithoutBackslash
