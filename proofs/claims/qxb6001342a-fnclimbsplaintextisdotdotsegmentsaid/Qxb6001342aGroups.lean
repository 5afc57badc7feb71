import Derived.Test.Qxb6001342aStep
import Derived.Test.Qxb6001342aMem
namespace Go.Proofs.Qxb6001342a
open Go.RowKit
set_option linter.unusedVariables false
set_option linter.unusedSimpArgs false

def chr (a : ByteArray) (k : Nat) : Nat := (a.data.toList.getD k 0).toNat

theorem chr_at (a : ByteArray) (k : Nat) (h : k < a.size) : (a[k]'h).toNat = chr a k := by
  have h' : k < a.data.toList.length := by simpa using h
  unfold chr
  rw [List.getD_eq_getElem?_getD, List.getElem?_eq_getElem h']
  rfl

theorem info3 : (Try.prog.info? 3).map (fun i => (i.zero, i.size, i.bytes)) = some (some (.int .i64 0), 1, 8) := by kernel_rfl
theorem info4 : (Try.prog.info? 4).map (fun i => (i.zero, i.size, i.bytes)) = some (some (.bool false), 1, 1) := by kernel_rfl

theorem made_bools (n : Nat) : (madeCells (Value.bool false).cells (n * 1)).toList = bools n (fun _ => false) := by
  rw [Nat.mul_one, show (Value.bool false).cells = #[Value.bool false] from rfl, toList_madeCells_one]
  apply List.ext_getElem?
  intro j
  simp [bools, List.getElem?_replicate]
  by_cases h : j < n <;> simp [h]

theorem own_any {w : World} {B e size n : Nat} {v : Value} {xs : List Value} (h : w.ownsRow B e size v n xs) : ∃ ao cap, v = .slice ao n cap := by
  rcases own_shape h with ⟨rfl, rfl⟩ | ⟨g, cap, rfl, _⟩
  · exact ⟨_, _, rfl⟩
  · exact ⟨_, _, rfl⟩

theorem below_app {w wr w1 : World} {B e s n : Nat} {v : Value} {xs : List Value} {x : Obj} (hbel : Below B w wr) (hB : B ≤ wr.heap.size) (h : wr.ownsRow B e s v n xs) (hg : (wr.alloc x).grownBy w1 v.ownBlock) : Below B w w1 ∧ B ≤ w1.heap.size := by
  refine ⟨(hbel.alloc hB x).grown hg (by simp; omega) (fun k hk => (h.lt k hk).1), ?_⟩
  have := hg.size
  simp at this
  omega

theorem snoc_of (l : List Nat) (h : 0 < l.length) : ∃ l' x, l = l' ++ [x] := by
  rcases List.eq_nil_or_concat l with rfl | ⟨l', x, rfl⟩
  · simp at h
  · exact ⟨l', x, by simp⟩

theorem mark_none (G : Nat → Bool) (o i : Nat) : (fun j => (G j || j == o) || j == i) = mark G o i [] := by
  funext j
  simp [mark]

theorem mark_more (G : Nat → Bool) (o i c : Nat) (cs : List Nat) : (fun j => mark G o i cs j || j == c) = mark G o i (cs ++ [c]) := by
  funext j
  simp only [mark, List.contains_append]
  have e : [c].contains j = (j == c) := by rw [Bool.eq_iff_iff]; simp
  rw [e]
  simp only [Bool.or_assoc]

theorem take_more (cm : List Nat) (f j : Nat) (h : f + j < cm.length) : (cm.drop f).take j ++ [cm.getD (f + j) 0] = (cm.drop f).take (j + 1) := by
  rw [List.take_add_one, List.getElem?_drop, List.getElem?_eq_getElem h, List.getD_eq_getElem?_getD, List.getElem?_eq_getElem h]
  simp

theorem hide {p : Prop} (h : p) : Hid p := h
theorem unhide {p : Prop} (h : Hid p) : p := h

/-- the relation at the head of a round -/
def Rel (a : ByteArray) (w : World) (vo vf vc vi : Value) (wr : World) : Prop :=
  ∃ (i : Nat) (op fc cm : List Nat) (G : Nat → Bool), vi = .int .i64 (i : Int) ∧ i ≤ a.size + 1 ∧ op.length ≤ i ∧ fc.length ≤ i ∧ cm.length ≤ i ∧
    BG (chr a) a.size i op fc cm G ∧ Mem wr w.heap.size w.heap.size a.size vo vf vc op fc cm G ∧ Below w.heap.size w wr

theorem own_cut3 {w : World} {B e n f g cap : Nat} {cm : List Nat} (h : w.ownsRow B e 1 (.slice (some ⟨g, 0, none⟩) n cap) n (ints cm)) (hf : f ≤ n) (hn : n = cm.length) : w.ownsRow B e 1 (.slice (some ⟨g, 0, none⟩) f cap) (cm.take f).length (ints (cm.take f)) := by
  have := own_cut h hf
  rw [ints_take] at this
  have e : (cm.take f).length = f := by simp; omega
  rw [e]
  exact this

theorem Mem.drew {w : World} {B gb n : Nat} {vo vf vc : Value} {op fc cm : List Nat} {G : Nat → Bool} (h : Mem w B gb n vo vf vc op fc cm G) : Mem w.drew B gb n vo vf vc op fc cm G :=
  ⟨h.o.drew, h.f.drew, h.c.drew, h.g.drew, h.of, h.oc, h.fc⟩

theorem Rel.drew {a : ByteArray} {w wr : World} {vo vf vc vi : Value} (h : Rel a w vo vf vc vi wr) : Rel a w vo vf vc vi wr.drew := by
  obtain ⟨i, op, fc, cm, G, h1, h2, h3, h4, h5, h6, h7, h8⟩ := h
  exact ⟨i, op, fc, cm, G, h1, h2, h3, h4, h5, h6, h7.drew, h8.drew⟩

theorem rel_close {a : ByteArray} {w wr : World} {i o f go co gf cf : Nat} {op fc cm : List Nat} {G : Nat → Bool} {vc vc' : Value}
    (hbg : BG (chr a) a.size i (op ++ [o]) (fc ++ [f]) cm G) (hlt : i < a.size) (h : chr a i = 125) (hl : op.length = fc.length) (hol : op.length + 1 ≤ i) (hi : i ≤ a.size + 1) (hc : cm.length ≤ i)
    (hm : Mem wr w.heap.size w.heap.size a.size (.slice (some ⟨go, 0, none⟩) (op.length + 1) co) (.slice (some ⟨gf, 0, none⟩) (op.length + 1) cf) vc (op ++ [o]) (fc ++ [f]) cm (mark G o i ((cm.drop f).take (cm.length - f))))
    (hbel : Below w.heap.size w wr) (hv : wr.ownsRow w.heap.size 3 1 vc' (cm.take f).length (ints (cm.take f))) (hb : vc'.ownBlock = vc.ownBlock) :
    Rel a w (.slice (some ⟨go, 0, none⟩) op.length co) (.slice (some ⟨gf, 0, none⟩) op.length cf) vc' (.int .i64 ((i : Int) + 1)) wr := by
  rw [List.take_of_length_le (by simp)] at hm
  have hp := hm.pop rfl (by omega) hv hb
  rw [← hl] at hp
  exact ⟨i + 1, op, fc, cm.take f, _, by go_num, by omega, by omega, by omega, by simp; omega, hbg.closing hlt h, hp, hbel⟩

set_option maxRecDepth 100000 in
set_option maxHeartbeats 1000000 in
theorem groups_any (a : ByteArray) (w : World) (hs : a.size ≤ 1048576) :
    Calls Try.prog 20 #[.string a] w fun e w' => ∃ gb G, e = .returned (.slice (some ⟨gb, 0, none⟩) a.size a.size) ∧ Good (chr a) a.size G ∧ w'.ownsRow w.heap.size 4 1 (.slice (some ⟨gb, 0, none⟩) a.size a.size) a.size (bools a.size G) ∧ Below w.heap.size w w' := by
  obtain ⟨i3, hi3, hz3, hs3, hb3⟩ := info_parts info3
  obtain ⟨i4, hi4, hz4, hs4, hb4⟩ := info_parts info4
  go_enter Try.func20, Try.ntmps20
  go_wp2_with (at_make; refine wpList_make_full _ rfl _ _ 31 rfl w.heap.size 4 i4 (.bool false) 1 Try.underlying31 hi4 hz4 hs4 .i64 .i64 _ _ a.size rfl rfl rfl rfl (by rw [hb4]; omega) (by unfold maxLen; omega) (Nat.le_refl _) ?_; intro w0 hown0 hgrow0)
  rw [made_bools] at hown0
  have hbel0 : Below w.heap.size w w0 := (Below.refl _ _).grown hgrow0 (Nat.le_refl _) (by intro k hk; cases hk)
  clear hgrow0
  go_loopw [4, 5, 6, 7] (fun vo vf vc vi wr => Rel a w vo vf vc vi wr) (fun _ _ _ vi _ => a.size + 1 - (intOf vi).toNat)
  case atStart => exact ⟨0, [], [], [], _, rfl, by omega, by simp, by simp, by simp, BG.start _ _, ⟨World.ownsRow_nil _ _ _ _, World.ownsRow_nil _ _ _ _, World.ownsRow_nil _ _ _ _, hown0, apart_nil _, apart_nil _, apart_nil _⟩, hbel0⟩
  case round =>
    clear hown0 hbel0
    obtain ⟨i, op, fc, cm, G, rfl, hi, ho, hf, hc, hbg, hm, hbel⟩ := hrel
    obtain ⟨ao, co, rfl⟩ := own_any hm.o
    obtain ⟨af, cf, rfl⟩ := own_any hm.f
    obtain ⟨ac, cc, rfl⟩ := own_any hm.c
    have hB : w.heap.size ≤ wr.heap.size := hbel.size
    by_cases hlt : i < a.size
    · have hch := chr_at a i hlt
      have HC : Hid ((a[i]'hlt).toNat = chr a i) := hch
      clear hch
      by_cases h92 : ((a[i].toNat : Int) == 92) = true
      · go_wp2
        have h : chr a i = 92 := by rw [← HC.out]; simp at h92; omega
        refine ⟨⟨i + 2, op, fc, cm, G, by go_num, by omega, by omega, by omega, by omega, hbg.back h, hm, hbel⟩, by simp [intOf]; omega⟩
      · have h92' : ((a[i].toNat : Int) == 92) = false := by simpa using h92
        have hn92 : chr a i ≠ 92 := by rw [← HC.out]; simp at h92; omega
        clear h92
        by_cases h123 : ((a[i].toNat : Int) == 123) = true
        · have h : chr a i = 123 := by rw [← HC.out]; simp at h123; omega
          go_wp2_with (first
            | (at_builtin; refine wpList_append_own_at _ rfl (.tmp 32) (.tmp 34) 38 rfl w.heap.size 3 i3 (.int .i64 0) 1 8 Try.underlying38 hi3 hz3 hs3 hb3 rfl (by decide) (.slice ao op.length co) _ _ rfl (hm.alloc _).o ⟨wr.heap.size, 0, none⟩ 1 1 [.int .i64 i] rfl rfl (cell_one_new _ _ _) (by simp [Value.oneCell']) (by unfold maxLen; omega) (by omega) (by simp; omega) ?_; intro v1 w1 hown1 hgrow1 _ hat1; have hm1 := (hm.alloc _).pushO hown1 hgrow1 hat1; have hbel1 := below_app hbel hB hm.o hgrow1)
            | (at_builtin; refine wpList_append_own_at _ rfl (.tmp 36) (.tmp 39) 38 rfl w.heap.size 3 i3 (.int .i64 0) 1 8 Try.underlying38 hi3 hz3 hs3 hb3 rfl (by decide) (.slice af fc.length cf) _ _ rfl (hm1.alloc _).f ⟨w1.heap.size, 0, none⟩ 1 1 [.int .i64 cm.length] rfl rfl (cell_one_new _ _ _) (by simp [Value.oneCell']) (by unfold maxLen; omega) (by omega) (by have := hbel1.2; simp; omega) ?_; intro v2 w2 hown2 hgrow2 _ hat2))
          have hm2 := (hm1.alloc _).pushF hown2 hgrow2 hat2
          have hbel2 := below_app hbel1.1 hbel1.2 hm1.f hgrow2
          exact ⟨⟨i + 1, op ++ [i], fc ++ [cm.length], cm, G, by go_num, by omega, by simp; omega, by simp; omega, by omega, hbg.opening hlt h, hm2, hbel2.1⟩, by simp [intOf]; omega⟩
        · have h123' : ((a[i].toNat : Int) == 123) = false := by simpa using h123
          clear h123
          by_cases h44 : ((a[i].toNat : Int) == 44) = true
          · have h : chr a i = 44 := by rw [← HC.out]; simp at h44; omega
            go_wp2_with (at_builtin; refine wpList_append_own_at _ rfl (.tmp 46) (.tmp 48) 38 rfl w.heap.size 3 i3 (.int .i64 0) 1 8 Try.underlying38 hi3 hz3 hs3 hb3 rfl (by decide) (.slice ac cm.length cc) _ _ rfl (hm.alloc _).c ⟨wr.heap.size, 0, none⟩ 1 1 [.int .i64 i] rfl rfl (cell_one_new _ _ _) (by simp [Value.oneCell']) (by unfold maxLen; omega) (by omega) (by simp; omega) ?_; intro v1 w1 hown1 hgrow1 _ hat1)
            have hm1 := (hm.alloc _).pushC hown1 hgrow1 hat1
            have hbel1 := below_app hbel hB hm.c hgrow1
            exact ⟨⟨i + 1, op, fc, cm ++ [i], G, by go_num, by omega, by omega, by omega, by simp; omega, hbg.comma hlt h, hm1, hbel1.1⟩, by simp [intOf]; omega⟩
          · have h44' : ((a[i].toNat : Int) == 44) = false := by simpa using h44
            clear h44
            by_cases hcl : ((a[i].toNat : Int) == 125) = true ∧ 0 < op.length
            · obtain ⟨h125, hop⟩ := hcl
              have h : chr a i = 125 := by rw [← HC.out]; simp at h125; omega
              obtain ⟨op', o, rfl⟩ := snoc_of op hop
              obtain ⟨fc', f, rfl⟩ := snoc_of fc (by have := hbg.len; omega)
              have hlen : op'.length = fc'.length := by have := hbg.len; simpa using this
              obtain ⟨go, co', hvo, hco1, hBo, hgo, hco2⟩ := own_some hm.o hop
              obtain ⟨gf, cf', hvf, hcf1, hBf, hgf, hcf2⟩ := own_some hm.f (by simp)
              obtain ⟨rfl, rfl⟩ : ao = some ⟨go, 0, none⟩ ∧ co' = co := by cases hvo; exact ⟨rfl, rfl⟩
              obtain ⟨rfl, rfl⟩ : af = some ⟨gf, 0, none⟩ ∧ cf' = cf := by cases hvf; exact ⟨rfl, rfl⟩
              clear hvo hvf
              have hho := hbg.opn o (by simp)
              have hhf : f ≤ cm.length := hbg.fcle f (by simp)
              have hcell1 : wr.cell? ⟨go, op'.length, none⟩ = some (.int .i64 (o : Int)) := by
                have := own_cell (k := op'.length) hm.o rfl (by simp)
                simpa using this
              have hcell2 : wr.cell? ⟨gf, op'.length, none⟩ = some (.int .i64 (f : Int)) := by
                have := own_cell (k := fc'.length) hm.f rfl (by simp)
                rw [hlen]
                simpa using this
              have hcell3 : wr.cell? ⟨w.heap.size, o, none⟩ = some (.bool (G o)) := by rw [hm.g.cellAt o (by omega), bools_at _ _ _ hho.2.1]
              have hcell4 : wr.cell? ⟨w.heap.size, i, none⟩ = some (.bool (G i)) := by rw [hm.g.cellAt i (by omega), bools_at _ _ _ hlt]
              have hfr3 := hm.g.frozenAt o
              have hfr4 := hm.g.frozenAt i
              have hne1 : go ≠ w.heap.size := by
                intro e
                exact apart_type hm.o hm.g (by decide) go rfl (by rw [e]; rfl)
              have hne2 : gf ≠ w.heap.size := by
                intro e
                exact apart_type hm.f hm.g (by decide) gf rfl (by rw [e]; rfl)
              have hol : op'.length + 1 ≤ i := by simpa using ho
              have hco3 : op'.length + 1 ≤ co' := by simpa using hco1
              have hcf3 : op'.length + 1 ≤ cf' := by rw [hlen]; simpa using hcf1
              simp only [List.length_append, List.length_cons, List.length_nil, Nat.zero_add] at hm
              rw [← hlen] at hm
              simp only [List.length_append, List.length_cons, List.length_nil, Nat.zero_add]
              rw [← hlen]
              have hoi := hho.1
              have hon := hho.2.1
              have HO : Hid (chr a o = 123 ∧ esc (chr a) o = false ∧ G o = false) := hho.2.2
              have HL : Hid (op'.length = fc'.length) := hlen
              have HH : Hid (chr a i = 125) := h
              clear hho hlen h ho hf hco1 hcf1 hop
              have hM0 : Mem ((wr.setCell ⟨w.heap.size, o, none⟩ (.bool true)).setCell ⟨w.heap.size, i, none⟩ (.bool true)) w.heap.size w.heap.size a.size (.slice (some ⟨go, 0, none⟩) (op'.length + 1) co') (.slice (some ⟨gf, 0, none⟩) (op'.length + 1) cf') (.slice ac cm.length cc) (op' ++ [o]) (fc' ++ [f]) cm (mark G o i []) := by
                have := (hm.mark o).mark i
                rw [mark_none] at this
                exact this
              have hB0 : Below w.heap.size w ((wr.setCell ⟨w.heap.size, o, none⟩ (.bool true)).setCell ⟨w.heap.size, i, none⟩ (.bool true)) := (hbel.setCell (Nat.le_refl _) _).setCell (Nat.le_refl _) _
              rcases own_shape hm.c with ⟨hvc, hcm0⟩ | ⟨gc, cc', hvc, hcc1, hBc, hgc, hcc2⟩
              · obtain ⟨rfl, rfl⟩ : ac = none ∧ cc = 0 := by simp only [Value.slice.injEq] at hvc; exact ⟨hvc.1, hvc.2.2⟩
                obtain rfl : cm = [] := List.eq_nil_of_length_eq_zero hcm0
                obtain rfl : f = 0 := by simpa using hhf
                have HM0 := hide hM0
                have HMM := hide hm
                have HBG := hide hbg
                clear hM0 hm hbg
                go_wp2_with fail
                go_loopw [79] (fun vj wr2 => ∃ j : Nat, j ≤ 0 ∧ vj = .int .i64 (j : Int) ∧ Mem wr2 w.heap.size w.heap.size a.size (.slice (some ⟨go, 0, none⟩) (op'.length + 1) co') (.slice (some ⟨gf, 0, none⟩) (op'.length + 1) cf') (.slice none 0 0) (op' ++ [o]) (fc' ++ [0]) [] (mark G o i []) ∧ Below w.heap.size w wr2) (fun vj _ => 0 - (intOf vj).toNat)
                case atStart => exact ⟨0, by omega, rfl, unhide HM0, hB0⟩
                case round =>
                  obtain ⟨j, hj, rfl, hm2, hbel2⟩ := hrel
                  clear hcell1 hcell2 hcell3 hcell4 hfr3 hfr4 hB0
                  have hje : j = 0 := by omega
                  subst hje
                  have hcf4 : wr.cell? ⟨gf, op'.length, none⟩ = some (.int .i64 0) := by
                    have := own_cell (k := fc'.length) hm2.f (by simp [unhide HL]) (by simp)
                    rw [unhide HL]
                    simpa using this
                  have HR := hide (rel_close (cm := []) (f := 0) (vc' := .slice none 0 0) (unhide HBG) hlt (unhide HH) (unhide HL) hol hi hc hm2 hbel2 (World.ownsRow_nil _ _ _ _) rfl)
                  clear hm2
                  go_wp2
                  go_region
                  all_goals go_wp2
                  exact ⟨(unhide HR).drew, by simp [intOf]; omega⟩
              · obtain ⟨rfl, rfl⟩ : ac = some ⟨gc, 0, none⟩ ∧ cc' = cc := by cases hvc; exact ⟨rfl, rfl⟩
                clear hvc
                by_cases hfl : f < cm.length
                · have HM0 := hide hM0
                  have HMM := hide hm
                  have HBG := hide hbg
                  clear hM0 hm hbg
                  go_wp2_with fail
                  go_loopw [79] (fun vj wr2 => ∃ j : Nat, j ≤ cm.length - f ∧ vj = .int .i64 (j : Int) ∧ Mem wr2 w.heap.size w.heap.size a.size (.slice (some ⟨go, 0, none⟩) (op'.length + 1) co') (.slice (some ⟨gf, 0, none⟩) (op'.length + 1) cf') (.slice (some ⟨gc, 0, none⟩) cm.length cc') (op' ++ [o]) (fc' ++ [f]) cm (mark G o i ((cm.drop f).take j)) ∧ Below w.heap.size w wr2) (fun vj _ => cm.length - f - (intOf vj).toNat)
                  case atStart => exact ⟨0, by omega, rfl, by rw [List.take_zero]; exact unhide HM0, hB0⟩
                  case round =>
                    obtain ⟨j, hj, rfl, hm2, hbel2⟩ := hrel
                    clear hcell1 hcell2 hcell3 hcell4 hfr3 hfr4 hB0
                    by_cases hjl : f + j < cm.length
                    · have hcj : wr.cell? ⟨gc, f + j, none⟩ = some (.int .i64 ((cm.getD (f + j) 0 : Nat) : Int)) := own_cell hm2.c rfl hjl
                      have hcn : cm.getD (f + j) 0 < a.size := by
                        have hmem : cm.getD (f + j) 0 ∈ cm := by rw [List.getD_eq_getElem?_getD, List.getElem?_eq_getElem hjl]; simp
                        exact ((unhide HBG).cmn _ hmem).2.1
                      have hgcell : wr.cell? ⟨w.heap.size, cm.getD (f + j) 0, none⟩ = some (.bool (mark G o i ((cm.drop f).take j) (cm.getD (f + j) 0))) := by rw [hm2.g.cellAt _ (by omega), bools_at _ _ _ hcn]
                      have hgfr := hm2.g.frozenAt (cm.getD (f + j) 0)
                      have HM3 := hide (hm2.mark (cm.getD (f + j) 0))
                      rw [mark_more, take_more cm f j hjl] at HM3
                      have hB3 := hbel2.setCell (p := ⟨w.heap.size, cm.getD (f + j) 0, none⟩) (Nat.le_refl _) (.bool true)
                      generalize cm.getD (f + j) 0 = c at *
                      clear hm2
                      go_wp2
                      exact ⟨⟨j + 1, by omega, by go_num, unhide HM3, hB3⟩, by simp [intOf]; omega⟩
                    · have hje : j = cm.length - f := by omega
                      subst hje
                      have hcf4 : wr.cell? ⟨gf, op'.length, none⟩ = some (.int .i64 (f : Int)) := by
                        have := own_cell (k := fc'.length) hm2.f (by simp [unhide HL]) (by simp)
                        rw [unhide HL]
                        simpa using this
                      have HR := hide (rel_close (unhide HBG) hlt (unhide HH) (unhide HL) hol hi hc hm2 hbel2 (own_cut3 hm2.c hhf rfl) rfl)
                      clear hm2
                      go_wp2
                      go_region
                      all_goals go_wp2
                      exact ⟨(unhide HR).drew, by simp [intOf]; omega⟩
                · have hfe : f = cm.length := by omega
                  subst hfe
                  by_cases hcap : cc' = cm.length
                  · subst hcap
                    have HM0 := hide hM0
                    have HMM := hide hm
                    have HBG := hide hbg
                    clear hM0 hm hbg
                    go_wp2_with fail
                    go_loopw [79] (fun vj wr2 => ∃ j : Nat, j ≤ cm.length - cm.length ∧ vj = .int .i64 (j : Int) ∧ Mem wr2 w.heap.size w.heap.size a.size (.slice (some ⟨go, 0, none⟩) (op'.length + 1) co') (.slice (some ⟨gf, 0, none⟩) (op'.length + 1) cf') (.slice (some ⟨gc, 0, none⟩) cm.length cm.length) (op' ++ [o]) (fc' ++ [cm.length]) cm (mark G o i ((cm.drop cm.length).take j)) ∧ Below w.heap.size w wr2) (fun vj _ => cm.length - cm.length - (intOf vj).toNat)
                    case atStart => exact ⟨0, by omega, rfl, by rw [List.take_zero]; exact unhide HM0, hB0⟩
                    case round =>
                      obtain ⟨j, hj, rfl, hm2, hbel2⟩ := hrel
                      clear hcell1 hcell2 hcell3 hcell4 hfr3 hfr4 hB0
                      have hje : j = cm.length - cm.length := by omega
                      subst hje
                      have hcf4 : wr.cell? ⟨gf, op'.length, none⟩ = some (.int .i64 (cm.length : Int)) := by
                        have := own_cell (k := fc'.length) hm2.f (by simp [unhide HL]) (by simp)
                        rw [unhide HL]
                        simpa using this
                      have HR := hide (rel_close (unhide HBG) hlt (unhide HH) (unhide HL) hol hi hc hm2 hbel2 (own_cut3 hm2.c (Nat.le_refl _) rfl) rfl)
                      clear hm2
                      go_wp2
                      go_region
                      all_goals go_wp2
                      exact ⟨(unhide HR).drew, by simp [intOf]; omega⟩
                  · have HM0 := hide hM0
                    have HMM := hide hm
                    have HBG := hide hbg
                    clear hM0 hm hbg
                    go_wp2_with fail
                    go_loopw [79] (fun vj wr2 => ∃ j : Nat, j ≤ cm.length - cm.length ∧ vj = .int .i64 (j : Int) ∧ Mem wr2 w.heap.size w.heap.size a.size (.slice (some ⟨go, 0, none⟩) (op'.length + 1) co') (.slice (some ⟨gf, 0, none⟩) (op'.length + 1) cf') (.slice (some ⟨gc, 0, none⟩) cm.length cc') (op' ++ [o]) (fc' ++ [cm.length]) cm (mark G o i ((cm.drop cm.length).take j)) ∧ Below w.heap.size w wr2) (fun vj _ => cm.length - cm.length - (intOf vj).toNat)
                    case atStart => exact ⟨0, by omega, rfl, by rw [List.take_zero]; exact unhide HM0, hB0⟩
                    case round =>
                      obtain ⟨j, hj, rfl, hm2, hbel2⟩ := hrel
                      clear hcell1 hcell2 hcell3 hcell4 hfr3 hfr4 hB0
                      have hje : j = cm.length - cm.length := by omega
                      subst hje
                      have hcf4 : wr.cell? ⟨gf, op'.length, none⟩ = some (.int .i64 (cm.length : Int)) := by
                        have := own_cell (k := fc'.length) hm2.f (by simp [unhide HL]) (by simp)
                        rw [unhide HL]
                        simpa using this
                      have HR := hide (rel_close (unhide HBG) hlt (unhide HH) (unhide HL) hol hi hc hm2 hbel2 (own_cut3 hm2.c (Nat.le_refl _) rfl) rfl)
                      clear hm2
                      go_wp2
                      go_region
                      all_goals go_wp2
                      exact ⟨(unhide HR).drew, by simp [intOf]; omega⟩
            · by_cases h125 : ((a[i].toNat : Int) == 125) = true
              · have hop : op.length = 0 := by
                  have : ¬ 0 < op.length := fun h => hcl ⟨h125, h⟩
                  omega
                have hop' : ¬ (0 : Int) < op.length := by omega
                clear hcl
                go_wp2
                exact ⟨⟨i + 1, op, fc, cm, G, by go_num, by omega, by omega, by omega, by omega, hbg.plain hn92, hm, hbel⟩, by simp [intOf]; omega⟩
              · have h125' : ((a[i].toNat : Int) == 125) = false := by simpa using h125
                clear hcl h125
                go_wp2
                exact ⟨⟨i + 1, op, fc, cm, G, by go_num, by omega, by omega, by omega, by omega, hbg.plain hn92, hm, hbel⟩, by simp [intOf]; omega⟩
    · go_wp2
      go_ret
      exact ⟨_, G, rfl, hbg.good, hm.g, hbel⟩
end Go.Proofs.Qxb6001342a
