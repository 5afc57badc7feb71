/- plain: no Go in sight: the braces of a text -/
namespace Go.Proofs.Qxb6001342a

theorem getD_app_l (l l' : List Nat) (d k : Nat) (h : k < l.length) : (l ++ l').getD k d = l.getD k d := by
  simp [List.getElem?_append_left h]
theorem getD_app_r (l l' : List Nat) (d k : Nat) (h : l.length ≤ k) : (l ++ l').getD k d = l'.getD (k - l.length) d := by
  simp [List.getElem?_append_right h]

/-- position k stands behind a backslash that is not itself escaped -/
def esc (ch : Nat → Nat) : Nat → Bool
  | 0 => false
  | k + 1 => ch k == 92 && !esc ch k

def wt (ch : Nat → Nat) (G : Nat → Bool) (k : Nat) : Int :=
  if G k = true then (if ch k = 123 then 1 else if ch k = 125 then -1 else 0) else 0

/-- the depth ahead of position k: marked openings less marked closings -/
def dep (ch : Nat → Nat) (G : Nat → Bool) : Nat → Int
  | 0 => 0
  | k + 1 => dep ch G k + wt ch G k

structure Good (ch : Nat → Nat) (n : Nat) (G : Nat → Bool) : Prop where
  low : ∀ k, G k = true → k < n ∧ esc ch k = false ∧ (ch k = 123 ∨ ch k = 44 ∨ ch k = 125)
  deep : ∀ k, G k = true → (ch k = 44 ∨ ch k = 125) → 1 ≤ dep ch G k

/-- what holds at the head of a round of braceGroups -/
structure BG (ch : Nat → Nat) (n i : Nat) (op fc cm : List Nat) (G : Nat → Bool) : Prop where
  good : Good ch n G
  lt : ∀ k, G k = true → k < i
  e : esc ch i = false
  zero : dep ch G i = 0
  pos : ∀ k, 0 ≤ dep ch G k
  len : op.length = fc.length
  opn : ∀ o ∈ op, o < i ∧ o < n ∧ ch o = 123 ∧ esc ch o = false ∧ G o = false
  inc : op.Pairwise (· < ·)
  cmn : ∀ c ∈ cm, c < i ∧ c < n ∧ ch c = 44 ∧ esc ch c = false
  fcle : ∀ f ∈ fc, f ≤ cm.length
  fcin : fc.Pairwise (· ≤ ·)
  ord : ∀ j m, fc.getD j 0 ≤ m → j < op.length → m < cm.length → op.getD j 0 < cm.getD m 0

theorem dep_none (ch : Nat → Nat) (k : Nat) : 0 ≤ dep ch (fun _ => false) k := by
  induction k with
  | zero => simp [dep]
  | succ k ih => simp [dep, wt]; exact ih

theorem BG.start (ch : Nat → Nat) (n : Nat) : BG ch n 0 [] [] [] (fun _ => false) :=
  ⟨⟨by simp, by simp⟩, by simp, rfl, rfl, dep_none ch, rfl, by simp, by simp, by simp, by simp, by simp, by simp⟩

theorem BG.gno {ch : Nat → Nat} {n i : Nat} {op fc cm : List Nat} {G : Nat → Bool} (h : BG ch n i op fc cm G) (k : Nat) (hk : i ≤ k) : G k = false := by
  cases hg : G k with
  | false => rfl
  | true => have := h.lt k hg; omega

theorem BG.depS {ch : Nat → Nat} {n i : Nat} {op fc cm : List Nat} {G : Nat → Bool} (h : BG ch n i op fc cm G) (k : Nat) (hk : i ≤ k) : dep ch G k = 0 := by
  induction k with
  | zero => rfl
  | succ k ih =>
    by_cases hi : i = k + 1
    · rw [← hi]; exact h.zero
    · have e := ih (by omega)
      have g := h.gno k (by omega)
      simp [dep, e, wt, g]

theorem BG.back {ch : Nat → Nat} {n i : Nat} {op fc cm : List Nat} {G : Nat → Bool} (h : BG ch n i op fc cm G) (hc : ch i = 92) : BG ch n (i + 2) op fc cm G := by
  refine ⟨h.good, fun k hk => by have := h.lt k hk; omega, ?_, h.depS _ (by omega), h.pos, h.len, fun o ho => ?_, h.inc, fun c hc => ?_, h.fcle, h.fcin, h.ord⟩
  · have e := h.e
    simp [esc, hc, e]
  · obtain ⟨a, b⟩ := h.opn o ho; exact ⟨by omega, b⟩
  · obtain ⟨a, b⟩ := h.cmn c hc; exact ⟨by omega, b⟩

theorem BG.plain {ch : Nat → Nat} {n i : Nat} {op fc cm : List Nat} {G : Nat → Bool} (h : BG ch n i op fc cm G) (hc : ch i ≠ 92) : BG ch n (i + 1) op fc cm G := by
  refine ⟨h.good, fun k hk => by have := h.lt k hk; omega, ?_, h.depS _ (by omega), h.pos, h.len, fun o ho => ?_, h.inc, fun c hc => ?_, h.fcle, h.fcin, h.ord⟩
  · simp [esc, hc]
  · obtain ⟨a, b⟩ := h.opn o ho; exact ⟨by omega, b⟩
  · obtain ⟨a, b⟩ := h.cmn c hc; exact ⟨by omega, b⟩

theorem BG.opening {ch : Nat → Nat} {n i : Nat} {op fc cm : List Nat} {G : Nat → Bool} (h : BG ch n i op fc cm G) (hn : i < n) (hc : ch i = 123) : BG ch n (i + 1) (op ++ [i]) (fc ++ [cm.length]) cm G := by
  have h1 := h.plain (by omega)
  refine ⟨h1.good, h1.lt, h1.e, h1.zero, h.pos, by simp [h.len], ?_, ?_, h1.cmn, ?_, ?_, ?_⟩
  · intro o ho
    rcases List.mem_append.1 ho with ho | ho
    · exact h1.opn o ho
    · simp at ho; subst ho; exact ⟨by omega, hn, hc, h.e, h.gno _ (Nat.le_refl _)⟩
  · rw [List.pairwise_append]
    refine ⟨h.inc, by simp, fun a ha b hb => ?_⟩
    simp at hb; subst hb; exact (h.opn a ha).1
  · intro f hf
    rcases List.mem_append.1 hf with hf | hf
    · exact h.fcle f hf
    · simp at hf; omega
  · rw [List.pairwise_append]
    refine ⟨h.fcin, by simp, fun a ha b hb => ?_⟩
    simp at hb; subst hb; exact h.fcle a ha
  · intro j m hj hl hm
    have hl' : j < op.length + 1 := by simpa using hl
    by_cases hjl : j < op.length
    · rw [getD_app_l _ _ _ _ (by rw [← h.len]; exact hjl)] at hj
      rw [getD_app_l _ _ _ _ hjl]
      exact h.ord j m hj hjl hm
    · have : j = op.length := by omega
      subst this
      rw [getD_app_r _ _ _ _ (by rw [h.len]; exact Nat.le_refl _)] at hj
      simp [h.len] at hj
      omega

theorem BG.comma {ch : Nat → Nat} {n i : Nat} {op fc cm : List Nat} {G : Nat → Bool} (h : BG ch n i op fc cm G) (hn : i < n) (hc : ch i = 44) : BG ch n (i + 1) op fc (cm ++ [i]) G := by
  have h1 := h.plain (by omega)
  refine ⟨h1.good, h1.lt, h1.e, h1.zero, h.pos, h.len, h1.opn, h.inc, ?_, ?_, h.fcin, ?_⟩
  · intro o ho
    rcases List.mem_append.1 ho with ho | ho
    · exact h1.cmn o ho
    · simp at ho; subst ho; exact ⟨by omega, hn, hc, h.e⟩
  · intro f hf
    have := h.fcle f hf
    simp; omega
  · intro j m hj hl hm
    have hm' : m < cm.length + 1 := by simpa using hm
    by_cases hml : m < cm.length
    · rw [getD_app_l _ _ _ _ hml]
      exact h.ord j m hj hl hml
    · have : m = cm.length := by omega
      subst this
      rw [getD_app_r _ _ _ _ (Nat.le_refl _)]
      simp
      rw [List.getElem?_eq_getElem hl]
      simp
      exact (h.opn _ (List.getElem_mem hl)).1

/-- the marks once the innermost open brace is closed at i -/
def mark (G : Nat → Bool) (o i : Nat) (cs : List Nat) : Nat → Bool := fun k => G k || k == o || k == i || cs.contains k

theorem dep_mark {ch : Nat → Nat} {i o : Nat} {G : Nat → Bool} {cs : List Nat} (hoi : o < i) (hGo : G o = false) (hGi : G i = false) (hco : ch o = 123) (hci : ch i = 125) (hcs : ∀ c ∈ cs, ch c = 44) (k : Nat) :
    dep ch (mark G o i cs) k = dep ch G k + (if o < k ∧ k ≤ i then 1 else 0) := by
  induction k with
  | zero => simp [dep]
  | succ k ih =>
    simp only [dep, ih]
    have hcon : k = o ∨ k = i → cs.contains k = false := by
      intro hk
      cases hcc : cs.contains k with
      | false => rfl
      | true =>
        have := hcs k (by simpa using hcc)
        rcases hk with rfl | rfl <;> omega
    by_cases h1 : k = o
    · subst h1
      simp [wt, mark, hGo, hco]
      omega
    · by_cases h2 : k = i
      · subst h2
        simp [wt, mark, hGi, hci]
        rw [if_pos (by omega), if_neg (by omega)]; omega
      · have hw : wt ch (mark G o i cs) k = wt ch G k := by
          simp only [wt, mark]
          have e1 : (k == o) = false := by simpa using h1
          have e2 : (k == i) = false := by simpa using h2
          simp only [e1, e2, Bool.or_false]
          cases hcc : cs.contains k with
          | false => simp
          | true =>
            have := hcs k (by simpa using hcc)
            cases G k <;> simp [this]
        rw [hw]
        have : (if o < k ∧ k ≤ i then (1 : Int) else 0) = (if o < k + 1 ∧ k + 1 ≤ i then 1 else 0) := by
          split <;> split <;> omega
        omega

theorem BG.closing {ch : Nat → Nat} {n i o f : Nat} {op fc cm : List Nat} {G : Nat → Bool} (h : BG ch n i (op ++ [o]) (fc ++ [f]) cm G) (hn : i < n) (hc : ch i = 125) :
    BG ch n (i + 1) op fc (cm.take f) (mark G o i (cm.drop f)) := by
  have h1 := h.plain (by omega)
  have hlen : op.length = fc.length := by have := h.len; simpa using this
  have ho := h.opn o (by simp)
  have hGi := h.gno i (Nat.le_refl _)
  have hf : f ≤ cm.length := h.fcle f (by simp)
  have hcs : ∀ c ∈ cm.drop f, o < c ∧ c < i ∧ c < n ∧ ch c = 44 ∧ esc ch c = false := by
    intro c hcm
    have hm := h.cmn c (List.mem_of_mem_drop hcm)
    refine ⟨?_, hm⟩
    obtain ⟨m, hml, rfl⟩ := List.getElem_of_mem hcm
    have hml' : f + m < cm.length := by simp at hml; omega
    have := h.ord op.length (f + m) (by rw [getD_app_r _ _ _ _ (by omega)]; simp [hlen]) (by simp) hml'
    rw [getD_app_r _ _ _ _ (Nat.le_refl _)] at this
    simp at this
    rw [List.getElem?_eq_getElem hml'] at this
    simpa using this
  have hdm := dep_mark (ch := ch) (cs := cm.drop f) ho.1 ho.2.2.2.2 hGi ho.2.2.1 hc (fun c hcc => (hcs c hcc).2.2.2.1)
  have hmk : ∀ k, mark G o i (cm.drop f) k = true → G k = true ∨ k = o ∨ k = i ∨ k ∈ cm.drop f := by
    intro k hk
    simp only [mark, Bool.or_eq_true, beq_iff_eq, List.contains_iff_mem] at hk
    rcases hk with ((hk | hk) | hk) | hk
    · exact .inl hk
    · exact .inr (.inl hk)
    · exact .inr (.inr (.inl hk))
    · exact .inr (.inr (.inr hk))
  have hinc := List.pairwise_append.1 h.inc
  have hfin := List.pairwise_append.1 h.fcin
  refine ⟨⟨?_, ?_⟩, ?_, h1.e, ?_, ?_, hlen, ?_, hinc.1, ?_, ?_, hfin.1, ?_⟩
  · intro k hk
    rcases hmk k hk with hk | rfl | rfl | hk
    · exact h.good.low k hk
    · exact ⟨ho.2.1, ho.2.2.2.1, .inl ho.2.2.1⟩
    · exact ⟨hn, h.e, .inr (.inr hc)⟩
    · exact ⟨(hcs k hk).2.2.1, (hcs k hk).2.2.2.2, .inr (.inl (hcs k hk).2.2.2.1)⟩
  · intro k hk hcc
    rw [hdm]
    rcases hmk k hk with hk | rfl | rfl | hk
    · have := h.good.deep k hk hcc
      split <;> omega
    · have := ho.2.2.1; omega
    · have := h.zero; rw [this, if_pos (by omega)]; omega
    · rw [if_pos ⟨(hcs k hk).1, by have := (hcs k hk).2.1; omega⟩]
      have := h.pos k; omega
  · intro k hk
    rcases hmk k hk with hk | rfl | rfl | hk
    · have := h.lt k hk; omega
    · omega
    · omega
    · have := (hcs k hk).2.1; omega
  · rw [hdm, if_neg (by omega)]
    have := h1.zero; omega
  · intro k
    rw [hdm]
    have := h.pos k
    split <;> omega
  · intro q hq
    obtain ⟨a, b, c, d, e⟩ := h1.opn q (by simp [hq])
    refine ⟨a, b, c, d, ?_⟩
    have hqo : q < o := hinc.2.2 q hq o (by simp)
    cases hm : mark G o i (cm.drop f) q with
    | false => rfl
    | true =>
      rcases hmk q hm with hk | rfl | rfl | hk
      · rw [hk] at e; exact e
      · omega
      · omega
      · have := (hcs q hk).2.2.2.1; omega
  · intro q hq
    exact h1.cmn q (List.mem_of_mem_take hq)
  · intro q hq
    have a := hfin.2.2 q hq f (by simp)
    simp; omega
  · intro j m hj hl hm
    have hm' : m < f ∧ m < cm.length := by simp at hm; omega
    have := h.ord j m (by rw [getD_app_l _ _ _ _ (by omega)]; exact hj) (by simp; omega) hm'.2
    rw [getD_app_l _ _ _ _ hl] at this
    simp at this ⊢
    rw [List.getElem?_take, if_pos hm'.1]
    exact this

end Go.Proofs.Qxb6001342a
