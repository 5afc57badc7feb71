/- rows of the call's own: small laws on 'ownsRow', no program in sight -/
import Derived.WalkKit
import Derived.Maps.AppendAt
import Derived.Test.Qxb6001342aPlain
namespace Go.Proofs.Qxb6001342a
open Go.RowKit

theorem own_shape {w : World} {B e size n : Nat} {v : Value} {xs : List Value} (h : w.ownsRow B e size v n xs) :
    (v = .slice none 0 0 ∧ n = 0) ∨ ∃ g cap, v = .slice (some ⟨g, 0, none⟩) n cap ∧ n ≤ cap ∧ B ≤ g ∧ g < w.heap.size ∧ cap ≤ maxLen := by
  rcases h.2 with h | ⟨g, cap, cur, hv, hb, hg, hnc, hm, _⟩
  · exact .inl h
  · exact .inr ⟨g, cap, hv, hnc, hb, (Array.getElem?_eq_some_iff.1 hg).1, hm⟩

theorem own_some {w : World} {B e size n : Nat} {v : Value} {xs : List Value} (h : w.ownsRow B e size v n xs) (hn : 0 < n) :
    ∃ g cap, v = .slice (some ⟨g, 0, none⟩) n cap ∧ n ≤ cap ∧ B ≤ g ∧ g < w.heap.size ∧ cap ≤ maxLen := by
  rcases own_shape h with h | h
  · omega
  · exact h

theorem own_cut {w : World} {B e size n m g cap : Nat} {xs : List Value} (h : w.ownsRow B e size (.slice (some ⟨g, 0, none⟩) n cap) n xs) (hm : m ≤ n) :
    w.ownsRow B e size (.slice (some ⟨g, 0, none⟩) m cap) m (xs.take (m * size)) := by
  obtain ⟨h1, h2⟩ := h
  have hms : m * size ≤ n * size := Nat.mul_le_mul_right _ hm
  rcases h2 with ⟨h0, _⟩ | ⟨g', cap', cur, hv, hg, hh, hn, hcap, hsz, htake⟩
  · cases h0
  · cases hv
    refine ⟨by simp; omega, .inr ⟨g, cap, cur, rfl, hg, hh, by omega, hcap, hsz, ?_⟩⟩
    rw [← htake, List.take_take, Nat.min_eq_left hms]

/-- two slices of the call's own lie in two blocks -/
def Apart (v u : Value) : Prop := ∀ k, v.ownBlock = some k → u.ownBlock ≠ some k

theorem Apart.symm {v u : Value} (h : Apart v u) : Apart u v := fun k hu hv => h k hv hu

theorem Apart.ne {v u : Value} (h : Apart v u) : v.ownBlock = none ∨ v.ownBlock ≠ u.ownBlock := by
  cases hv : v.ownBlock with
  | none => exact .inl rfl
  | some k => exact .inr fun e => h k hv e.symm

theorem apart_nil (u : Value) : Apart (.slice none 0 0) u := fun k h => by simp [Value.ownBlock] at h

theorem apart_type {w : World} {B e1 e2 s1 s2 n1 n2 : Nat} {v u : Value} {xs ys : List Value} (h1 : w.ownsRow B e1 s1 v n1 xs) (h2 : w.ownsRow B e2 s2 u n2 ys) (hne : e1 ≠ e2) : Apart v u := by
  intro k hv hu
  rcases h1.2 with ⟨rfl, _⟩ | ⟨g, cap, cur, rfl, _, hg, _⟩
  · simp [Value.ownBlock] at hv
  rcases h2.2 with ⟨rfl, _⟩ | ⟨g', cap', cur', rfl, _, hg', _⟩
  · simp [Value.ownBlock] at hu
  simp [Value.ownBlock] at hv hu
  subst hv
  subst hu
  rw [hg] at hg'
  simp at hg'
  exact hne hg'.2

/-- behind an append: the new slice lies in the old one's block or in a new one -/
theorem apart_at {w : World} {B e s n : Nat} {v v' u : Value} {ys : List Value} (h : Apart v u) (hu : w.ownsRow B e s u n ys) (hat : v'.ownBlock = v.ownBlock ∨ v'.ownBlock = some w.heap.size) : Apart v' u := by
  intro k hv hk
  rcases hat with e | e
  · exact h k (by rw [← e]; exact hv) hk
  · rw [e] at hv
    have := (hu.lt k hk).2
    simp at hv
    omega

def ints (l : List Nat) : List Value := l.map fun k : Nat => Value.int .i64 (k : Int)
def bools (n : Nat) (G : Nat → Bool) : List Value := (List.range n).map fun k => Value.bool (G k)

theorem ints_snoc (l : List Nat) (k : Nat) : ints l ++ [Value.int .i64 (k : Int)] = ints (l ++ [k]) := by simp [ints]
theorem ints_take (l : List Nat) (k : Nat) : (ints l).take (k * 1) = ints (l.take k) := by simp [ints]
theorem ints_at (l : List Nat) (k : Nat) (h : k < l.length) : (ints l)[k]? = some (.int .i64 ((l.getD k 0 : Nat) : Int)) := by
  simp [ints, List.getElem?_eq_getElem h]
theorem bools_at (n : Nat) (G : Nat → Bool) (k : Nat) (h : k < n) : (bools n G)[k]? = some (.bool (G k)) := by
  simp [bools, h]
theorem bools_set (n : Nat) (G : Nat → Bool) (k : Nat) : (bools n G).set k (.bool true) = bools n (fun j => G j || j == k) := by
  apply List.ext_getElem?
  intro j
  rw [List.getElem?_set]
  by_cases hj : j < n
  · rw [bools_at n _ j hj]
    by_cases hk : k = j
    · subst hk; simp [bools, hj]
    · rw [if_neg hk, bools_at n _ j hj]
      have : (j == k) = false := by simp; omega
      simp [this]
  · simp [bools, hj]; omega

/-- what braceGroups holds in memory at the head of a round -/
structure Mem (w : World) (B gb n : Nat) (vo vf vc : Value) (op fc cm : List Nat) (G : Nat → Bool) : Prop where
  o : w.ownsRow B 3 1 vo op.length (ints op)
  f : w.ownsRow B 3 1 vf fc.length (ints fc)
  c : w.ownsRow B 3 1 vc cm.length (ints cm)
  g : w.ownsRow B 4 1 (.slice (some ⟨gb, 0, none⟩) n n) n (bools n G)
  of : Apart vo vf
  oc : Apart vo vc
  fc : Apart vf vc

theorem Mem.alloc {w : World} {B gb n : Nat} {vo vf vc : Value} {op fc cm : List Nat} {G : Nat → Bool} (h : Mem w B gb n vo vf vc op fc cm G) (x : Obj) : Mem (w.alloc x) B gb n vo vf vc op fc cm G :=
  ⟨h.o.alloc x, h.f.alloc x, h.c.alloc x, h.g.alloc x, h.of, h.oc, h.fc⟩

theorem Mem.pushO {w w' : World} {B gb n k : Nat} {vo vf vc vo' : Value} {op fc cm : List Nat} {G : Nat → Bool} (h : Mem w B gb n vo vf vc op fc cm G)
    (ho : w'.ownsRow B 3 1 vo' (op.length + 1) (ints op ++ [.int .i64 (k : Int)])) (hg : w.grownBy w' vo.ownBlock) (hat : vo'.ownBlock = vo.ownBlock ∨ vo'.ownBlock = some w.heap.size) :
    Mem w' B gb n vo' vf vc (op ++ [k]) fc cm G :=
  ⟨by rw [ints_snoc] at ho; simpa using ho, h.f.kept hg h.of.symm.ne, h.c.kept hg h.oc.symm.ne, h.g.kept hg (apart_type h.g h.o (by decide)).ne, apart_at h.of h.f hat, apart_at h.oc h.c hat, h.fc⟩

theorem Mem.pushF {w w' : World} {B gb n k : Nat} {vo vf vc vf' : Value} {op fc cm : List Nat} {G : Nat → Bool} (h : Mem w B gb n vo vf vc op fc cm G)
    (ho : w'.ownsRow B 3 1 vf' (fc.length + 1) (ints fc ++ [.int .i64 (k : Int)])) (hg : w.grownBy w' vf.ownBlock) (hat : vf'.ownBlock = vf.ownBlock ∨ vf'.ownBlock = some w.heap.size) :
    Mem w' B gb n vo vf' vc op (fc ++ [k]) cm G :=
  ⟨h.o.kept hg h.of.ne, by rw [ints_snoc] at ho; simpa using ho, h.c.kept hg h.fc.symm.ne, h.g.kept hg (apart_type h.g h.f (by decide)).ne, (apart_at h.of.symm h.o hat).symm, h.oc, apart_at h.fc h.c hat⟩

theorem Mem.pushC {w w' : World} {B gb n k : Nat} {vo vf vc vc' : Value} {op fc cm : List Nat} {G : Nat → Bool} (h : Mem w B gb n vo vf vc op fc cm G)
    (ho : w'.ownsRow B 3 1 vc' (cm.length + 1) (ints cm ++ [.int .i64 (k : Int)])) (hg : w.grownBy w' vc.ownBlock) (hat : vc'.ownBlock = vc.ownBlock ∨ vc'.ownBlock = some w.heap.size) :
    Mem w' B gb n vo vf vc' op fc (cm ++ [k]) G :=
  ⟨h.o.kept hg h.oc.ne, h.f.kept hg h.fc.ne, by rw [ints_snoc] at ho; simpa using ho, h.g.kept hg (apart_type h.g h.c (by decide)).ne, h.of, (apart_at h.oc.symm h.o hat).symm, (apart_at h.fc.symm h.f hat).symm⟩

theorem Mem.mark {w : World} {B gb n : Nat} {vo vf vc : Value} {op fc cm : List Nat} {G : Nat → Bool} (h : Mem w B gb n vo vf vc op fc cm G) (k : Nat) :
    Mem (w.setCell ⟨gb, k, none⟩ (.bool true)) B gb n vo vf vc op fc cm (fun j => G j || j == k) := by
  obtain ⟨hs, hg⟩ := h.g.stored k (.bool true)
  rw [bools_set] at hs
  have e : (Value.slice (some ⟨gb, 0, none⟩) n n).ownBlock = some gb := rfl
  exact ⟨h.o.kept hg (by rw [← e]; exact (apart_type h.o h.g (by decide)).ne), h.f.kept hg (by rw [← e]; exact (apart_type h.f h.g (by decide)).ne), h.c.kept hg (by rw [← e]; exact (apart_type h.c h.g (by decide)).ne), hs, h.of, h.oc, h.fc⟩

theorem Mem.pop {w : World} {B gb n go co gf cf f no nf : Nat} {vc vc' : Value} {op fc cm : List Nat} {o : Nat} {G : Nat → Bool} (h : Mem w B gb n (.slice (some ⟨go, 0, none⟩) no co) (.slice (some ⟨gf, 0, none⟩) nf cf) vc (op ++ [o]) (fc ++ [f]) cm G)
    (ho : no = op.length + 1) (hf : nf = fc.length + 1)
    (hv : w.ownsRow B 3 1 vc' (cm.take f).length (ints (cm.take f))) (hb : vc'.ownBlock = vc.ownBlock) :
    Mem w B gb n (.slice (some ⟨go, 0, none⟩) op.length co) (.slice (some ⟨gf, 0, none⟩) fc.length cf) vc' op fc (cm.take f) G := by
  subst ho
  subst hf
  have h1 := h.o
  have h2 := h.f
  simp only [List.length_append, List.length_cons, List.length_nil] at h1 h2
  refine ⟨?_, ?_, hv, h.g, h.of, fun k a b => h.oc k a (by rw [← hb]; exact b), fun k a b => h.fc k a (by rw [← hb]; exact b)⟩
  · have := own_cut h1 (m := op.length) (by omega)
    rw [ints_take] at this
    simpa using this
  · have := own_cut h2 (m := fc.length) (by omega)
    rw [ints_take] at this
    simpa using this

theorem own_cell {w : World} {B e g n cap k : Nat} {l : List Nat} (h : w.ownsRow B e 1 (.slice (some ⟨g, 0, none⟩) n cap) l.length (ints l)) (hn : n = l.length) (hk : k < l.length) : w.cell? ⟨g, k, none⟩ = some (.int .i64 ((l.getD k 0 : Nat) : Int)) := by
  subst hn
  rw [h.cellAt k (by omega), ints_at l k hk]

end Go.Proofs.Qxb6001342a
