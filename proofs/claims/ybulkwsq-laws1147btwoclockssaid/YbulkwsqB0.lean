/-
  Seat b1147a: the plain law: nodes, what a node reads back as. No program text here.
-/
namespace Go.Proofs.Ybulkwsq.Plain

/-- An entry of a clock: the host, its number. -/
abbrev Ent := Int × Int

/-- A node: two halves, or from, to; the clock's number, -1 for an inner node. -/
structure TNode where
  l : Int
  r : Int
  c : Int

/-- TNode n is a leaf that holds the entries E. -/
def Leaf (cs : List (List Ent)) (n : TNode) (E : List Ent) : Prop :=
  0 ≤ n.c ∧ ∃ cl, cs[n.c.toNat]? = some cl ∧ 0 ≤ n.l ∧ n.l ≤ n.r ∧ n.r ≤ cl.length ∧ E = (cl.take n.r.toNat).drop n.l.toNat

/-- Every node but node 0 is a leaf over a clock that is there, or an inner node whose halves come before it. -/
def GoodN (cs : List (List Ent)) (N : List TNode) : Prop :=
  ∀ (i : Nat) (n : TNode), N[i]? = some n → 1 ≤ i → (∃ E, Leaf cs n E) ∨ (n.c = -1 ∧ 0 ≤ n.l ∧ n.l < i ∧ 0 ≤ n.r ∧ n.r < i)

/-- TNode id reads back, over the leaves lo up to hi, as the entries E; d bounds the depth. -/
def Rd (cs : List (List Ent)) (N : List TNode) : Nat → Int → Nat → Nat → List Ent → Prop
  | 0, id, _, _, E => id = 0 ∧ E = []
  | d + 1, id, lo, hi, E => (id = 0 ∧ E = []) ∨ ∃ n, 0 < id ∧ N[id.toNat]? = some n ∧
      ((Leaf cs n E ∧ hi = lo + 1 ∧ ∀ e ∈ E, (lo : Int) * 16 ≤ e.1 ∧ e.1 < (hi : Int) * 16) ∨
       (n.c = -1 ∧ lo + 2 ≤ hi ∧ 0 ≤ n.l ∧ n.l < id ∧ 0 ≤ n.r ∧ n.r < id ∧ ∃ E1 E2, E = E1 ++ E2 ∧ Rd cs N d n.l lo ((lo + hi) / 2) E1 ∧ Rd cs N d n.r ((lo + hi) / 2) hi E2))

theorem Rd.zero (cs : List (List Ent)) (N : List TNode) (d lo hi : Nat) : Rd cs N d 0 lo hi [] := by
  cases d with
  | zero => exact ⟨rfl, rfl⟩
  | succ d => exact .inl ⟨rfl, rfl⟩

theorem get_app {α : Type} {N X : List α} {i : Nat} {n : α} (h : N[i]? = some n) : (N ++ X)[i]? = some n := by
  rw [List.getElem?_append_left (List.getElem?_eq_some_iff.1 h).1]; exact h

theorem Leaf.app {cs X : List (List Ent)} {n : TNode} {E : List Ent} (h : Leaf cs n E) : Leaf (cs ++ X) n E := by
  obtain ⟨h0, cl, h1, h2⟩ := h
  exact ⟨h0, cl, get_app h1, h2⟩

theorem Rd.app {cs X : List (List Ent)} {N Y : List TNode} : ∀ {d : Nat} {id : Int} {lo hi : Nat} {E : List Ent}, Rd cs N d id lo hi E → Rd (cs ++ X) (N ++ Y) d id lo hi E
  | 0, _, _, _, _, h => h
  | d + 1, id, lo, hi, E, h => by
    rcases h with h | ⟨n, h0, h1, h2 | ⟨h3, h4, h5, h6, h7, h8, E1, E2, h9, ha, hb⟩⟩
    · exact .inl h
    · exact .inr ⟨n, h0, get_app h1, .inl ⟨h2.1.app, h2.2⟩⟩
    · exact .inr ⟨n, h0, get_app h1, .inr ⟨h3, h4, h5, h6, h7, h8, E1, E2, h9, ha.app, hb.app⟩⟩

theorem Rd.more {cs : List (List Ent)} {N : List TNode} : ∀ {d : Nat} {id : Int} {lo hi : Nat} {E : List Ent}, Rd cs N d id lo hi E → Rd cs N (d + 1) id lo hi E
  | 0, _, _, _, _, h => .inl h
  | d + 1, id, lo, hi, E, h => by
    rcases h with h | ⟨n, h0, h1, h2 | ⟨h3, h4, h5, h6, h7, h8, E1, E2, h9, ha, hb⟩⟩
    · exact .inl h
    · exact .inr ⟨n, h0, h1, .inl h2⟩
    · exact .inr ⟨n, h0, h1, .inr ⟨h3, h4, h5, h6, h7, h8, E1, E2, h9, ha.more, hb.more⟩⟩

theorem GoodN.app {cs X : List (List Ent)} {N : List TNode} (h : GoodN cs N) : GoodN (cs ++ X) N := fun i n hi h1 => by
  rcases h i n hi h1 with ⟨E, hE⟩ | h2
  · exact .inl ⟨E, hE.app⟩
  · exact .inr h2

theorem GoodN.snoc {cs : List (List Ent)} {N : List TNode} {n : TNode} (h : GoodN cs N)
    (hn : (∃ E, Leaf cs n E) ∨ (n.c = -1 ∧ 0 ≤ n.l ∧ n.l < N.length ∧ 0 ≤ n.r ∧ n.r < N.length)) : GoodN cs (N ++ [n]) := fun i m hi h1 => by
  by_cases hlt : i < N.length
  · rw [List.getElem?_append_left hlt] at hi
    exact h i m hi h1
  · have hl := (List.getElem?_eq_some_iff.1 hi).1
    simp at hl
    have e : i = N.length := by omega
    subst e
    simp at hi
    subst hi
    exact hn

/-- What 'intern' answers of node n: it found an equal one, or laid it. -/
def Interned (cs : List (List Ent)) (N : List TNode) (n : TNode) (id : Nat) (N' : List TNode) : Prop :=
  (N' = N ∧ 1 ≤ id ∧ id < N.length ∧ ∃ m, N[id]? = some m ∧ ((n.c < 0 ∧ m = n) ∨ ∃ E, Leaf cs n E ∧ Leaf cs m E)) ∨ (N' = N ++ [n] ∧ id = N.length)

theorem Leaf.unique {cs : List (List Ent)} {n : TNode} {E E' : List Ent} (h : Leaf cs n E) (h' : Leaf cs n E') : E = E' := by
  obtain ⟨_, cl, h1, _, _, _, h2⟩ := h
  obtain ⟨_, cl', h1', _, _, _, h2'⟩ := h'
  rw [h1] at h1'
  cases h1'
  rw [h2, h2']

theorem Interned.lt {cs : List (List Ent)} {N N' : List TNode} {n : TNode} {id : Nat} (h : Interned cs N n id N') (h1 : 1 ≤ N.length) : 1 ≤ id ∧ id < N'.length ∧ ∃ X, N' = N ++ X ∧ N'.length ≤ N.length + 1 := by
  rcases h with ⟨rfl, h2, h3, _⟩ | ⟨rfl, rfl⟩
  · exact ⟨h2, h3, [], by simp, by omega⟩
  · exact ⟨h1, by simp, [n], rfl, by simp⟩

/-- A leaf, interned, reads back. -/
theorem Interned.leaf {cs : List (List Ent)} {N N' : List TNode} {n : TNode} {id : Nat} {E : List Ent} (h : Interned cs N n id N') (h1 : 1 ≤ N.length) (hE : Leaf cs n E) (d lo : Nat)
    (hb : ∀ e ∈ E, (lo : Int) * 16 ≤ e.1 ∧ e.1 < ((lo + 1 : Nat) : Int) * 16) : Rd cs N' (d + 1) (id : Int) lo (lo + 1) E := by
  rcases h with ⟨rfl, h2, h3, m, hm, h4⟩ | ⟨rfl, rfl⟩
  · rcases h4 with ⟨h5, _⟩ | ⟨E', h5, h6⟩
    · have := hE.1; omega
    · have e := h5.unique hE
      subst e
      exact .inr ⟨m, by omega, by simpa using hm, .inl ⟨h6, rfl, hb⟩⟩
  · exact .inr ⟨n, by omega, by simp, .inl ⟨hE, rfl, hb⟩⟩

/-- An inner node, interned, reads back as its halves do. -/
theorem Interned.inner {cs : List (List Ent)} {N N' : List TNode} {n : TNode} {id : Nat} {E1 E2 : List Ent} (h : Interned cs N n id N') (hg : GoodN cs N) (h1 : 1 ≤ N.length) (hc : n.c = -1) {d lo hi : Nat} (hw : lo + 2 ≤ hi)
    (b1 : 0 ≤ n.l) (b2 : n.l < N.length) (b3 : 0 ≤ n.r) (b4 : n.r < N.length) (r1 : Rd cs N d n.l lo ((lo + hi) / 2) E1) (r2 : Rd cs N d n.r ((lo + hi) / 2) hi E2) : Rd cs N' (d + 1) (id : Int) lo hi (E1 ++ E2) := by
  rcases h with ⟨rfl, h2, h3, m, hm, h4⟩ | ⟨rfl, rfl⟩
  · rcases h4 with ⟨_, rfl⟩ | ⟨E', h5, _⟩
    · rcases hg id m hm h2 with ⟨E', h5⟩ | ⟨_, c1, c2, c3, c4⟩
      · have := h5.1; omega
      · exact .inr ⟨m, by omega, by simpa using hm, .inr ⟨hc, hw, c1, c2, c3, c4, E1, E2, rfl, r1, r2⟩⟩
    · have := h5.1; omega
  · have q1 := Rd.app (X := []) (Y := [n]) r1
    have q2 := Rd.app (X := []) (Y := [n]) r2
    rw [List.append_nil] at q1 q2
    exact .inr ⟨n, by omega, by simp, .inr ⟨hc, hw, b1, b2, b3, b4, E1, E2, rfl, q1, q2⟩⟩

theorem Interned.good {cs : List (List Ent)} {N N' : List TNode} {n : TNode} {id : Nat} (h : Interned cs N n id N') (hg : GoodN cs N)
    (hn : (∃ E, Leaf cs n E) ∨ (n.c = -1 ∧ 0 ≤ n.l ∧ n.l < N.length ∧ 0 ≤ n.r ∧ n.r < N.length)) : GoodN cs N' := by
  rcases h with ⟨rfl, _⟩ | ⟨rfl, _⟩
  · exact hg
  · exact hg.snoc hn
end Go.Proofs.Ybulkwsq.Plain
