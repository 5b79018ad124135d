/-
  Seat b1147a: the trees in memory; 'entries'.
-/
import Derived.Test.YbulkwsqB3
namespace Go.Proofs.Ybulkwsq
open Go.RowKit Plain

theorem heap_lt {w : World} {b : Nat} {o : Obj} (h : w.heap[b]? = some o) : b < w.heap.size := (Array.getElem?_eq_some_iff.1 h).1
theorem cells_at {w : World} {b e : Nat} {c : Array Value} (h : w.heap[b]? = some (.cells c e (0, 0))) (j : Nat) : w.cell? ⟨b, j, none⟩ = c[j]? := by
  simp [World.cell?, h]
theorem frozen_at {w : World} {b e : Nat} {c : Array Value} (h : w.heap[b]? = some (.cells c e (0, 0))) (j : Nat) : w.frozen? ⟨b, j, none⟩ = false := by
  simp [World.frozen?, h]

/-- The cells of the nodes. -/
def nodeCells (n : TNode) : List Value := [.int .i32 n.l, .int .i32 n.r, .int .i32 n.c]
def nodesCells (N : List TNode) : List Value := N.flatMap nodeCells

theorem length_nodesCells (N : List TNode) : (nodesCells N).length = N.length * 3 := by
  induction N with
  | nil => rfl
  | cons n N ih => simp only [nodesCells, List.flatMap_cons, List.length_append, List.length_cons] at *; rw [ih]; simp [nodeCells]; omega

theorem nodesCells_get {N : List TNode} {i : Nat} {n : TNode} (h : N[i]? = some n) :
    (nodesCells N)[i * 3]? = some (.int .i32 n.l) ∧ (nodesCells N)[i * 3 + 1]? = some (.int .i32 n.r) ∧ (nodesCells N)[i * 3 + 2]? = some (.int .i32 n.c) := by
  induction N generalizing i with
  | nil => simp at h
  | cons m N ih =>
    cases i with
    | zero =>
      simp at h
      subst h
      simp [nodesCells, nodeCells]
    | succ i =>
      have h' : N[i]? = some n := by simpa using h
      obtain ⟨h1, h2, h3⟩ := ih h'
      have e : ∀ k, (nodesCells (m :: N))[(i + 1) * 3 + k]? = (nodesCells N)[i * 3 + k]? := fun k => by
        simp only [nodesCells, List.flatMap_cons]
        rw [List.getElem?_append_right (by simp [nodeCells]; omega)]
        congr 1
        simp [nodeCells]; omega
      exact ⟨(e 0).trans h1, (e 1).trans h2, (e 2).trans h3⟩

/-- The trees lie at block tb, their index at block mb; the nodes are N; the kept blocks are as they are. -/
structure Tree (w : World) (B tb mb : Nat) (Kept : Nat → Obj → Prop) (cv : Value) (lv seed : Int) (N : List TNode) : Prop where
  nodes : ∃ g cap, w.heap[tb]? = some (.cells #[.slice (some ⟨g, 0, none⟩) N.length cap, cv, .int .i64 lv, .int .u64 seed, .map (some mb)] 35 (0, 0)) ∧
    w.ownsRow B 45 3 (.slice (some ⟨g, 0, none⟩) N.length cap) N.length (nodesCells N) ∧ g ≠ tb ∧ g ≠ mb ∧ ∀ k o, Kept k o → g ≠ k
  map : ∃ es clock, w.heap[mb]? = some (.map es clock) ∧ MapOk es N.length
  kept : ∀ k o, Kept k o → w.heap[k]? = some o ∧ k ≠ tb ∧ k ≠ mb
  tm : tb ≠ mb
  bt : B ≤ tb
  bm : B ≤ mb

/-- All blocks that were there are as they were: the trees are. -/
theorem Tree.below {w w' : World} {B tb mb : Nat} {Kept : Nat → Obj → Prop} {cv : Value} {lv seed : Int} {N : List TNode} (h : Tree w B tb mb Kept cv lv seed N) (hb : Below w.heap.size w w') : Tree w' B tb mb Kept cv lv seed N := by
  obtain ⟨⟨g, cap, h1, h2, h3⟩, ⟨es, clock, h4, h5⟩, h6, h7, h8, h9⟩ := h
  have hg : w.grownBy w' none := ⟨hb.os, hb.tape, hb.output, hb.size, fun k hk _ => hb.block k hk⟩
  exact ⟨⟨g, cap, (hb.block _ (heap_lt h1)).trans h1, h2.kept hg (.inr (by simp [Value.ownBlock])), h3⟩, ⟨es, clock, (hb.block _ (heap_lt h4)).trans h4, h5⟩,
    fun k o hk => ⟨(hb.block _ (heap_lt (h6 k o hk).1)).trans (h6 k o hk).1, (h6 k o hk).2⟩, h7, h8, h9⟩

/-- A clock's slice over a kept block. -/
def ClockAt (Kept : Nat → Obj → Prop) (ao : Option Addr) (cap : Nat) (cl : List Ent) : Prop :=
  cl.length ≤ cap ∧ ((cl = [] ∧ ao = none ∧ cap = 0) ∨ ∃ g c, ao = some ⟨g, 0, none⟩ ∧ Kept g (.cells c 41 (0, 0)) ∧ ∀ j, j < cl.length → c[j * 2]? = some (.int .i64 (cl.getD j (0, 0)).1) ∧ c[j * 2 + 1]? = some (.int .u64 (cl.getD j (0, 0)).2))

/-- The clocks' slice over a kept block; each clock is sorted by hosts, which are few. -/
def ClocksOk (Kept : Nat → Obj → Prop) (cs : List (List Ent)) (cv : Value) : Prop :=
  ∃ q cap cur, cv = .slice (some ⟨q, 0, none⟩) cs.length cap ∧ Kept q (.cells cur 27 (0, 0)) ∧ cs.length ≤ 2 ∧
    ∀ (i : Nat) (cl : List Ent), cs[i]? = some cl → cl.length ≤ 1024 ∧ (∀ e ∈ cl, 0 ≤ e.1 ∧ e.1 ≤ 1000 ∧ 0 ≤ e.2 ∧ e.2 ≤ 18446744073709551615) ∧ (∀ i j, i < j → j < cl.length → (cl.getD i (0, 0)).1 < (cl.getD j (0, 0)).1) ∧
      ∃ ao cp, cur[i]? = some (.slice ao cl.length cp) ∧ ClockAt Kept ao cp cl

/-- What 'x[lo:hi]' of a clock reads as. -/
theorem reads_sliced {w : World} {Kept : Nat → Obj → Prop} (hk : ∀ k o, Kept k o → w.heap[k]? = some o) {ao : Option Addr} {cp : Nat} {cl : List Ent} (h : ClockAt Kept ao cp cl) {lo hi : Nat} (h1 : lo ≤ hi) (h2 : hi ≤ cl.length) :
    Reads w (if cp = lo then ao else ao.map (·.add (lo * 2))) ((cl.take hi).drop lo) ∧ ((cl.take hi).drop lo).length = hi - lo := by
  have hlen : ((cl.take hi).drop lo).length = hi - lo := by simp; omega
  refine ⟨?_, hlen⟩
  by_cases he : lo = hi
  · left
    exact List.eq_nil_of_length_eq_zero (by rw [hlen]; omega)
  · obtain ⟨hc, h3⟩ := h
    rcases h3 with ⟨rfl, _, _⟩ | ⟨g, c, rfl, hg, hcell⟩
    · simp at h2; omega
    · right
      have hh := hk _ _ hg
      refine ⟨g, lo * 2, ?_, heap_lt hh, fun j hj => ?_⟩
      · rw [if_neg (by omega)]
        simp [Addr.add_lit]
      · rw [hlen] at hj
        have e : ((cl.take hi).drop lo).getD j (0, 0) = cl.getD (lo + j) (0, 0) := by
          simp [List.getD, show lo + j < hi by omega]
        obtain ⟨c1, c2⟩ := hcell (lo + j) (by omega)
        rw [e, cells_at hh, cells_at hh, ← c1, ← c2]
        exact ⟨by congr 1; omega, by congr 1; omega⟩
theorem cell1 {w : World} {b j : Nat} {v : Value} (h : w.cell? ⟨b, j, none⟩ = some v) (o : Obj) : (w.alloc o).cell? ⟨b, j, none⟩ = some v := by
  rw [World.cell?_of_block (w := w) (Below.heap_alloc w o b (World.block_lt_of_cell? w _ h))]; exact h

/-- A slice is handed back that reads as E. -/
def EntRet (w : World) (E : List Ent) (ao : Option Addr) (cap : Nat) (e : Ending) (w' : World) : Prop := e = .returned (.slice ao E.length cap) ∧ Reads w ao E ∧ Below w.heap.size w w'

theorem entRet_mk {w w' : World} {E : List Ent} {ao : Option Addr} {n cap : Nat} (h : Reads w ao E) (hn : E.length = n) (hb : Below w.heap.size w w') : EntRet w E ao cap (.returned (.slice ao n cap)) w' := by
  subst hn
  exact ⟨rfl, h, hb⟩

set_option maxHeartbeats 1000000 in
/-- 'entries' of a leaf: THE SAME slice in every world in which the trees lie so. -/
theorem entries_any {Kept : Nat → Obj → Prop} {cv : Value} {cs : List (List Ent)} (hC : ClocksOk Kept cs cv) (l r c : Nat) (E : List Ent) (hE : Leaf cs ⟨l, r, c⟩ E) : ∃ ao cap, ∀ (w : World) (B tb mb : Nat) (lv seed : Int) (N : List TNode), Tree w B tb mb Kept cv lv seed N →
    Calls Yba.prog 20 #[.pointer (some ⟨tb, 0, none⟩), .agg #[.int .i32 l, .int .i32 r, .int .i32 c]] w (EntRet w E ao cap) := by
  obtain ⟨q, qc, cur, rfl, hq, hcs, hcl⟩ := hC
  obtain ⟨_, cl, hcc, _, hlr, hrl, hEE⟩ := hE
  simp only [Int.toNat_natCast] at hcc hEE hlr hrl
  obtain ⟨hlen, _, _, ao, cp, hcur, hat⟩ := hcl c cl hcc
  have hclt : c < cs.length := (List.getElem?_eq_some_iff.1 hcc).1
  refine ⟨if cp = l then ao else ao.map (·.add (l * 2)), cp - l, fun w B tb mb lv seed N hT => ?_⟩
  obtain ⟨g, cap, ht, _⟩ := hT.nodes
  have hqh := (hT.kept _ _ hq).1
  have t1 := cell1 ((cells_at ht 1).trans rfl)
  have q1 := cell1 ((cells_at hqh c).trans hcur)
  have hrd := reads_sliced (fun k o hk => (hT.kept k o hk).1) hat (lo := l) (hi := r) (by omega) (by omega)
  rw [← hEE] at hrd
  have hcp := hat.1
  have RD : Hid (Reads w (if cp = l then ao else ao.map (·.add (l * 2))) E ∧ E.length = r - l) := hrd
  clear hrd hat hcur hqh ht hcc hcl hEE hq
  by_cases hcl : cp = l
  · have rd : Reads w ao E := by simpa [hcl] using RD.out.1
    have RN : Hid (E.length = r - l) := RD.out.2
    rw [if_pos hcl]
    subst hcl
    clear RD
    rw [Nat.sub_self]
    go_enter Yba.func20, Yba.ntmps20
    go_wp2
    go_quiet (fail)
    go_wp2
    go_ret
    exact entRet_mk rd RN.out (below_drewN ((Below.refl _ _).alloc (Nat.le_refl _) _) _)
  · have rd : Reads w (ao.map (·.add (l * 2))) E := by simpa [hcl] using RD.out.1
    have RN : Hid (E.length = r - l) := RD.out.2
    rw [if_neg hcl]
    clear RD
    go_enter Yba.func20, Yba.ntmps20
    go_wp2
    go_quiet (fail)
    go_wp2
    go_ret
    exact entRet_mk rd RN.out (below_drewN ((Below.refl _ _).alloc (Nat.le_refl _) _) _)
end Go.Proofs.Ybulkwsq
