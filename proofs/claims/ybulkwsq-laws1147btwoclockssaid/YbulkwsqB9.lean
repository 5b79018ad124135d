/-
  Seat b1147a: 'part'.
-/
import Derived.Test.YbulkwsqB8
namespace Go.Proofs.Ybulkwsq
open Go.RowKit Plain

/-- The entries from 'f' to 't' of a clock. -/
def seg (cl : List Ent) (f t : Nat) : List Ent := (cl.take t).drop f

theorem length_seg {cl : List Ent} {f t : Nat} (ht : t ≤ cl.length) : (seg cl f t).length = t - f := by simp [seg]; omega

theorem seg_getD {cl : List Ent} {f t j : Nat} (hj : f + j < t) : (seg cl f t).getD j (0, 0) = cl.getD (f + j) (0, 0) := by
  simp [seg, List.getD, hj]

theorem seg_mem {cl : List Ent} {f t : Nat} {e : Ent} (h : e ∈ seg cl f t) (ht : t ≤ cl.length) : ∃ j, f ≤ j ∧ j < t ∧ e = cl.getD j (0, 0) := by
  obtain ⟨j, hj, rfl⟩ := List.mem_iff_getElem.1 h
  have hl := length_seg (f := f) ht
  refine ⟨f + j, by omega, by omega, ?_⟩
  rw [← seg_getD (t := t) (by omega)]
  simp [List.getD, hj]

theorem mem_seg {cl : List Ent} {f t j : Nat} (h1 : f ≤ j) (h2 : j < t) (ht : t ≤ cl.length) : cl.getD j (0, 0) ∈ seg cl f t := by
  have hl := length_seg (f := f) ht
  have e := seg_getD (cl := cl) (f := f) (t := t) (j := j - f) (by omega)
  rw [show f + (j - f) = j by omega] at e
  rw [← e]
  exact getD_mem (by omega)

theorem seg_split {cl : List Ent} {f t : Nat} (i : Nat) (hi : f + i ≤ t) : seg cl f t = seg cl f (f + i) ++ seg cl (f + i) t := by
  simp only [seg]
  rw [← List.take_append_drop i ((cl.take t).drop f), List.drop_drop]
  congr 1
  rw [List.drop_take, List.drop_take, List.take_take]
  congr 1
  omega

/-- What 'part' leaves. -/
def PartRet (w : World) (B tb mb : Nat) (Kept : Nat → Obj → Prop) (cv : Value) (lv seed : Int) (cs : List (List Ent)) (N : List TNode) (d lo hi : Nat) (E : List Ent) (e : Ending) (w' : World) : Prop :=
  ∃ (id : Nat) (N' : List TNode), e = .returned (.int .i32 id) ∧ Rd cs N' d id lo hi E ∧ (id = 0 ↔ E = []) ∧ id < N'.length ∧ (∃ X, N' = N ++ X) ∧ N'.length + 1 ≤ N.length + 2 * (hi - lo) ∧ GoodN cs N' ∧ Tree w' B tb mb Kept cv lv seed N' ∧ Below B w w'

section
variable {B tb mb : Nat} {Kept : Nat → Obj → Prop} {cv : Value} {lv seed : Int} {cs : List (List Ent)}

/-- No entry: node 0. -/
theorem part_none (w : World) {N : List TNode} (hT : Tree w B tb mb Kept cv lv seed N) (hC : ClocksOk Kept cs cv) (hG : GoodN cs N) (hN : 1 ≤ N.length) (c f lo hi d : Nat) (cl : List Ent) (hcc : cs[c]? = some cl) (hf : f ≤ cl.length) (hlh : lo < hi) :
    Calls Yba.prog 9 #[.pointer (some ⟨tb, 0, none⟩), .int .i32 c, .int .i64 f, .int .i64 f, .int .i64 lo, .int .i64 hi] w (PartRet w B tb mb Kept cv lv seed cs N d lo hi []) := by
  obtain ⟨g, cap, ht, _⟩ := hT.nodes
  obtain ⟨q, qc, cur, rfl, hq, hcs, hcl⟩ := hC
  obtain ⟨hlen, _, _, ao, cp, hcur, hat⟩ := hcl c cl hcc
  have hclt : c < cs.length := (List.getElem?_eq_some_iff.1 hcc).1
  have hqh := (hT.kept _ _ hq).1
  have t1 : w.cell? ⟨tb, 1, none⟩ = some (.slice (some ⟨q, 0, none⟩) cs.length qc) := by rw [cells_at ht]; rfl
  have q1 : w.cell? ⟨q, c, none⟩ = some (.slice ao cl.length cp) := by rw [cells_at hqh]; exact hcur
  have hcp := hat.1
  clear hcl hq hqh ht hat hcur hcc
  by_cases hcl : cp = f
  · subst hcl
    go_enter Yba.func9, Yba.ntmps9
    go_wp2
    go_ret
    exact ⟨0, N, rfl, Rd.zero _ _ _ _ _, by simp, hN, ⟨[], by simp⟩, by omega, hG, hT, Below.refl _ _⟩
  · go_enter Yba.func9, Yba.ntmps9
    go_wp2
    go_ret
    exact ⟨0, N, rfl, Rd.zero _ _ _ _ _, by simp, hN, ⟨[], by simp⟩, by omega, hG, hT, Below.refl _ _⟩

/-- The facts of a clock's part that is not empty. -/
theorem part_facts {w : World} {N : List TNode} (hT : Tree w B tb mb Kept cv lv seed N) (hC : ClocksOk Kept cs cv) {c f t : Nat} {cl : List Ent} (hcc : cs[c]? = some cl) (hft : f < t) (ht : t ≤ cl.length) :
    ∃ q qc ga cp, cv = .slice (some ⟨q, 0, none⟩) cs.length qc ∧ c < cs.length ∧ cs.length ≤ 2 ∧ w.cell? ⟨tb, 1, none⟩ = some (.slice (some ⟨q, 0, none⟩) cs.length qc) ∧ w.cell? ⟨tb, 3, none⟩ = some (.int .u64 seed) ∧ w.cell? ⟨q, c, none⟩ = some (.slice (some ⟨ga, 0, none⟩) cl.length cp) ∧
      cl.length ≤ cp ∧ cl.length ≤ 1024 ∧ ga < w.heap.size ∧ EntsAt w ga (f * 2) (seg cl f t) ∧ (∀ e ∈ cl, 0 ≤ e.1 ∧ e.1 ≤ 1000 ∧ 0 ≤ e.2 ∧ e.2 ≤ 18446744073709551615) ∧ (∀ i j, i < j → j < cl.length → (cl.getD i (0, 0)).1 < (cl.getD j (0, 0)).1) := by
  obtain ⟨g, cap, htt, _⟩ := hT.nodes
  obtain ⟨q, qc, cur, rfl, hq, hcs, hcl⟩ := hC
  obtain ⟨hlen, hb, hs, ao, cp, hcur, hat⟩ := hcl c cl hcc
  have hclt : c < cs.length := (List.getElem?_eq_some_iff.1 hcc).1
  have hqh := (hT.kept _ _ hq).1
  obtain ⟨hcp, hat⟩ := hat
  rcases hat with ⟨rfl, _, _⟩ | ⟨ga, ca, rfl, hk, hcell⟩
  · simp at ht; omega
  · have hh := (hT.kept _ _ hk).1
    refine ⟨q, qc, ga, cp, rfl, hclt, hcs, by rw [cells_at htt]; rfl, by rw [cells_at htt]; rfl, by rw [cells_at hqh]; exact hcur, hcp, hlen, heap_lt hh, ?_, hb, hs⟩
    intro j hj
    rw [length_seg ht] at hj
    obtain ⟨c1, c2⟩ := hcell (f + j) (by omega)
    rw [seg_getD (by omega), cells_at hh, cells_at hh, ← c1, ← c2]
    exact ⟨by congr 1; omega, by congr 1; omega⟩

set_option maxRecDepth 100000 in
set_option maxHeartbeats 2000000 in
/-- One leaf. -/
theorem part_leaf (w : World) {N : List TNode} (hT : Tree w B tb mb Kept cv lv seed N) (hC : ClocksOk Kept cs cv) (hG : GoodN cs N) (hN : 1 ≤ N.length) (hN2 : N.length ≤ 4000) (hs0 : 0 ≤ seed) (hs1 : seed ≤ 18446744073709551615)
    (c f t lo d : Nat) (cl : List Ent) (hcc : cs[c]? = some cl) (hft : f < t) (ht : t ≤ cl.length) (_hlo : lo ≤ 100) (hb : ∀ e ∈ seg cl f t, (lo : Int) * 16 ≤ e.1 ∧ e.1 < ((lo + 1 : Nat) : Int) * 16) :
    Calls Yba.prog 9 #[.pointer (some ⟨tb, 0, none⟩), .int .i32 c, .int .i64 f, .int .i64 t, .int .i64 lo, .int .i64 ((lo + 1 : Nat) : Int)] w (PartRet w B tb mb Kept cv lv seed cs N (d + 1) lo (lo + 1) (seg cl f t)) := by
  obtain ⟨q, qc, ga, cp, rfl, hclt, hcs, t1, t3, q1, hcp, hlen, hga, hE, hbd, _⟩ := part_facts hT hC hcc hft ht
  have hlf : Leaf cs ⟨(f : Int), (t : Int), (c : Int)⟩ (seg cl f t) := ⟨by simp, cl, by simpa using hcc, by simp, by simp; omega, by simp; omega, by simp [seg]⟩
  have hne : ¬ cp = f := by omega
  have hseg : (seg cl f t).length = t - f := length_seg ht
  have HB : Hid (∀ e ∈ seg cl f t, (lo : Int) * 16 ≤ e.1 ∧ e.1 < ((lo + 1 : Nat) : Int) * 16) := hb
  have HBD : Hid (∀ e ∈ cl, 0 ≤ e.1 ∧ e.1 ≤ 1000 ∧ 0 ≤ e.2 ∧ e.2 ≤ 18446744073709551615) := hbd
  have HSEG : Hid ((seg cl f t).length = t - f) := hseg
  clear hb hbd hcc hseg
  go_enter Yba.func9, Yba.ntmps9
  go_wp2
  go_loopw [14, 47] (fun sh si wr => ∃ (k : Nat) (hv : Int), k ≤ t - f ∧ si = .int .i64 k ∧ sh = .int .u64 hv ∧ 0 ≤ hv ∧ hv ≤ 18446744073709551615 ∧ Below w.heap.size w wr) (fun _ si _ => (t - f) - (intOf si).toNat)
  case atStart => exact ⟨0, seed, Nat.zero_le _, rfl, rfl, hs0, hs1, Below.refl _ _⟩
  case round =>
    obtain ⟨k, hv, hk, rfl, rfl, hv0, hv1, hnx⟩ := hrel
    have hsz := hnx.size
    by_cases hlt : k < t - f
    · obtain ⟨c1, c2⟩ := (hE.below hnx hga) k (by rw [HSEG.out]; exact hlt)
      have hmem : (seg cl f t).getD k (0, 0) ∈ cl := by rw [seg_getD (by omega)]; exact getD_mem (by omega)
      obtain ⟨p1, p2, p3, p4⟩ := HBD.out _ hmem
      have ex : ∃ p : Ent, p = (seg cl f t).getD k (0, 0) := ⟨_, rfl⟩
      obtain ⟨⟨hh, nn⟩, hp⟩ := ex
      rw [← hp] at c1 c2 p1 p2 p3 p4
      simp only at c1 c2 p1 p2 p3 p4
      clear hmem hp
      obtain ⟨r1, ⟨b1, b2⟩, H1⟩ := hash_any hv hh hv0 hv1 p1 (by omega)
      obtain ⟨r2, ⟨b3, b4⟩, H2⟩ := hash_any r1 nn b1 b2 p3 p4
      have G1 : Hid (∀ w, Calls Yba.prog 15 #[.int .u64 hv, .int .u64 hh] w fun e w' => e = .returned (.int .u64 r1) ∧ w' = w) := H1
      have G2 : Hid (∀ w, Calls Yba.prog 15 #[.int .u64 r1, .int .u64 nn] w fun e w' => e = .returned (.int .u64 r2) ∧ w' = w) := H2
      clear H1 H2 hE hT hC hG hlf
      go_wp2
      go_quiet (first | (go_at_call_of 15 (Value.int IntKind.u64 hh); exact Calls.quiet_of_same (G1.out _)) | (go_at_call_of 15 (Value.int IntKind.u64 nn); exact Calls.quiet_of_same (G2.out _)))
      go_wp2
      go_roundw
      case rel => exact ⟨k + 1, r2, by omega, by go_num, rfl, b3, b4, below_drewN (hnx.alloc hsz _) _⟩
      case measure => simp [intOf]; omega
    · clear hE
      go_wp2_with fail
      refine (intern_any wr (hT.below hnx) hC hG hN hN2 hv ⟨f, t, c⟩ (.inr ⟨_, hlf⟩)).mono ?_
      rintro e w1 ⟨id, N', rfl, hI, hT', hb'⟩
      have hBw : B ≤ w.heap.size := by obtain ⟨g, cap, h1, _⟩ := hT.nodes; have := heap_lt h1; have := hT.bt; omega
      have hEne : seg cl f t ≠ [] := fun e => by have := HSEG.out; rw [e] at this; simp at this; omega
      have hfin : PartRet w B tb mb Kept (.slice (some ⟨q, 0, none⟩) cs.length qc) lv seed cs N (d + 1) lo (lo + 1) (seg cl f t) (.returned (.int .i32 id)) w1 := by
        obtain ⟨j1, j2, X, j3, j4⟩ := hI.lt hN
        exact ⟨id, N', rfl, hI.leaf hN hlf d lo HB.out, ⟨fun h => by omega, fun h => absurd h hEne⟩, j2, ⟨X, j3⟩, by omega, hI.good hG (.inl ⟨_, hlf⟩), hT', (hnx.mono hBw).trans hb'⟩
      have FIN : Hid (PartRet w B tb mb Kept (.slice (some ⟨q, 0, none⟩) cs.length qc) lv seed cs N (d + 1) lo (lo + 1) (seg cl f t) (.returned (.int .i32 id)) w1) := hfin
      clear hfin hT' hI hb' hlf hT hC hG
      go_wp2
      go_ret
      exact FIN.out
end
end Go.Proofs.Ybulkwsq
