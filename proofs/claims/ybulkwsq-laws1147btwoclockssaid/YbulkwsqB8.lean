/-
  Seat b1147a: 'intern', in every case.
-/
import Derived.Test.YbulkwsqB7
namespace Go.Proofs.Ybulkwsq
open Go.RowKit Plain

theorem leaf_short {Kept : Nat → Obj → Prop} {cs : List (List Ent)} {cv : Value} (hC : ClocksOk Kept cs cv) {n : TNode} {E : List Ent} (h : Leaf cs n E) : E.length ≤ 1024 := by
  obtain ⟨q, cap, cur, _, _, _, hcl⟩ := hC
  obtain ⟨_, cl, hcc, _, _, _, rfl⟩ := h
  have := (hcl _ cl hcc).1
  simp
  omega

/-- 'intern': an equal node is found, or the node is laid. -/
theorem intern_any (w : World) {B tb mb : Nat} {Kept : Nat → Obj → Prop} {cv : Value} {lv seed : Int} {N : List TNode} {cs : List (List Ent)} (hT : Tree w B tb mb Kept cv lv seed N) (hC : ClocksOk Kept cs cv) (hG : GoodN cs N)
    (hN1 : 1 ≤ N.length) (hN2 : N.length ≤ 4000) (h : Int) (n : TNode) (hn : n.c = -1 ∨ ∃ E, Leaf cs n E) :
    Calls Yba.prog 16 #[.pointer (some ⟨tb, 0, none⟩), .int .u64 h, .agg #[.int .i32 n.l, .int .i32 n.r, .int .i32 n.c]] w (InternRet w B tb mb Kept cv lv seed cs N n) := by
  obtain ⟨es, clock, hm, hok⟩ := hT.map
  obtain ⟨id, f, h1, h2, hlk⟩ := map_lookup (mb := mb) (clock := clock) hok h
  cases f with
  | false =>
    have e := h2 rfl
    subst e
    exact intern_new w hT hN1 hN2 h n es clock hm hlk
  | true =>
    obtain ⟨hid, hid2⟩ := h1 rfl
    obtain ⟨m, hmn⟩ : ∃ m, N[id]? = some m := ⟨N[id], by simp [hid2]⟩
    obtain ⟨ml, mr, mc⟩ := m
    obtain ⟨l, r, c⟩ := n
    rcases hn with hc | ⟨E, hE⟩
    · exact intern_inner w hT hN1 hN2 h l r c id hid hid2 ml mr mc hmn es clock hm hlk hc
    · by_cases hmc : mc < 0
      · exact intern_leaf_inner w hT hN1 hN2 h l r c id hid2 ml mr mc hmn es clock hm hlk hE.1 hmc
      · rcases hG id _ hmn hid with ⟨F, hF⟩ | ⟨hF, _⟩
        · obtain ⟨l, rfl⟩ : ∃ k : Nat, l = (k : Int) := ⟨l.toNat, by obtain ⟨_, _, _, e2, _⟩ := hE; simp only at e2; omega⟩
          obtain ⟨r, rfl⟩ : ∃ k : Nat, r = (k : Int) := ⟨r.toNat, by obtain ⟨_, _, _, e2, e3, _⟩ := hE; simp only at e2 e3; omega⟩
          obtain ⟨c, rfl⟩ : ∃ k : Nat, c = (k : Int) := ⟨c.toNat, by have e2 := hE.1; simp only at e2; omega⟩
          obtain ⟨ml, rfl⟩ : ∃ k : Nat, ml = (k : Int) := ⟨ml.toNat, by obtain ⟨_, _, _, e2, _⟩ := hF; simp only at e2; omega⟩
          obtain ⟨mr, rfl⟩ : ∃ k : Nat, mr = (k : Int) := ⟨mr.toNat, by obtain ⟨_, _, _, e2, e3, _⟩ := hF; simp only at e2 e3; omega⟩
          obtain ⟨mc, rfl⟩ : ∃ k : Nat, mc = (k : Int) := ⟨mc.toNat, by omega⟩
          exact intern_leaf_leaf w hT hN1 hN2 h l r c id hid hid2 ml mr mc hmn es clock hm hlk hC E F hE hF (leaf_short hC hF)
        · simp only at hF
          omega
end Go.Proofs.Ybulkwsq
