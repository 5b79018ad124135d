/-
  Seat b1151a: options in memory; 'zzs1151cbuild'.
-/
import Derived.Test.YbulkwuuM1
import Derived.Test.YbulkwuuM2
import Derived.Maps.AppendAt
import Derived.Laws.MakeOwn
import Derived.Below
namespace Go.Proofs.Ybulkwuu
open Go.RowKit Plain

theorem Yba.info37 : (Yba.prog.info? 37).map (fun i => (i.zero, i.size, i.bytes)) = some (some (.agg #[.string ⟨#[]⟩, .string ⟨#[]⟩, .int .u8 0, .bool false, .string ⟨#[]⟩, .string ⟨#[]⟩, .string ⟨#[]⟩]), 7, 88) := by kernel_rfl

def optsCells (L : List Opt) : List Value := L.flatMap fun o => (optVals o).toList

theorem length_optsCells (L : List Opt) : (optsCells L).length = L.length * 7 := by
  induction L with
  | nil => rfl
  | cons n L ih => simp only [optsCells, List.flatMap_cons, List.length_append, List.length_cons] at *; rw [ih]; simp; omega

theorem optsCells_snoc (L : List Opt) (o : Opt) : optsCells (L ++ [o]) = optsCells L ++ (optVals o).toList := by simp [optsCells]

theorem optsCells_get {L : List Opt} {i : Nat} {o : Opt} (h : L[i]? = some o) (k : Nat) (hk : k < 7) : (optsCells L)[i * 7 + k]? = (optVals o)[k]? := by
  induction L generalizing i with
  | nil => simp at h
  | cons m L ih =>
    cases i with
    | zero =>
      simp at h
      subst h
      simp only [optsCells, List.flatMap_cons]
      rw [List.getElem?_append_left (by simp; omega)]
      simp
    | succ i =>
      have h' : L[i]? = some o := by simpa using h
      rw [← ih h']
      simp only [optsCells, List.flatMap_cons]
      rw [List.getElem?_append_right (by simp; omega)]
      congr 1
      simp; omega

theorem opts_one (L : List Opt) : ∀ u ∈ optsCells L, u.oneCell' = true := by
  intro u hu
  obtain ⟨o, _, hn⟩ := List.mem_flatMap.1 hu
  simp at hn
  rcases hn with rfl | rfl | rfl | rfl | rfl | rfl | rfl <;> rfl

/-- The input's slice: nil, or at an address, its elements read as Z. -/
def ZedsAt (w : World) (a : Option Addr) (Z : List Zed) : Prop :=
  Z = [] ∨ ∃ b off, a = some ⟨b, off, none⟩ ∧ ∀ (j : Nat) (z : Zed), Z[j]? = some z → ∀ (k : Nat) (v : Value), (zedVals z)[k]? = some v → w.cell? ⟨b, off + j * 7 + k, none⟩ = some v

def ZedOk (z : Zed) : Prop := 0 ≤ z.p ∧ z.p ≤ 255 ∧ 0 ≤ z.n ∧ z.n ≤ 255

theorem make_opts (n : Nat) (hn : n ≤ 600) : ∀ w, (Instr.makeSlice 25 (.int .i64 0) (.int .i64 (n : Int))).run Yba.prog w = .ok (.slice (some ⟨w.heap.size, 0, none⟩) 0 n) (w.alloc (.cells (madeCells #[.string ⟨#[]⟩, .string ⟨#[]⟩, .int .u8 0, .bool false, .string ⟨#[]⟩, .string ⟨#[]⟩, .string ⟨#[]⟩] (n * 7)) 37)) := by
  intro w
  obtain ⟨i, hi, h0, h1, h2⟩ := info_parts Yba.info37
  have hr := run_make (P := Yba.prog) w 25 37 i _ Yba.underlying25 hi h0 .i64 .i64 0 n (by omega) (by omega) (by rw [h2]; omega) (by omega)
  simpa [h1, Value.cells] using hr

theorem own_made (w : World) (B n : Nat) (hB : B ≤ w.heap.size) (hn : n ≤ 600) (c : Array Value) : (w.alloc (.cells (madeCells c (n * 7)) 37)).ownsRow B 37 7 (.slice (some ⟨w.heap.size, 0, none⟩) 0 n) 0 [] :=
  ⟨rfl, .inr ⟨w.heap.size, n, _, rfl, hB, heap_alloc_new _ _, Nat.zero_le _, by unfold maxLen; omega, size_madeCells _ _, by simp⟩⟩

/-- What 'zzs1151cbuild' leaves. -/
def OptsRet (w : World) (L : List Opt) (e : Ending) (w' : World) : Prop :=
  ∃ g cap, e = .returned (.slice (some ⟨g, 0, none⟩) L.length cap) ∧ w'.ownsRow w.heap.size 37 7 (.slice (some ⟨g, 0, none⟩) L.length cap) L.length (optsCells L) ∧ Below w.heap.size w w'

theorem news_opt (w : World) (o : Opt) : ∀ j u, (optVals o).toList[j]? = some u → (w.alloc (.cells (optVals o) 37)).cell? ((⟨w.heap.size, 0, none⟩ : Addr).add j) = some u := by
  intro j u hj
  rw [Addr.add_lit, cells_at (heap_alloc_new w (.cells (optVals o) 37)), Nat.zero_add, ← hj]
  simp

set_option maxHeartbeats 2000000 in
theorem build_some (w : World) (b off cap : Nat) (Z : List Zed) (hZ : ∀ (j : Nat) (z : Zed), Z[j]? = some z → ∀ (k : Nat) (v : Value), (zedVals z)[k]? = some v → w.cell? ⟨b, off + j * 7 + k, none⟩ = some v) (hok : ∀ z ∈ Z, ZedOk z) (hlen : Z.length ≤ 300) :
    Calls Yba.prog 4 #[.slice (some ⟨b, off, none⟩) Z.length cap] w (OptsRet w (Z.map specOf)) := by
  obtain ⟨i0, hii, hz0, hz1, hz2⟩ := info_parts Yba.info37
  have hmk := make_opts Z.length (by omega)
  go_enter Yba.func4, Yba.ntmps4
  go_wp2
  go_loopw [3, 10] (fun sv si wr => ∃ i : Nat, i ≤ Z.length ∧ si = .int .i64 i ∧ wr.ownsRow w.heap.size 37 7 sv i (optsCells ((Z.take i).map specOf)) ∧ sv ≠ .slice none 0 0 ∧ Below w.heap.size w wr) (fun _ si _ => Z.length - (intOf si).toNat)
  case atStart => exact ⟨0, Nat.zero_le _, rfl, own_made w _ _ (Nat.le_refl _) (by omega) _, by simp, (Below.refl _ _).alloc (Nat.le_refl _) _⟩
  case round =>
    obtain ⟨i, hi, rfl, hown, hnn, hb⟩ := hrel
    by_cases hlt : i < Z.length
    · obtain ⟨z, hz⟩ : ∃ z, Z[i]? = some z := ⟨Z[i], List.getElem?_eq_getElem hlt⟩
      have hzk := hok z (List.mem_of_getElem? hz)
      have carry : ∀ (k : Nat) (v : Value), (zedVals z)[k]? = some v → wr.cell? ⟨b, off + i * 7 + k, none⟩ = some v := fun k v hk => by
        have := hZ i z hz k v hk
        rw [hb.cell (World.block_lt_of_cell? w _ this)]
        exact this
      have c0 : wr.cell? ⟨b, off + i * 7, none⟩ = some (.int .u8 z.p) := carry 0 _ rfl
      have c1 : wr.cell? ⟨b, off + i * 7 + 1, none⟩ = some (.int .u8 z.n) := carry 1 _ rfl
      have c2 : wr.cell? ⟨b, off + i * 7 + 2, none⟩ = some (.bool z.t) := carry 2 _ rfl
      have c3 : wr.cell? ⟨b, off + i * 7 + 3, none⟩ = some (.bool z.y) := carry 3 _ rfl
      have c4 : wr.cell? ⟨b, off + i * 7 + 4, none⟩ = some (.string z.d) := carry 4 _ rfl
      have c5 : wr.cell? ⟨b, off + i * 7 + 5, none⟩ = some (.string z.a) := carry 5 _ rfl
      have c6 : wr.cell? ⟨b, off + i * 7 + 6, none⟩ = some (.string z.s) := carry 6 _ rfl
      have SP := hidden (spec_t z hzk.1 hzk.2.1 hzk.2.2.1 hzk.2.2.2)
      have HZ := hidden hz
      have HN := hidden hnn
      clear carry hz hzk hnn
      go_wp2_with fail
      refine (SP.out _).mono ?_
      rintro e w1 ⟨rfl, hb1⟩
      have hsz := hb.size
      have hsz1 := hb1.size
      have hown1 := hown.kept (w' := w1) (row := none) ⟨hb1.os, hb1.tape, hb1.output, hb1.size, fun k hk _ => hb1.block k hk⟩ (by cases hu : u3.ownBlock with | none => exact .inl rfl | some _ => exact .inr (by simp))
      have hb2 := hb.trans (hb1.mono hsz)
      clear SP hown hb1
      go_wp2_with (at_builtin; refine wpList_append_own_at _ rfl _ _ 25 rfl w.heap.size 37 i0 _ 7 88 Yba.underlying25 hii hz0 hz1 hz2 rfl (by decide) _ i (optsCells ((Z.take i).map specOf)) rfl (hown1.alloc _) ⟨w1.heap.size, 0, none⟩ 1 1 (optVals (specOf z)).toList rfl rfl (news_opt w1 (specOf z)) (by intro u hu; simp at hu; rcases hu with rfl | rfl | rfl | rfl | rfl | rfl | rfl <;> rfl) (by unfold maxLen; omega) (by omega) (by simp; omega) ?_)
      intro v' w3 hown3 hgrow3 hnn3 _
      have hb3 : Below w.heap.size w w3 := (hb2.alloc (by omega) _).grown hgrow3 (by simp; omega) (fun k hk => (hown1.lt k hk).1)
      have hnil : v' ≠ .slice none 0 0 := fun e => by
        rcases hown3.2 with ⟨_, e2⟩ | ⟨_, _, _, e2, _⟩
        · omega
        · rw [e] at e2; cases e2
      have hrow : w3.ownsRow w.heap.size 37 7 v' (i + 1) (optsCells ((Z.take (i + 1)).map specOf)) := by
        have e : Z.take (i + 1) = Z.take i ++ [z] := by rw [List.take_add_one, HZ.out]; rfl
        rw [e, List.map_append, List.map_cons, List.map_nil, optsCells_snoc, List.map_take]
        exact hown3
      have FIN := hidden (And.intro hrow (And.intro hnil hb3))
      clear hrow hnil hb3 hown3 hgrow3 hnn3 hown1 hb2 hb HN HZ c0 c1 c2 c3 c4 c5 c6 hZ hok
      go_wp2
      go_roundw
      case rel => first | exact ⟨i + 1, by omega, by go_num, FIN.out.1, FIN.out.2.1, FIN.out.2.2⟩ | ((repeat apply Exists.intro); refine ⟨?_, rfl⟩; exact ⟨i + 1, by omega, by go_num, FIN.out.1, FIN.out.2.1, FIN.out.2.2⟩)
      case measure => simp [intOf]; omega
    · have hiz : i = Z.length := by omega
      subst hiz
      rw [List.take_length] at hown
      have hfin : OptsRet w (Z.map specOf) (.returned u3) wr := by
        rcases hown.2 with ⟨e, _⟩ | ⟨g', cap', _, e, _⟩
        · exact absurd e hnn
        · subst e
          exact ⟨g', cap', by simp, by simpa using hown, hb⟩
      have FIN := hidden hfin
      clear hfin hown hnn hb
      go_wp2
      go_ret
      exact FIN.out

theorem build_none (w : World) (a : Option Addr) (cap : Nat) : Calls Yba.prog 4 #[.slice a 0 cap] w (OptsRet w []) := by
  have hmk := make_opts 0 (by omega)
  simp only [Int.natCast_zero, Nat.zero_mul] at hmk
  go_enter Yba.func4, Yba.ntmps4
  go_wp2
  go_loop [3, 10] (fun sv si => sv = .slice (some ⟨w.heap.size, 0, none⟩) 0 0 ∧ si = .int .i64 0) (fun _ _ => 0)
  case atStart => exact ⟨rfl, rfl⟩
  case round =>
    obtain ⟨rfl, rfl⟩ := hrel
    go_wp2
    go_ret
    exact ⟨w.heap.size, 0, rfl, own_made w _ _ (Nat.le_refl _) (by omega) _, (Below.refl _ _).alloc (Nat.le_refl _) _⟩

theorem build_any (w : World) (a : Option Addr) (cap : Nat) (Z : List Zed) (hZ : ZedsAt w a Z) (hok : ∀ z ∈ Z, ZedOk z) (hlen : Z.length ≤ 300) : Calls Yba.prog 4 #[.slice a Z.length cap] w (OptsRet w (Z.map specOf)) := by
  rcases hZ with rfl | ⟨b, off, rfl, hZ⟩
  · exact build_none w a cap
  · exact build_some w b off cap Z hZ hok hlen
end Go.Proofs.Ybulkwuu
