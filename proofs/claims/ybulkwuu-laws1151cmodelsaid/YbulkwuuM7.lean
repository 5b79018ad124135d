/-
  Seat b1151a: what stands along the walk of 'LawS1151CModel'.
-/
import Derived.Test.YbulkwuuM6
import Derived.Deep.DeepCutAuto
namespace Go.Proofs.Ybulkwuu
open Go.RowKit Plain

/-- The options' cells lie in the block g. -/
def RowAt (w : World) (g : Nat) (L : List Opt) : Prop := ∀ (j : Nat) (u : Value), (optsCells L)[j]? = some u → w.cell? ⟨g, j, none⟩ = some u

theorem RowAt.below {w w' : World} {g : Nat} {L : List Opt} (h : RowAt w g L) (hb : Below w.heap.size w w') : RowAt w' g L := fun j u hj => cell_below (h j u hj) hb
theorem RowAt.opts {w : World} {g : Nat} {L : List Opt} (h : RowAt w g L) : OptsAt w g L := fun j o hj k v hk => by
  have hk7 : k < 7 := by have := (Array.getElem?_eq_some_iff.1 hk).1; simpa using this
  exact h _ _ ((optsCells_get hj k hk7).trans hk)
theorem rowAt_own {w : World} {B g n cap : Nat} {L : List Opt} (h : w.ownsRow B 37 7 (.slice (some ⟨g, 0, none⟩) n cap) n (optsCells L)) (hn : L.length = n) : RowAt w g L := fun j u hj => by
  subst hn
  have hlt := (List.getElem?_eq_some_iff.1 hj).1
  rw [length_optsCells] at hlt
  exact (h.cellAt j hlt).trans hj

/-- The cells of a table. -/
abbrev tabCells (e : Option Nat) (T : Tab) : Array Value := #[.slice none 0 0, .slice none 0 0, .slice none 0 0, ptr e, .slice (some ⟨T.g, 0, none⟩) T.L.length T.cap, .slice (some ⟨T.q, 0, none⟩) T.S.length T.S.length, .slice none 0 0, .bool false, .string ⟨#[]⟩, .string ⟨#[]⟩, .string ⟨#[]⟩]

/-- What an index needs. -/
structure TabOk (w : World) (T : Tab) : Prop where
  row : RowAt w T.g T.L
  slots : SlotsAt w T.q T.S
  few : T.L.length ≤ 300
  pow : ∃ m, T.S.length = 2 ^ m
  big : T.L.length < T.S.length
  less : T.S.length ≤ 1024
  ok : Slots (keyAt T.L) hashKey T.S T.L.length

theorem TabOk.below {w w' : World} {T : Tab} (h : TabOk w T) (hb : Below w.heap.size w w') : TabOk w' T := ⟨h.row.below hb, h.slots.below hb, h.few, h.pow, h.big, h.less, h.ok⟩

theorem chain_boxed {w : World} {e : Option Nat} {Ts : List Tab} {T : Tab} (hC : Chain w e Ts) (hT : TabOk w T) : Chain (w.alloc (.cells (tabCells e T) 34)) (some w.heap.size) (T :: Ts) := by
  have hb : Below w.heap.size w (w.alloc (.cells (tabCells e T) 34)) := (Below.refl _ _).alloc (Nat.le_refl _) _
  have hh := heap_alloc_new w (.cells (tabCells e T) 34)
  have hT' := hT.below hb
  exact ⟨w.heap.size, e, rfl, by rw [cells_at hh]; rfl, ⟨by rw [cells_at hh]; rfl, by rw [cells_at hh]; rfl, hT'.row.opts, hT'.slots, hT'.few, hT'.pow, hT'.big, hT'.less, hT'.ok⟩, hC.below hb⟩

theorem name_size (n : Int) : (nameOf n).size ≤ 100 := by
  unfold nameOf
  repeat' split
  all_goals decide

theorem names_ok (Z : List Zed) : ∀ o ∈ Z.map specOf, o.n.size ≤ 100 := by
  intro o ho
  obtain ⟨z, _, rfl⟩ := List.mem_map.1 ho
  exact name_size z.n

theorem ZedsAt.below {w w' : World} {a : Option Addr} {Z : List Zed} (h : ZedsAt w a Z) (hb : Below w.heap.size w w') : ZedsAt w' a Z := by
  rcases h with h | ⟨b, off, e, h⟩
  · exact .inl h
  · exact .inr ⟨b, off, e, fun j z hj k v hk => cell_below (h j z hj k v hk) hb⟩

/-- 'zzs1151cindex', told as a table. -/
theorem index_tab (w : World) (g cap : Nat) (L : List Opt) (hL : RowAt w g L) (hlen : L.length ≤ 300) (hnm : ∀ o ∈ L, o.n.size ≤ 100) :
    Calls Yba.prog 5 #[.slice (some ⟨g, 0, none⟩) L.length cap] w fun e w' => ∃ T : Tab, T.L = L ∧ T.g = g ∧ T.cap = cap ∧ e = .returned (.agg #[.slice (some ⟨T.g, 0, none⟩) T.L.length T.cap, .slice (some ⟨T.q, 0, none⟩) T.S.length T.S.length]) ∧ TabOk w' T ∧ Below w.heap.size w w' :=
  (index_any w g cap L hL.opts hlen hnm).mono fun _ _ ⟨S, q, he, _, h1, h2, h3, h4, h5, hb⟩ => ⟨⟨L, S, g, cap, q⟩, rfl, rfl, rfl, he, ⟨hL.below hb, h1, hlen, h2, h3, h4, h5⟩, hb⟩

/-- What stands all along: both rows of options, the boxed argument. -/
structure Base (w wx : World) (g0 : Nat) (L0 : List Opt) (g1 : Nat) (L1 : List Opt) (zq : Zed) : Prop where
  row0 : RowAt wx g0 L0
  row1 : RowAt wx g1 L1
  below : Below w.heap.size w wx
  box : wx.heap[w.heap.size]? = some (.cells (zedVals zq) 24 (0, 0))

theorem Base.next {w wx wy : World} {g0 : Nat} {L0 : List Opt} {g1 : Nat} {L1 : List Opt} {zq : Zed} (h : Base w wx g0 L0 g1 L1 zq) (hb : Below wx.heap.size wx wy) : Base w wy g0 L0 g1 L1 zq :=
  ⟨h.row0.below hb, h.row1.below hb, h.below.trans (hb.mono h.below.size), (hb.block _ (heap_lt h.box)).trans h.box⟩

/-- The elder's tables. -/
def ElderIs : Bool → Nat → List Opt → List Tab → Prop
  | false, _, _, Ts => Ts = []
  | true, g1, L1, Ts => ∃ T : Tab, T.L = L1 ∧ T.g = g1 ∧ Ts = [T]

/-- Behind 'if hasElder'. -/
def AfterElder (w wx : World) (he : Bool) (g0 : Nat) (L0 : List Opt) (g1 : Nat) (L1 : List Opt) (zq : Zed) (el : Option Nat) : Prop :=
  Base w wx g0 L0 g1 L1 zq ∧ ∃ Ts, Chain wx el Ts ∧ ElderIs he g1 L1 Ts

/-- The law's tables. -/
def TabsAre : Bool → Bool → Nat → List Opt → Nat → List Opt → List Tab → Prop
  | true, _, _, _, _, _, Ts => Ts = []
  | false, he, g0, L0, g1, L1, Ts => ∃ (T : Tab) (Us : List Tab), T.L = L0 ∧ T.g = g0 ∧ ElderIs he g1 L1 Us ∧ Ts = T :: Us

/-- Behind 'if nilT'. -/
def AfterNil (w wx : World) (he nt : Bool) (g0 : Nat) (L0 : List Opt) (g1 : Nat) (L1 : List Opt) (zq : Zed) (t : Option Nat) : Prop :=
  Base w wx g0 L0 g1 L1 zq ∧ ∃ Ts, Chain wx t Ts ∧ TabsAre nt he g0 L0 g1 L1 Ts

theorem AfterNil.next {w wx wy : World} {he nt : Bool} {g0 : Nat} {L0 : List Opt} {g1 : Nat} {L1 : List Opt} {zq : Zed} {t : Option Nat} (h : AfterNil w wx he nt g0 L0 g1 L1 zq t) (hb : Below wx.heap.size wx wy) : AfterNil w wy he nt g0 L0 g1 L1 zq t := by
  obtain ⟨h1, Ts, h2, h3⟩ := h
  exact ⟨h1.next hb, Ts, h2.below hb, h3⟩

/-- An option is stored over an empty one. -/
theorem stored {wc wS : World} {ob : Nat} {x0 x1 x2 x3 x4 x5 x6 : Value} (hb : Below wc.heap.size wc wS) (hob : wc.heap.size ≤ ob) (hz : wS.heap[ob]? = some (.cells #[x0, x1, x2, x3, x4, x5, x6] 37 (0, 0))) (O : Opt) :
    ∃ V, V = set7 wS ob (.string O.p) (.string O.n) (.int .u8 O.t) (.bool O.y) (.string O.d) (.string O.a) (.string O.s) ∧ V.heap[ob]? = some (.cells (optVals O) 37 (0, 0)) ∧ Below wc.heap.size wc V :=
  ⟨_, rfl, set7_heap hz _ _ _ _ _ _ _, set7_below hb hob _ _ _ _ _ _ _⟩

theorem optAt_heap {V : World} {ob : Nat} {O : Opt} (h : V.heap[ob]? = some (.cells (optVals O) 37 (0, 0))) : OptAt V ob O := fun k v hk => by rw [cells_at h]; exact hk

/-- Behind the choice of o. -/
def AfterPick (w wx : World) (he nt : Bool) (g0 : Nat) (L0 : List Opt) (g1 : Nat) (L1 : List Opt) (zq : Zed) (t : Option Nat) (ob : Nat) : Prop :=
  AfterNil w wx he nt g0 L0 g1 L1 zq t ∧ ∃ O : Opt, OptAt wx ob O ∧ O.n.size ≤ 100

/-- The first region of a code. -/
def firstReg : Code → Option Nat
  | .region id _ _ => some id
  | .seq a _ => firstReg a
  | .block _ c => firstReg c
  | _ => none

/-- What follows from region n on. -/
def tailAt (n : Nat) : Code → Option Code
  | .seq a b => if firstReg a = some n then some (.seq a b) else tailAt n b
  | _ => none
end Go.Proofs.Ybulkwuu
