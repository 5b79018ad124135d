/-
  Seat b1151a: '(*table).declares', '(*table).holds'.
-/
import Derived.Test.YbulkwuuM5
import Derived.LaidEqlPtr
namespace Go.Proofs.Ybulkwuu
open Go.RowKit Plain

theorem SlotsAt.below {w w' : World} {q : Nat} {S : List Nat} (h : SlotsAt w q S) (hb : Below w.heap.size w w') : SlotsAt w' q S := fun j hj => by
  have := h j hj
  rw [hb.cell (World.block_lt_of_cell? w _ this)]
  exact this

theorem cell_below {w w' : World} {a : Addr} {v : Value} (h : w.cell? a = some v) (hb : Below w.heap.size w w') : w'.cell? a = some v := by
  rw [hb.cell (World.block_lt_of_cell? w _ h)]
  exact h

theorem IndexAt.below {w w' : World} {tb off : Nat} {L : List Opt} {S : List Nat} {g cap q : Nat} (h : IndexAt w tb off L S g cap q) (hb : Below w.heap.size w w') : IndexAt w' tb off L S g cap q :=
  ⟨cell_below h.optsC hb, cell_below h.slotsC hb, h.opts.below hb, h.slots.below hb, h.few, h.pow, h.big, h.less, h.ok⟩
theorem KeyAt.below {w w' : World} {kb : Nat} {p n : ByteArray} (h : KeyAt w kb p n) (hb : Below w.heap.size w w') : KeyAt w' kb p n :=
  ⟨cell_below h.pre hb, cell_below h.name hb, cell_below h.hash hb⟩

theorem below_n (w : World) (r : Nat) : Below w.heap.size w (w.drewN r) := below_drewN (Below.refl _ _) _

/-- A table: its options, slots and their places. -/
structure Tab where
  L : List Opt
  S : List Nat
  g : Nat
  cap : Nat
  q : Nat

def adr : Option Nat → Option Addr
  | some b => some ⟨b, 0, none⟩
  | none => none
abbrev ptr (t : Option Nat) : Value := .pointer (adr t)

/-- Tables in memory, each with its elder. -/
def Chain (w : World) : Option Nat → List Tab → Prop
  | t, [] => t = none
  | t, T :: Ts => ∃ tb e, t = some tb ∧ w.cell? ⟨tb, 3, none⟩ = some (ptr e) ∧ IndexAt w tb 4 T.L T.S T.g T.cap T.q ∧ Chain w e Ts

theorem Chain.below {w w' : World} {t : Option Nat} {Ts : List Tab} (h : Chain w t Ts) (hb : Below w.heap.size w w') : Chain w' t Ts := by
  induction Ts generalizing t with
  | nil => exact h
  | cons T Ts ih =>
    obtain ⟨tb, e, h1, h2, h3, h4⟩ := h
    exact ⟨tb, e, h1, cell_below h2 hb, h3.below hb, ih h4⟩

/-- What the tables hold under a key: the place, and the option. -/
def HeldIs : List Tab → ByteArray × ByteArray → Option (Nat × Nat × Opt) → Prop
  | [], _, r => r = none
  | T :: Ts, k, r => (∃ f H, First (keyAt T.L) T.L.length k (some f) ∧ T.L[f]? = some H ∧ r = some (T.g, f, H)) ∨ (First (keyAt T.L) T.L.length k none ∧ HeldIs Ts k r)

def heldVal : Option (Nat × Nat × Opt) → Value
  | some (g, f, _) => .tuple #[.pointer (some ⟨g, f * 7, none⟩), .bool true]
  | none => .tuple #[.pointer none, .bool false]

set_option maxHeartbeats 1000000 in
theorem declares_any (w : World) (t : Option Nat) (Ts : List Tab) (kb : Nat) (p n : ByteArray) (hC : Chain w t Ts) (hK : KeyAt w kb p n) :
    Calls Yba.prog 10 #[ptr t, .pointer (some ⟨kb, 0, none⟩)] w fun e w' => (∃ r, HeldIs Ts (p, n) r ∧ e = .returned (heldVal r)) ∧ ∃ m, w' = w.drewN m := by
  have HK := hidden hK
  have HC := hidden hC
  clear hK hC
  go_enter Yba.func10, Yba.ntmps10
  go_wp2
  go_loopg [0, 6, 7] Ts.length (fun k s0 s6 s7 wr => ∃ (t' : Option Nat) (Us : List Tab) (r : Nat), s0 = ptr t' ∧ Hid (Chain w t' Us ∧ ∀ x, HeldIs Us (p, n) x → HeldIs Ts (p, n) x) ∧ Us.length = k ∧ wr = w.drewN r)
  case atStart => exact ⟨t, Ts, 0, rfl, hidden ⟨HC.out, fun _ h => h⟩, rfl, rfl⟩
  case round =>
    obtain ⟨t', Us, r, rfl, hU, hlen, rfl⟩ := hrel
    cases Us with
    | nil =>
      have ht : t' = none := hU.out.1
      subst ht
      simp only [ptr, adr]
      go_wp2
      go_ret2
      exact ⟨⟨none, hU.out.2 _ rfl, rfl⟩, r, rfl⟩
    | cons T Us =>
      obtain ⟨tb, e, rfl, he, hI, hrest⟩ := hU.out.1
      have hU2 := hidden hU.out.2
      have HR := hidden hrest
      have FD := hidden (find_any (w.drewN r) tb 4 T.L T.S T.g T.cap T.q kb p n (hI.below (below_n w r)) (HK.out.below (below_n w r)))
      clear hU hrest hI
      simp only [ptr, adr]
      go_wp2_with fail
      refine FD.out.mono ?_
      rintro e1 w1 ⟨⟨x, hx, rfl⟩, m, rfl⟩
      have HX := hidden hx
      clear hx FD
      cases x with
      | none =>
        simp only [foundVal]
        go_wp2
        go_roundg Us.length
        case measure => simp at hlen; omega
        case rel => exact ⟨e, Us, r + m, rfl, hidden ⟨HR.out, fun y hy => hU2.out y (.inr ⟨HX.out, hy⟩)⟩, rfl, rfl⟩
      | some f =>
        simp only [foundVal]
        go_wp2
        go_ret2
        obtain ⟨H, hH⟩ : ∃ H, T.L[f]? = some H := ⟨T.L[f]'HX.out.1, List.getElem?_eq_getElem HX.out.1⟩
        exact ⟨⟨some (T.g, f, H), hU2.out _ (.inl ⟨f, H, HX.out, hH, rfl⟩), rfl⟩, r + m, rfl⟩

/-- Every field alike but Synonym, the prefix and the name aside. -/
def Alike (H O : Opt) : Prop := H.t = O.t ∧ H.d = O.d ∧ H.a = O.a ∧ H.s = O.s

theorem alike_eql (H O : Opt) (hp : H.p = O.p) (hn : H.n = O.n) : ∃ b : Bool, (b = true ↔ Alike H O) ∧ ∀ w, (binOp .eql 37 (.agg #[.string H.p, .string H.n, .int .u8 H.t, .bool O.y, .string H.d, .string H.a, .string H.s]) (.agg (optVals O))).run Yba.prog w = .ok (.bool b) w := by
  obtain ⟨p, n, t, y, d, a, s⟩ := O
  obtain ⟨p', n', t', y', d', a', s'⟩ := H
  simp only at hp hn
  subst hp hn
  by_cases h1 : t' = t
  · subst h1
    by_cases h2 : d' = d
    · subst h2
      by_cases h3 : a' = a
      · subst h3
        by_cases h4 : s' = s
        · subst h4
          exact ⟨true, by simp [Alike], fun w => by go_simp⟩
        · have h5 := str_ne h4
          have h6 := str_ne' h4
          exact ⟨false, by simp [Alike, h4], fun w => by go_simp⟩
      · have h5 := str_ne h3
        have h6 := str_ne' h3
        exact ⟨false, by simp [Alike, h3], fun w => by go_simp⟩
    · have h5 := str_ne h2
      have h6 := str_ne' h2
      exact ⟨false, by simp [Alike, h2], fun w => by go_simp⟩
  · exact ⟨false, by simp [Alike, h1], fun w => by go_simp⟩

/-- What 'holds' answers. -/
def HoldsRet (Ts : List Tab) (O : Opt) (e : Ending) : Prop := ∃ r, HeldIs Ts (O.p, O.n) r ∧
  ((r = none ∧ e = .returned (.tuple #[.bool false, .bool false])) ∨ ∃ g f H b, r = some (g, f, H) ∧ (b = true ↔ Alike H O) ∧ e = .returned (.tuple #[.bool true, .bool b]))

theorem HeldIs.mem {Ts : List Tab} {k : ByteArray × ByteArray} {g f : Nat} {H : Opt} (h : HeldIs Ts k (some (g, f, H))) : ∃ T ∈ Ts, T.g = g ∧ T.L[f]? = some H ∧ (H.p, H.n) = k := by
  induction Ts with
  | nil => cases h
  | cons T Ts ih =>
    rcases h with ⟨f', H', h1, h2, h3⟩ | ⟨_, h2⟩
    · cases h3
      exact ⟨T, by simp, rfl, h2, by rw [← h1.2.1, keyAt_get h2]⟩
    · obtain ⟨U, h3, h4⟩ := ih h2
      exact ⟨U, by simp [h3], h4⟩

theorem Chain.opts {w : World} {t : Option Nat} {Ts : List Tab} (h : Chain w t Ts) {T : Tab} (hT : T ∈ Ts) : OptsAt w T.g T.L := by
  induction Ts generalizing t with
  | nil => cases hT
  | cons U Ts ih =>
    obtain ⟨tb, e, h1, h2, h3, h4⟩ := h
    rcases List.mem_cons.1 hT with rfl | hT
    · exact h3.opts
    · exact ih h4 hT

theorem cell1 {w : World} {b j : Nat} {v : Value} (h : w.cell? ⟨b, j, none⟩ = some v) (o : Obj) : (w.alloc o).cell? ⟨b, j, none⟩ = some v := by
  rw [World.cell?_of_block (w := w) (Below.heap_alloc w o b (World.block_lt_of_cell? w _ h))]; exact h

/-- An option in a block of its own. -/
def OptAt (w : World) (ob : Nat) (O : Opt) : Prop := ∀ (k : Nat) (v : Value), (optVals O)[k]? = some v → w.cell? ⟨ob, k, none⟩ = some v

set_option maxHeartbeats 1000000 in
theorem holds_any (w : World) (t : Option Nat) (Ts : List Tab) (ob kb : Nat) (O : Opt) (hC : Chain w t Ts) (hO : OptAt w ob O) (hK : KeyAt w kb O.p O.n) :
    Calls Yba.prog 8 #[ptr t, .pointer (some ⟨ob, 0, none⟩), .pointer (some ⟨kb, 0, none⟩)] w fun e w' => HoldsRet Ts O e ∧ Below w.heap.size w w' := by
  have DC := hidden (declares_any w t Ts kb O.p O.n hC hK)
  have HC := hidden hC
  have HO := hidden hO
  clear hC hO hK
  go_enter Yba.func8, Yba.ntmps8
  go_wp2_with fail
  refine DC.out.mono ?_
  rintro e w1 ⟨⟨r, hr, rfl⟩, m, hw1⟩
  have hb1 : Below w.heap.size w w1 := by rw [hw1]; exact below_n w m
  cases r with
  | none =>
    simp only [heldVal]
    have HR := hidden hr
    clear hr hw1
    go_wp2
    go_ret2
    exact ⟨⟨none, HR.out, .inl ⟨rfl, rfl⟩⟩, hb1⟩
  | some x =>
    obtain ⟨g, f, H⟩ := x
    obtain ⟨T, hT, rfl, hH, hk⟩ := hr.mem
    have hA := HC.out.opts hT
    have cH := fun k v hk => cell_below (hA f H hH k v hk) hb1
    have cO := fun k v hk => cell_below (HO.out k v hk) hb1
    have a0 : w1.cell? ⟨T.g, f * 7, none⟩ = some (.string H.p) := cH 0 _ rfl
    have a1 : w1.cell? ⟨T.g, f * 7 + 1, none⟩ = some (.string H.n) := cH 1 _ rfl
    have a2 : w1.cell? ⟨T.g, f * 7 + 2, none⟩ = some (.int .u8 H.t) := cH 2 _ rfl
    have a3 : w1.cell? ⟨T.g, f * 7 + 3, none⟩ = some (.bool H.y) := cH 3 _ rfl
    have a4 : w1.cell? ⟨T.g, f * 7 + 4, none⟩ = some (.string H.d) := cH 4 _ rfl
    have a5 : w1.cell? ⟨T.g, f * 7 + 5, none⟩ = some (.string H.a) := cH 5 _ rfl
    have a6 : w1.cell? ⟨T.g, f * 7 + 6, none⟩ = some (.string H.s) := cH 6 _ rfl
    have b0 : ∀ o, (w1.alloc o).cell? ⟨ob, 0, none⟩ = some (.string O.p) := cell1 (cO 0 _ rfl)
    have b1 : ∀ o, (w1.alloc o).cell? ⟨ob, 1, none⟩ = some (.string O.n) := cell1 (cO 1 _ rfl)
    have b2 : ∀ o, (w1.alloc o).cell? ⟨ob, 2, none⟩ = some (.int .u8 O.t) := cell1 (cO 2 _ rfl)
    have b3 : ∀ o, (w1.alloc o).cell? ⟨ob, 3, none⟩ = some (.bool O.y) := cell1 (cO 3 _ rfl)
    have b4 : ∀ o, (w1.alloc o).cell? ⟨ob, 4, none⟩ = some (.string O.d) := cell1 (cO 4 _ rfl)
    have b5 : ∀ o, (w1.alloc o).cell? ⟨ob, 5, none⟩ = some (.string O.a) := cell1 (cO 5 _ rfl)
    have b6 : ∀ o, (w1.alloc o).cell? ⟨ob, 6, none⟩ = some (.string O.s) := cell1 (cO 6 _ rfl)
    obtain ⟨b, hb, hE⟩ := alike_eql H O (Prod.mk.inj hk).1 (Prod.mk.inj hk).2
    have HB := hidden hb
    have HR := hidden hr
    clear hA cH cO hb hr hk hH hT hw1
    simp only [heldVal]
    go_wp2
    go_quiet (fail)
    go_wp2
    go_ret2
    exact ⟨⟨some (T.g, f, H), HR.out, .inr ⟨T.g, f, H, b, rfl, HB.out, rfl⟩⟩, below_drewN (hb1.alloc hb1.size _) _⟩
end Go.Proofs.Ybulkwuu
