/-
  Seat b1151a: 'zzs1151cfirst', '(*index).slot', '(*index).find'.
-/
import Derived.Test.YbulkwuuM3
import Derived.Deep.LoopGhost
import Derived.Laws.Bits64b
import Derived.Laws.StructEq
namespace Go.Proofs.Ybulkwuu
open Go.RowKit Plain

def noOpt : Opt := ⟨⟨#[]⟩, ⟨#[]⟩, 0, false, ⟨#[]⟩, ⟨#[]⟩, ⟨#[]⟩⟩
/-- The key of the option at i. -/
def keyAt (L : List Opt) (i : Nat) : ByteArray × ByteArray := ((L.getD i noOpt).p, (L.getD i noOpt).n)
def hashKey (k : ByteArray × ByteArray) : Nat := hashOf k.2

theorem keyAt_get {L : List Opt} {i : Nat} {o : Opt} (h : L[i]? = some o) : keyAt L i = (o.p, o.n) := by simp [keyAt, List.getD, h]

theorem str_ne {a b : ByteArray} (h : a ≠ b) : (a.toList == b.toList) = false := by
  cases hc : (a.toList == b.toList) with
  | false => rfl
  | true =>
    refine absurd ?_ h
    rw [ByteArray.toList_eq, ByteArray.toList_eq] at hc
    obtain ⟨⟨x⟩⟩ := a
    obtain ⟨⟨y⟩⟩ := b
    simp at hc
    rw [hc]
theorem str_ne' {a b : ByteArray} (h : a ≠ b) : ¬ a.toList = b.toList := fun e => by
  have := str_ne h
  rw [e] at this
  simp at this

/-- The options L lie in the block g from its start. -/
def OptsAt (w : World) (g : Nat) (L : List Opt) : Prop := ∀ (j : Nat) (o : Opt), L[j]? = some o → ∀ (k : Nat) (v : Value), (optVals o)[k]? = some v → w.cell? ⟨g, j * 7 + k, none⟩ = some v

theorem optsAt_own {w : World} {B g n cap : Nat} {L : List Opt} (h : w.ownsRow B 37 7 (.slice (some ⟨g, 0, none⟩) n cap) n (optsCells L)) (hn : L.length = n) : OptsAt w g L := by
  subst hn
  intro j o hj k v hk
  have hlt := (List.getElem?_eq_some_iff.1 hj).1
  have hk7 : k < 7 := by have := (Array.getElem?_eq_some_iff.1 hk).1; simpa using this
  exact (h.cellAt (j * 7 + k) (by omega)).trans ((optsCells_get hj k hk7).trans hk)

theorem OptsAt.below {w w' : World} {g : Nat} {L : List Opt} (h : OptsAt w g L) (hb : Below w.heap.size w w') : OptsAt w' g L := fun j o hj k v hk => by
  have := h j o hj k v hk
  rw [hb.cell (World.block_lt_of_cell? w _ this)]
  exact this

def idxVal : Option Nat → Int
  | some f => (f : Int)
  | none => -1

set_option maxHeartbeats 1000000 in
theorem first_any (w : World) (g cap : Nat) (L : List Opt) (hL : OptsAt w g L) (hlen : L.length ≤ 300) (p n : ByteArray) :
    Calls Yba.prog 9 #[.slice (some ⟨g, 0, none⟩) L.length cap, .string p, .string n] w fun e w' => (∃ r, First (keyAt L) L.length (p, n) r ∧ e = .returned (.int .i64 (idxVal r))) ∧ w' = w := by
  go_enter Yba.func9, Yba.ntmps9
  go_wp2
  go_loop [10] (fun si => ∃ i : Nat, i ≤ L.length ∧ si = .int .i64 i ∧ Hid (∀ j, j < i → keyAt L j ≠ (p, n))) (fun si => L.length - (intOf si).toNat)
  case atStart => exact ⟨0, Nat.zero_le _, rfl, hidden (fun j hj => absurd hj (by omega))⟩
  case round =>
    obtain ⟨i, hi, rfl, hno⟩ := hrel
    by_cases hlt : i < L.length
    · obtain ⟨o, ho⟩ : ∃ o, L[i]? = some o := ⟨L[i], List.getElem?_eq_getElem hlt⟩
      have hk := hidden (keyAt_get ho)
      have c0 : w.cell? ⟨g, i * 7, none⟩ = some (.string o.p) := hL i o ho 0 _ rfl
      have c1 : w.cell? ⟨g, i * 7 + 1, none⟩ = some (.string o.n) := hL i o ho 1 _ rfl
      clear ho hL
      by_cases hp : o.p = p
      · by_cases hn : o.n = n
        · subst hp hn
          go_wp2
          go_ret
          exact ⟨⟨some i, ⟨hlt, hk.out, hno.out⟩, rfl⟩, rfl⟩
        · have hn1 := str_ne hn
          have hn2 := str_ne' hn
          go_wp2
          go_round
          case rel =>
            refine ⟨i + 1, by omega, by go_num, hidden (fun j hj => ?_)⟩
            by_cases hji : j = i
            · rw [hji, hk.out]
              exact fun e => hn (Prod.mk.inj e).2
            · exact hno.out j (by omega)
          case measure => simp [intOf]; omega
      · have hp1 := str_ne hp
        have hp2 := str_ne' hp
        go_wp2
        go_round
        case rel =>
          refine ⟨i + 1, by omega, by go_num, hidden (fun j hj => ?_)⟩
          by_cases hji : j = i
          · rw [hji, hk.out]
            exact fun e => hp (Prod.mk.inj e).1
          · exact hno.out j (by omega)
        case measure => simp [intOf]; omega
    · obtain rfl : i = L.length := by omega
      go_wp2
      go_ret
      exact ⟨⟨none, hno.out, rfl⟩, rfl⟩

theorem and_u64 (x s m : Nat) (hs : s = 2 ^ m) (hx : x ≤ 18446744073709551615) (h0 : s ≤ 1024) : bits .and .u64 (x : Int) ((s : Int) - 1) = ((x % s : Nat) : Int) := by
  have hp : 0 < s := by rw [hs]; exact Nat.pow_pos (by omega)
  rw [show ((s : Int) - 1) = ((s - 1 : Nat) : Int) by omega, bits_and_u64_nat _ _ (by omega) (by omega), hs, Nat.and_two_pow_sub_one_eq_mod]

theorem and_i64 (x s m : Nat) (hs : s = 2 ^ m) (hx : x ≤ 5000) (h0 : s ≤ 1024) : bits .and .i64 (x : Int) ((s : Int) - 1) = ((x % s : Nat) : Int) := by
  have hp : 0 < s := by rw [hs]; exact Nat.pow_pos (by omega)
  rw [show ((s : Int) - 1) = ((s - 1 : Nat) : Int) by omega]
  have h := (bits_nat .i64 62 (by decide) (fun n h0 h1 => by rw [IntKind.wrap_i64]; omega) x (s - 1) (by omega) (by omega)).1
  rw [h, hs, Nat.and_two_pow_sub_one_eq_mod]

/-- The slots S lie in the block q. -/
def SlotsAt (w : World) (q : Nat) (S : List Nat) : Prop := ∀ j, j < S.length → w.cell? ⟨q, j, none⟩ = some (.int .i64 (S.getD j 0))

/-- An index in memory, at place ⟨tb, off⟩: its options L and its slots S. -/
structure IndexAt (w : World) (tb off : Nat) (L : List Opt) (S : List Nat) (g cap q : Nat) : Prop where
  optsC : w.cell? ⟨tb, off, none⟩ = some (.slice (some ⟨g, 0, none⟩) L.length cap)
  slotsC : w.cell? ⟨tb, off + 1, none⟩ = some (.slice (some ⟨q, 0, none⟩) S.length S.length)
  opts : OptsAt w g L
  slots : SlotsAt w q S
  few : L.length ≤ 300
  pow : ∃ m, S.length = 2 ^ m
  big : L.length < S.length
  less : S.length ≤ 1024
  ok : Slots (keyAt L) hashKey S L.length

/-- A key in memory. -/
structure KeyAt (w : World) (kb : Nat) (p n : ByteArray) : Prop where
  pre : w.cell? ⟨kb, 0, none⟩ = some (.string p)
  name : w.cell? ⟨kb, 1, none⟩ = some (.string n)
  hash : w.cell? ⟨kb, 2, none⟩ = some (.int .u64 (hashOf n))

set_option maxHeartbeats 1000000 in
theorem slot_any (w : World) (tb off : Nat) (L : List Opt) (S : List Nat) (g cap q kb : Nat) (p n : ByteArray) (hI : IndexAt w tb off L S g cap q) (hK : KeyAt w kb p n) :
    Calls Yba.prog 12 #[.pointer (some ⟨tb, off, none⟩), .pointer (some ⟨kb, 0, none⟩)] w fun e w' => (∃ s : Nat, s < S.length ∧
      ((e = .returned (.tuple #[.int .i64 s, .bool false]) ∧ First (keyAt L) L.length (p, n) none) ∨ (e = .returned (.tuple #[.int .i64 s, .bool true]) ∧ S.getD s 0 ≠ 0 ∧ First (keyAt L) L.length (p, n) (some (S.getD s 0 - 1))))) ∧ ∃ m, w' = w.drewN m := by
  obtain ⟨hoc, hsc, hO, hS, hfew, hpow, hbig, hless, hok⟩ := hI
  obtain ⟨kp, kn, kh⟩ := hK
  have hl := hashOf_lt n
  obtain ⟨D, hD⟩ := hok.free hbig (hashKey (p, n))
  obtain ⟨m, hm⟩ := hpow
  have hA := and_u64 (hashOf n) S.length m hm hl hless
  have hlt0 := Nat.mod_lt (hashOf n) hok.pos
  have HM := hidden hm
  have HOK := hidden hok
  have HS := hidden hS
  have HO := hidden hO
  have HD := hidden hD
  obtain ⟨s0, hs0⟩ : ∃ s0, s0 = hashOf n % S.length := ⟨_, rfl⟩
  rw [← hs0] at hA hlt0
  have HS0 := hidden hs0
  clear hm hok hs0 hS hO hD hbig
  go_enter Yba.func12, Yba.ntmps12
  go_wp2
  go_loopg [7, 8] D (fun k s7 s8 wr => ∃ s d r : Nat, s < S.length ∧ s7 = .int .i64 s ∧ Hid (s = (hashOf n + d) % S.length ∧ Past (keyAt L) S (hashOf n) d (p, n)) ∧ k + d = D ∧ wr = w.drewN r)
  case atStart => exact ⟨s0, 0, 0, hlt0, rfl, hidden ⟨HS0.out, Past.zero _ _ _⟩, by omega, rfl⟩
  case round =>
    obtain ⟨s, d, r, hsl, rfl, hh, hkd, rfl⟩ := hrel
    have hc := HS.out s hsl
    have hat : Hid (at' S (hashOf n) d = S.getD s 0) := hidden (by unfold at'; rw [← hh.out.1])
    by_cases hz : S.getD s 0 = 0
    · rw [hz] at hc
      have hno := hidden (HOK.out.none (k := (p, n)) hh.out.2 (hat.out.trans hz))
      go_wp2
      go_ret2
      exact ⟨⟨s, hsl, .inl ⟨rfl, hno.out⟩⟩, r, rfl⟩
    · have hfd := HOK.out.found (s := hashOf n) (d := d) (by rw [hat.out]; exact hz)
      rw [hat.out] at hfd
      obtain ⟨f, hf⟩ : ∃ f, S.getD s 0 = f + 1 := ⟨S.getD s 0 - 1, by omega⟩
      rw [hf] at hc hfd
      rw [Nat.add_sub_cancel] at hfd
      obtain ⟨o, ho⟩ : ∃ o, L[f]? = some o := ⟨L[f]'hfd.1, List.getElem?_eq_getElem hfd.1⟩
      have hk := hidden (keyAt_get ho)
      have c0 : w.cell? ⟨g, f * 7, none⟩ = some (.string o.p) := HO.out f o ho 0 _ rfl
      have c1 : w.cell? ⟨g, f * 7 + 1, none⟩ = some (.string o.n) := HO.out f o ho 1 _ rfl
      have hfl := hfd.1
      have HF := hidden hfd.2
      have HFE := hidden hf
      clear ho hfd hf hz
      by_cases hn : o.n = n
      · by_cases hp : o.p = p
        · subst hp hn
          go_wp2
          go_quiet (fail)
          go_wp2
          go_quiet (fail)
          go_wp2
          go_ret2
          refine ⟨⟨s, hsl, .inr ⟨rfl, by rw [HFE.out]; omega, ?_⟩⟩, _, by rw [World.drewN_drewN, World.drewN_drewN]⟩
          rw [HFE.out, Nat.add_sub_cancel]
          exact ⟨hfl, hk.out, fun i hi => by have := HF.out i hi; rw [hk.out] at this; exact this⟩
        · have hn1 : (o.n.toList == n.toList) = true := by rw [hn]; simp
          have hp1 := str_ne hp
          have hp2 := str_ne' hp
          have hnk : Hid (keyAt L f ≠ (p, n)) := hidden (by rw [hk.out]; exact fun e => hp (Prod.mk.inj e).1)
          have hA2 := and_i64 (s + 1) S.length m HM.out (by omega) hless
          have hs1 := Nat.mod_lt (s + 1) HOK.out.pos
          obtain ⟨s', hs'⟩ : ∃ s', s' = (s + 1) % S.length := ⟨_, rfl⟩
          rw [← hs', Int.natCast_add, Int.natCast_one] at hA2
          rw [← hs'] at hs1
          have hpast : Hid (s' = (hashOf n + (d + 1)) % S.length ∧ Past (keyAt L) S (hashOf n) (d + 1) (p, n)) := by
            refine hidden ⟨?_, hh.out.2.succ ?_ ?_⟩
            · rw [hs', hh.out.1, Nat.mod_add_mod, Nat.add_assoc]
            · rw [hat.out, HFE.out]; omega
            · rw [hat.out, HFE.out]; exact hnk.out
          have hle := hpast.out.2.le HD.out
          clear hs' hh
          go_wp2
          go_quiet (fail)
          go_wp2
          go_quiet (fail)
          go_wp2
          go_roundg (gk - 1)
          case measure => omega
          case rel => exact ⟨s', d + 1, _, hs1, rfl, hpast, by omega, rfl⟩
      · have hn1 := str_ne hn
        have hn2 := str_ne' hn
        have hnk : Hid (keyAt L f ≠ (p, n)) := hidden (by rw [hk.out]; exact fun e => hn (Prod.mk.inj e).2)
        have hA2 := and_i64 (s + 1) S.length m HM.out (by omega) hless
        have hs1 := Nat.mod_lt (s + 1) HOK.out.pos
        obtain ⟨s', hs'⟩ : ∃ s', s' = (s + 1) % S.length := ⟨_, rfl⟩
        rw [← hs', Int.natCast_add, Int.natCast_one] at hA2
        rw [← hs'] at hs1
        have hpast : Hid (s' = (hashOf n + (d + 1)) % S.length ∧ Past (keyAt L) S (hashOf n) (d + 1) (p, n)) := by
          refine hidden ⟨?_, hh.out.2.succ ?_ ?_⟩
          · rw [hs', hh.out.1, Nat.mod_add_mod, Nat.add_assoc]
          · rw [hat.out, HFE.out]; omega
          · rw [hat.out, HFE.out]; exact hnk.out
        have hle := hpast.out.2.le HD.out
        clear hs' hh
        go_wp2
        go_quiet (fail)
        go_wp2
        go_quiet (fail)
        go_wp2
        go_roundg (gk - 1)
        case measure => omega
        case rel => exact ⟨s', d + 1, _, hs1, rfl, hpast, by omega, rfl⟩

/-- What 'find' and 'declares' hand back: the option's place, and its presence. -/
def foundVal (g : Nat) : Option Nat → Value
  | some f => .tuple #[.pointer (some ⟨g, f * 7, none⟩), .bool true]
  | none => .tuple #[.pointer none, .bool false]

set_option maxHeartbeats 1000000 in
theorem find_any (w : World) (tb off : Nat) (L : List Opt) (S : List Nat) (g cap q kb : Nat) (p n : ByteArray) (hI : IndexAt w tb off L S g cap q) (hK : KeyAt w kb p n) :
    Calls Yba.prog 11 #[.pointer (some ⟨tb, off, none⟩), .pointer (some ⟨kb, 0, none⟩)] w fun e w' => (∃ r, First (keyAt L) L.length (p, n) r ∧ e = .returned (foundVal g r)) ∧ ∃ m, w' = w.drewN m := by
  have SL := hidden (slot_any w tb off L S g cap q kb p n hI hK)
  obtain ⟨hoc, hsc, hO, hS, hfew, hpow, hbig, hless, hok⟩ := hI
  have HS := hidden hS
  clear hS hO hok hpow hK
  go_enter Yba.func11, Yba.ntmps11
  go_wp2_with fail
  refine SL.out.mono ?_
  rintro e w1 ⟨⟨s, hs, ⟨rfl, hf⟩ | ⟨rfl, hz, hf⟩⟩, m, rfl⟩
  · have HF := hidden hf
    clear hf
    go_wp2
    go_ret2
    exact ⟨⟨none, HF.out, rfl⟩, m, rfl⟩
  · have hc := HS.out s hs
    obtain ⟨f, hfe⟩ : ∃ f, S.getD s 0 = f + 1 := ⟨S.getD s 0 - 1, by omega⟩
    rw [hfe] at hc hf
    rw [Nat.add_sub_cancel] at hf
    have hfl := hf.1
    have HF := hidden hf
    clear hf hfe hz
    go_wp2
    go_quiet (fail)
    go_wp2
    go_ret2
    exact ⟨⟨some f, HF.out, rfl⟩, m + nq, by rw [World.drewN_drewN]⟩
end Go.Proofs.Ybulkwuu
