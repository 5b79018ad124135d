/-
  Seat b1151a: the walk of 'LawS1151CModel' behind the making of the key.
-/
import Derived.Test.YbulkwuuMB
namespace Go.Proofs.Ybulkwuu
open Go.RowKit Plain

/-- What the law's own search finds, beside what 'holds' answered. -/
def Verdict (wx : World) (O : Opt) (nm sm : Bool) (s : Value) : Prop :=
  (s = .pointer none ∧ nm = false ∧ sm = false) ∨ ∃ (g f : Nat) (H : Opt), s = .pointer (some ⟨g, f * 7, none⟩) ∧ nm = true ∧ (sm = true ↔ Alike H O) ∧ (∀ k v, (optVals H)[k]? = some v → wx.cell? ⟨g, f * 7 + k, none⟩ = some v) ∧ H.p = O.p ∧ H.n = O.n

theorem held_first {L : List Opt} {k : ByteArray × ByteArray} {T : Tab} {Us : List Tab} {r : Option (Nat × Nat × Opt)} (hT : T.L = L) {x : Option Nat} (hx : First (keyAt L) L.length k x) (hr : HeldIs (T :: Us) k r) :
    (∃ f H, x = some f ∧ L[f]? = some H ∧ r = some (T.g, f, H)) ∨ (x = none ∧ HeldIs Us k r) := by
  subst hT
  rcases hr with ⟨f, H, h1, h2, h3⟩ | ⟨h1, h2⟩
  · exact .inl ⟨f, H, hx.same h1, h2, h3⟩
  · exact .inr ⟨hx.same h1, h2⟩

/-- A place found is told. -/
theorem Verdict.found {wx : World} {O : Opt} {nm sm : Bool} {g f : Nat} {H : Opt} {L : List Opt} {Ts : List Tab} (hL : OptsAt wx g L) (hH : L[f]? = some H) (hr : HeldIs Ts (O.p, O.n) (some (g, f, H))) {e : Ending} (he : HoldsRet Ts O e) (hs : e = .returned (.tuple #[.bool nm, .bool sm]))
    (uniq : ∀ r, HeldIs Ts (O.p, O.n) r → r = some (g, f, H)) : Verdict wx O nm sm (.pointer (some ⟨g, f * 7, none⟩)) := by
  obtain ⟨T, _, _, _, hk⟩ := hr.mem
  obtain ⟨r, h1, ⟨rfl, _⟩ | ⟨g', f', H', b, rfl, hb, h2⟩⟩ := he
  · cases uniq _ h1
  · cases uniq _ h1
    rw [hs] at h2
    cases h2
    exact .inr ⟨g, f, H, rfl, rfl, hb, hL f H hH, (Prod.mk.inj hk).1, (Prod.mk.inj hk).2⟩

theorem Verdict.missed {wx : World} {O : Opt} {nm sm : Bool} {Ts : List Tab} {e : Ending} (he : HoldsRet Ts O e) (hs : e = .returned (.tuple #[.bool nm, .bool sm])) (uniq : ∀ r, HeldIs Ts (O.p, O.n) r → r = none) : Verdict wx O nm sm (.pointer none) := by
  obtain ⟨r, h1, ⟨rfl, h2⟩ | ⟨g', f', H', b, rfl, hb, h2⟩⟩ := he
  · rw [hs] at h2
    cases h2
    exact .inl ⟨rfl, rfl, rfl⟩
  · cases uniq _ h1

theorem HoldsRet.parts {Ts : List Tab} {O : Opt} {e : Ending} (h : HoldsRet Ts O e) : ∃ nm sm, e = .returned (.tuple #[.bool nm, .bool sm]) := by
  obtain ⟨r, _, ⟨_, h⟩ | ⟨_, _, _, b, _, _, h⟩⟩ := h
  · exact ⟨_, _, h⟩
  · exact ⟨_, _, h⟩

set_option maxRecDepth 100000 in
set_option maxHeartbeats 4000000 in
theorem tail21 (w wk : World) (he nt : Bool) (g0 g1 : Nat) (L0 L1 : List Opt) (len0 : L0.length ≤ 300) (len1 : L1.length ≤ 300) (zq : Zed) (t : Option Nat) (ob kb k0 k1 : Nat) (O : Opt) (hA : AfterNil w wk he nt g0 L0 g1 L1 zq t) (hO : OptAt wk ob O) (hK : KeyAt wk kb O.p O.n)
    (c0 c1 c4 c5 c6 c7 c8 c9 c10 c11 c12 c13 c14 c15 c16 c19 c21 c24 c25 c26 c27 c28 c29 c30 c31 c32 c33 c34 c35 c36 c37 c38 c39 c40 c41 c42 c43 c44 c45 c46 c47 c48 c49 c50 c51 c52 c53 c54 c55 c56 c57 c58 c59 c60 c61 c62 c63 c64 c65 c66 c67 c68 c69 c70 c71 c72 c73 c74 c75 c76 c77 c78 c79 c80 c81 c82 c83 c84 c85 c86 c87 c88 c89 c90 c91 c92 c93 c94 c95 c96 c97 c98 c99 c100 c101 c102 c103 c104 c105 c106 c107 c108 c109 c110 c111 c112 c113 c114 c115 c116 c117 c118 c119 c120 c121 c122 c123 c124 c125 c126 c127 c128 c129 c130 c131 c132 c133 c134 c135 c136 c137 c138 c139 c140 c141 c142 c143 c144 c145 c146 c147 c148 c149 c150 c151 c152 c153 c154 c155 c156 c157 c158 c159 c160 c161 c162 c163 c164 c165 c166 c167 c168 c169 c170 c171 c172 c173 c174 c175 c176 c177 c178 c179 c180 c181 c182 c183 c184 c185 c186 c187 c188 c189 : Value) :
    Code.wp Yba.prog ((Yba.f3.body.bind (tailAt 21)).getD .skip) (bodyPost Yba.prog Yba.f3 fun e w' => e = .returned (.bool true) ∧ Below w.heap.size w w')
      ⟨#[c0, c1, .bool he, .bool nt, c4, c5, c6, c7, c8, c9, c10, c11, c12, c13, c14, c15, c16, .slice (some ⟨g0, 0, none⟩) L0.length k0, .slice (some ⟨g1, 0, none⟩) L1.length k1, c19, ptr t, c21, .pointer (some ⟨ob, 0, none⟩), .pointer (some ⟨kb, 0, none⟩), c24, c25, c26, c27, c28, c29, c30, c31, c32, c33, c34, c35, c36, c37, c38, c39, c40, c41, c42, c43, c44, c45, c46, c47, c48, c49, c50, c51, c52, c53, c54, c55, c56, c57, c58, c59, c60, c61, c62, c63, c64, c65, c66, c67, c68, c69, c70, c71, c72, c73, c74, c75, c76, c77, c78, c79, c80, c81, c82, c83, c84, c85, c86, c87, c88, c89, c90, c91, c92, c93, c94, c95, c96, c97, c98, c99, c100, c101, c102, c103, c104, c105, c106, c107, c108, c109, c110, c111, c112, c113, c114, c115, c116, c117, c118, c119, c120, c121, c122, c123, c124, c125, c126, c127, c128, c129, c130, c131, c132, c133, c134, c135, c136, c137, c138, c139, c140, c141, c142, c143, c144, c145, c146, c147, c148, c149, c150, c151, c152, c153, c154, c155, c156, c157, c158, c159, c160, c161, c162, c163, c164, c165, c166, c167, c168, c169, c170, c171, c172, c173, c174, c175, c176, c177, c178, c179, c180, c181, c182, c183, c184, c185, c186, c187, c188, c189], []⟩ wk := by
  obtain ⟨hB, Ts, hC, hTs⟩ := hA
  have HH := hidden (holds_any wk t Ts ob kb O hC hO hK)
  have HB := hidden hB
  have HO := hidden hO
  have HT := hidden hTs
  clear hB hC hTs hO hK
  conv => arg 2; whnf
  go_wp2_with fail
  refine HH.out.mono ?_
  rintro e w1 ⟨hret, hb1⟩
  obtain ⟨nm, sm, hs⟩ := hret.parts
  have HR := hidden hret
  have hHS := hidden hs
  have hr0 := hidden (HB.out.row0.below hb1).opts
  have hr1 := hidden (HB.out.row1.below hb1).opts
  have HBw := hidden (HB.out.below.trans (hb1.mono HB.out.below.size))
  have cO := fun k v hk => cell_below (HO.out k v hk) hb1
  have b0 : w1.cell? ⟨ob, 0, none⟩ = some (.string O.p) := cO 0 _ rfl
  have b1 : w1.cell? ⟨ob, 1, none⟩ = some (.string O.n) := cO 1 _ rfl
  have b2 : w1.cell? ⟨ob, 2, none⟩ = some (.int .u8 O.t) := cO 2 _ rfl
  have b4 : w1.cell? ⟨ob, 4, none⟩ = some (.string O.d) := cO 4 _ rfl
  have b5 : w1.cell? ⟨ob, 5, none⟩ = some (.string O.a) := cO 5 _ rfl
  have b6 : w1.cell? ⟨ob, 6, none⟩ = some (.string O.s) := cO 6 _ rfl
  clear hret hb1 HH cO
  rw [hs]
  clear hs
  go_upto_if 100 with fail
  go_cut [26, 27, 28] from 99 (fun s26 s27 s28 wx => wx = w1 ∧ Verdict w1 O nm sm s26)
  case first =>
    cases nt
    · have F0 := hidden (first_any w1 g0 k0 L0 hr0.out len0 O.p O.n)
      go_wp2_with fail
      refine F0.out.mono ?_
      rintro e2 w2 ⟨⟨x, hx, rfl⟩, hw2⟩
      rw [hw2]
      clear hw2 w2 F0
      have HX := hidden hx
      cases x with
      | some f =>
        have hfl : f < L0.length := hx.1
        clear hx
        simp only [idxVal]
        go_wp2
        go_meet
        refine ⟨rfl, ?_⟩
        obtain ⟨T, Us, h1, h2, h3, h4⟩ := HT.out
        subst h2 h4
        obtain ⟨H, hH⟩ : ∃ H, L0[f]? = some H := ⟨L0[f]'hfl, List.getElem?_eq_getElem hfl⟩
        have un : ∀ r, HeldIs (T :: Us) (O.p, O.n) r → r = some (T.g, f, H) := fun r hr => by
          rcases held_first h1 HX.out hr with ⟨f', H', e1, e2, e3⟩ | ⟨e1, _⟩
          · cases e1
            rw [hH] at e2
            cases e2
            exact e3
          · cases e1
        have hf : HeldIs (T :: Us) (O.p, O.n) (some (T.g, f, H)) := Or.inl ⟨f, H, by rw [h1]; exact HX.out, by rw [h1]; exact hH, rfl⟩
        exact .found hr0.out hH hf HR.out hHS.out un
      | none =>
        clear hx
        simp only [idxVal]
        cases he
        · go_wp2
          go_meet
          refine ⟨rfl, .missed HR.out hHS.out fun r hr => ?_⟩
          obtain ⟨T, Us, h1, h2, h3, h4⟩ := HT.out
          subst h2 h4
          rcases held_first h1 HX.out hr with ⟨_, _, e1, _⟩ | ⟨_, h5⟩
          · cases e1
          · rw [show Us = [] from h3] at h5
            exact h5
        · have F1 := hidden (first_any w1 g1 k1 L1 hr1.out len1 O.p O.n)
          go_wp2_with fail
          refine F1.out.mono ?_
          rintro e2 w2 ⟨⟨y, hy, rfl⟩, hw2⟩
          rw [hw2]
          clear hw2 w2 F1
          have HY := hidden hy
          cases y with
          | some f =>
            have hfl : f < L1.length := hy.1
            clear hy
            simp only [idxVal]
            go_wp2
            go_meet
            refine ⟨rfl, ?_⟩
            obtain ⟨T, Us, h1, h2, ⟨U, h6, h7, rfl⟩, h4⟩ := HT.out
            subst h2 h4 h7
            obtain ⟨H, hH⟩ : ∃ H, L1[f]? = some H := ⟨L1[f]'hfl, List.getElem?_eq_getElem hfl⟩
            have un : ∀ r, HeldIs [T, U] (O.p, O.n) r → r = some (U.g, f, H) := fun r hr => by
              rcases held_first h1 HX.out hr with ⟨_, _, e1, _⟩ | ⟨_, hr2⟩
              · cases e1
              · rcases held_first h6 HY.out hr2 with ⟨f', H', e1, e2, e3⟩ | ⟨e1, _⟩
                · cases e1
                  rw [hH] at e2
                  cases e2
                  exact e3
                · cases e1
            have hf : HeldIs [T, U] (O.p, O.n) (some (U.g, f, H)) := Or.inr ⟨by rw [h1]; exact HX.out, Or.inl ⟨f, H, by rw [h6]; exact HY.out, by rw [h6]; exact hH, rfl⟩⟩
            exact .found hr1.out hH hf HR.out hHS.out un
          | none =>
            clear hy
            simp only [idxVal]
            go_wp2
            go_meet
            refine ⟨rfl, .missed HR.out hHS.out fun r hr => ?_⟩
            obtain ⟨T, Us, h1, h2, ⟨U, h6, h7, rfl⟩, h4⟩ := HT.out
            subst h2 h4 h7
            rcases held_first h1 HX.out hr with ⟨_, _, e1, _⟩ | ⟨_, hr2⟩
            · cases e1
            · rcases held_first h6 HY.out hr2 with ⟨_, _, e1, _⟩ | ⟨_, h5⟩
              · cases e1
              · exact h5
    · go_wp2
      go_meet
      exact ⟨rfl, .missed HR.out hHS.out (by intro r hr; have := HT.out; rw [show Ts = [] from this] at hr; exact hr)⟩
  case rest =>
    obtain ⟨hwc, hV⟩ := hcut
    rw [hwc]
    clear hwc wc
    rcases hV with ⟨rfl, rfl, rfl⟩ | ⟨g, f, H, rfl, rfl, hsm, hH, hp, hn⟩
    · go_wp2
      go_ret
      exact ⟨rfl, HBw.out⟩
    · have a0 : w1.cell? ⟨g, f * 7, none⟩ = some (.string O.p) := by rw [← hp]; exact hH 0 _ rfl
      have a1 : w1.cell? ⟨g, f * 7 + 1, none⟩ = some (.string O.n) := by rw [← hn]; exact hH 1 _ rfl
      have a2 : w1.cell? ⟨g, f * 7 + 2, none⟩ = some (.int .u8 H.t) := hH 2 _ rfl
      have a4 : w1.cell? ⟨g, f * 7 + 4, none⟩ = some (.string H.d) := hH 4 _ rfl
      have a5 : w1.cell? ⟨g, f * 7 + 5, none⟩ = some (.string H.a) := hH 5 _ rfl
      have a6 : w1.cell? ⟨g, f * 7 + 6, none⟩ = some (.string H.s) := hH 6 _ rfl
      have HSM := hidden hsm
      clear hsm hH hp hn
      by_cases h1 : H.t = O.t
      · rw [h1] at a2
        by_cases h2 : H.d = O.d
        · rw [h2] at a4
          by_cases h3 : H.a = O.a
          · rw [h3] at a5
            by_cases h4 : H.s = O.s
            · rw [h4] at a6
              obtain rfl : sm = true := HSM.out.2 ⟨h1, h2, h3, h4⟩
              clear HSM h1 h2 h3 h4
              go_wp2
              go_quiet (fail)
              go_wp2
              go_ret
              exact ⟨rfl, below_drewN HBw.out _⟩
            · have hf : sm = false := by
                cases sm
                · rfl
                · exact absurd (HSM.out.1 rfl).2.2.2 h4
              subst hf
              have hx1 := str_ne h4
              have hx2 := str_ne' h4
              clear HSM
              go_wp2
              go_quiet (fail)
              go_wp2
              go_ret
              exact ⟨rfl, below_drewN HBw.out _⟩
          · have hf : sm = false := by
              cases sm
              · rfl
              · exact absurd (HSM.out.1 rfl).2.2.1 h3
            subst hf
            have hx1 := str_ne h3
            have hx2 := str_ne' h3
            clear HSM
            go_wp2
            go_quiet (fail)
            go_wp2
            go_ret
            exact ⟨rfl, below_drewN HBw.out _⟩
        · have hf : sm = false := by
            cases sm
            · rfl
            · exact absurd (HSM.out.1 rfl).2.1 h2
          subst hf
          have hx1 := str_ne h2
          have hx2 := str_ne' h2
          clear HSM
          go_wp2
          go_quiet (fail)
          go_wp2
          go_ret
          exact ⟨rfl, below_drewN HBw.out _⟩
      · have hf : sm = false := by
          cases sm
          · rfl
          · exact absurd (HSM.out.1 rfl).1 h1
        subst hf
        have hx1 : (H.t == O.t) = false := by simpa using h1
        have hx2 : decide (H.t = O.t) = false := by simpa using h1
        clear HSM
        go_wp2
        go_quiet (fail)
        go_wp2
        go_ret
        exact ⟨rfl, below_drewN HBw.out _⟩

end Go.Proofs.Ybulkwuu
