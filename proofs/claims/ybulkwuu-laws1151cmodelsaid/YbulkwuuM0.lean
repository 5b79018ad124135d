/-
  Seat b1151a: a table probed linearly, as plain numbers: no Go in sight.
-/
namespace Go.Proofs.Ybulkwuu.Plain

section
variable {κ : Type} (key : Nat → κ) (H : κ → Nat)

/-- The place of the d-th probe. -/
def at' (S : List Nat) (h d : Nat) : Nat := S.getD ((h + d) % S.length) 0

/-- The first d probes for k from h on meet options of other keys. -/
def Past (S : List Nat) (h d : Nat) (k : κ) : Prop := ∀ e, e < d → at' S h e ≠ 0 ∧ key (at' S h e - 1) ≠ k

/-- The slots S hold the first n options, the first of each key. -/
structure Slots (S : List Nat) (n : Nat) : Prop where
  pos : 0 < S.length
  only : ∀ j, j < S.length → S.getD j 0 = 0 ∨ (S.getD j 0 - 1 < n ∧ ∀ i, i < S.getD j 0 - 1 → key i ≠ key (S.getD j 0 - 1))
  all : ∀ i, i < n → ∃ d, Past key S (H (key i)) d (key i) ∧ at' S (H (key i)) d ≠ 0 ∧ key (at' S (H (key i)) d - 1) = key i
  few : S.countP (fun x => x != 0) ≤ n

variable {key H}

theorem Slots.start (m : Nat) (hm : 0 < m) : Slots key H (List.replicate m 0) 0 := by
  refine ⟨by simpa using hm, fun j hj => .inl ?_, fun i hi => absurd hi (by omega), ?_⟩
  · simp at hj
    simp [List.getD, hj]
  · simp [List.countP_replicate]

theorem at_lt {S : List Nat} (hp : 0 < S.length) (h d : Nat) : (h + d) % S.length < S.length := Nat.mod_lt _ hp

theorem Slots.free {S : List Nat} {n : Nat} (h : Slots key H S n) (hn : n < S.length) (s : Nat) : ∃ d, at' S s d = 0 := by
  have ⟨j, hj, h0⟩ : ∃ j, j < S.length ∧ S.getD j 0 = 0 := by
    apply Classical.byContradiction
    intro hc
    have : S.countP (fun x => x != 0) = S.length := by
      rw [List.countP_eq_length]
      intro a ha
      obtain ⟨j, hj, rfl⟩ := List.mem_iff_getElem.1 ha
      have := fun e => hc ⟨j, hj, e⟩
      simpa [List.getD, hj] using this
    have := h.few
    omega
  have hs := Nat.mod_lt s h.pos
  refine ⟨j + S.length - s % S.length, ?_⟩
  unfold at'
  have e : (s + (j + S.length - s % S.length)) % S.length = j := by
    have e1 : s = S.length * (s / S.length) + s % S.length := (Nat.div_add_mod s S.length).symm
    have e2 : s + (j + S.length - s % S.length) = j + S.length * (s / S.length + 1) := by
      rw [Nat.mul_add, Nat.mul_one]; omega
    rw [e2, Nat.add_mul_mod_self_left, Nat.mod_eq_of_lt hj]
  rw [e, h0]

/-- A probe that met others only, and now meets k, has met the first of k. -/
theorem Slots.found {S : List Nat} {n : Nat} (h : Slots key H S n) {s d : Nat} (h0 : at' S s d ≠ 0) : at' S s d - 1 < n ∧ ∀ i, i < at' S s d - 1 → key i ≠ key (at' S s d - 1) := by
  rcases h.only _ (at_lt h.pos s d) with h1 | h1
  · exact absurd h1 h0
  · exact h1

/-- A probe for k that met others only, and now meets a free slot: none is k. -/
theorem Slots.none {S : List Nat} {n : Nat} (h : Slots key H S n) {d : Nat} {k : κ} (hp : Past key S (H k) d k) (h0 : at' S (H k) d = 0) : ∀ i, i < n → key i ≠ k := by
  rintro i hi rfl
  obtain ⟨d2, p2, n2, k2⟩ := h.all i hi
  by_cases h1 : d2 < d
  · exact (hp d2 h1).2 k2
  · by_cases h2 : d = d2
    · subst h2; exact n2 h0
    · exact (p2 d (by omega)).1 h0

/-- The next option's key is there: nothing is laid. -/
theorem Slots.skip {S : List Nat} {n : Nat} (h : Slots key H S n) {d : Nat} (hp : Past key S (H (key n)) d (key n)) (h0 : at' S (H (key n)) d ≠ 0) (h1 : key (at' S (H (key n)) d - 1) = key n) : Slots key H S (n + 1) := by
  refine ⟨h.pos, fun j hj => ?_, fun i hi => ?_, Nat.le_succ_of_le h.few⟩
  · rcases h.only j hj with h2 | h2
    · exact .inl h2
    · exact .inr ⟨by omega, h2.2⟩
  · by_cases hin : i < n
    · exact h.all i hin
    · obtain rfl : i = n := by omega
      exact ⟨d, hp, h0, h1⟩

theorem at_set {S : List Nat} {p v : Nat} (hp : p < S.length) (h d : Nat) : at' (S.set p v) h d = if (h + d) % S.length = p then v else at' S h d := by
  unfold at'
  rw [List.length_set]
  simp only [List.getD, List.getElem?_set, hp]
  by_cases e : (h + d) % S.length = p
  · simp [e]
  · simp [e, Ne.symm e]

/-- The next option is laid in the free slot. -/
theorem Slots.lay {S : List Nat} {n : Nat} (h : Slots key H S n) {d : Nat} (hp : Past key S (H (key n)) d (key n)) (h0 : at' S (H (key n)) d = 0) : Slots key H (S.set ((H (key n) + d) % S.length) (n + 1)) (n + 1) := by
  have hlt := at_lt h.pos (H (key n)) d
  have hno := h.none hp h0
  have keepz : ∀ s e, at' S s e ≠ 0 → at' (S.set ((H (key n) + d) % S.length) (n + 1)) s e = at' S s e := fun s e he => by
    rw [at_set hlt, if_neg]
    intro hc
    apply he
    unfold at' at h0 ⊢
    rw [hc]
    exact h0
  refine ⟨by simpa using h.pos, fun j hj => ?_, fun i hi => ?_, ?_⟩
  · simp only [List.length_set] at hj
    by_cases hjp : j = (H (key n) + d) % S.length
    · right
      have e : (S.set ((H (key n) + d) % S.length) (n + 1)).getD j 0 = n + 1 := by rw [hjp]; simp [List.getD, hlt]
      rw [e]
      exact ⟨by omega, fun i hi => hno i (by omega)⟩
    · have e : (S.set ((H (key n) + d) % S.length) (n + 1)).getD j 0 = S.getD j 0 := by simp [List.getD, Ne.symm hjp]
      rw [e]
      rcases h.only j hj with h2 | h2
      · exact .inl h2
      · exact .inr ⟨by omega, h2.2⟩
  · by_cases hin : i < n
    · obtain ⟨d2, p2, n2, k2⟩ := h.all i hin
      refine ⟨d2, fun e he => ?_, ?_, ?_⟩
      · rw [keepz _ _ (p2 e he).1]; exact p2 e he
      · rw [keepz _ _ n2]; exact n2
      · rw [keepz _ _ n2]; exact k2
    · obtain rfl : i = n := by omega
      have e1 : at' (S.set ((H (key i) + d) % S.length) (i + 1)) (H (key i)) d = i + 1 := by rw [at_set hlt, if_pos rfl]
      refine ⟨d, fun e he => ?_, ?_, ?_⟩
      · rw [keepz _ _ (hp e he).1]; exact hp e he
      · rw [e1]; omega
      · rw [e1]; rfl
  · have := h.few
    rw [List.countP_set]
    · simp; omega
    · exact hlt

theorem Past.zero (S : List Nat) (h : Nat) (k : κ) : Past key S h 0 k := fun e he => absurd he (by omega)
theorem Past.succ {S : List Nat} {h d : Nat} {k : κ} (hp : Past key S h d k) (h0 : at' S h d ≠ 0) (h1 : key (at' S h d - 1) ≠ k) : Past key S h (d + 1) k := fun e he => by
  by_cases hed : e < d
  · exact hp e hed
  · obtain rfl : e = d := by omega
    exact ⟨h0, h1⟩
theorem Past.le {S : List Nat} {h d D : Nat} {k : κ} (hp : Past key S h d k) (hD : at' S h D = 0) : d ≤ D := by
  apply Classical.byContradiction
  intro hc
  exact (hp D (by omega)).1 hD
end

/-- What a walk from the left finds: the first place of k among the first n. -/
def First {κ : Type} (key : Nat → κ) (n : Nat) (k : κ) : Option Nat → Prop
  | some f => f < n ∧ key f = k ∧ ∀ i, i < f → key i ≠ k
  | none => ∀ i, i < n → key i ≠ k

theorem First.same {κ : Type} {key : Nat → κ} {n : Nat} {k : κ} {a b : Option Nat} (ha : First key n k a) (hb : First key n k b) : a = b := by
  cases a with
  | none =>
    cases b with
    | none => rfl
    | some f => exact absurd hb.2.1 (ha f hb.1)
  | some f =>
    cases b with
    | none => exact absurd ha.2.1 (hb f ha.1)
    | some g =>
      obtain ⟨a1, a2, a3⟩ := ha
      obtain ⟨b1, b2, b3⟩ := hb
      congr 1
      by_cases h1 : f < g
      · exact absurd a2 (b3 f h1)
      · by_cases h2 : g < f
        · exact absurd b2 (a3 g h2)
        · omega
end Go.Proofs.Ybulkwuu.Plain
