/-
  Plain mathematics of induced sorting: suffixes, LMS substrings and their names.
-/
import Derived.Test.Qxb6602663aSa2
namespace Go.Proofs.Qxb6602663a.Sa
open Go.Proofs.Qxb6602663a.Sym (cnt cnt_congr cnt_le cnt_lt cnt_change cnt_or)
set_option linter.unusedVariables false

theorem first {P : Nat → Prop} : ∀ d, P d → ∃ e, e ≤ d ∧ P e ∧ ∀ x, x < e → ¬ P x := by
  intro d
  induction d using Nat.strongRecOn with
  | ind d ih =>
    intro h
    by_cases hx : ∃ x, x < d ∧ P x
    · obtain ⟨x, h1, h2⟩ := hx
      obtain ⟨e, h3, h4, h5⟩ := ih x h1 h2
      exact ⟨e, by omega, h4, h5⟩
    · exact ⟨d, Nat.le_refl _, h, fun x h1 h2 => hx ⟨x, h1, h2⟩⟩

/-- The suffix at p is less than the one at q. -/
def SLt (n : Nat) (t : Nat → Nat) (p q : Nat) : Prop := ∃ d, (∀ e, e < d → TT n t (p + e) = TT n t (q + e)) ∧ TT n t (p + d) < TT n t (q + d)

section
variable {n : Nat} {t : Nat → Nat} {s : Nat → Bool}

theorem TT_lt {x : Nat} (h : x < n) : TT n t x = t x + 1 := by unfold TT; rw [if_pos h]
theorem TT_ge {x : Nat} (h : n ≤ x) : TT n t x = 0 := by unfold TT; rw [if_neg (by omega)]

theorem agree_in {p q d : Nat} (hpq : p ≠ q) (h : ∀ e, e < d → TT n t (p + e) = TT n t (q + e)) : ∀ e, e < d → p ≤ n → q ≤ n → p + e < n ∧ q + e < n := by
  intro e he hp hq
  rcases Nat.lt_or_ge (p + e) n with h1 | h1
  · refine ⟨h1, ?_⟩
    have h2 := h e he
    rw [TT_lt h1] at h2
    rcases Nat.lt_or_ge (q + e) n with h3 | h3
    · exact h3
    · rw [TT_ge h3] at h2; omega
  · exfalso
    have h2 := h e he
    rw [TT_ge h1] at h2
    have h3 : n ≤ q + e := by
      rcases Nat.lt_or_ge (q + e) n with h3 | h3
      · rw [TT_lt h3] at h2; omega
      · exact h3
    rcases Nat.lt_or_ge p q with h4 | h4
    · have := h (n - q) (by omega)
      rw [TT_lt (by omega), TT_ge (by omega)] at this
      omega
    · have := h (n - p) (by omega)
      rw [TT_ge (x := p + (n - p)) (by omega), TT_lt (by omega)] at this
      omega

theorem SLt.total {p q : Nat} (hp : p < n) (hq : q < n) (hpq : p ≠ q) : SLt n t p q ∨ SLt n t q p := by
  have : ∃ d, TT n t (p + d) ≠ TT n t (q + d) := by
    rcases Nat.lt_or_ge p q with h | h
    · refine ⟨n - q, ?_⟩
      rw [TT_lt (by omega), TT_ge (by omega)]; omega
    · refine ⟨n - p, ?_⟩
      rw [TT_ge (x := p + (n - p)) (by omega), TT_lt (by omega)]; omega
  obtain ⟨d, hd⟩ := this
  obtain ⟨e, _, h1, h2⟩ := first (P := fun d => TT n t (p + d) ≠ TT n t (q + d)) d hd
  have h3 : ∀ x, x < e → TT n t (p + x) = TT n t (q + x) := fun x hx => by
    have := h2 x hx
    simpa using this
  rcases Nat.lt_or_ge (TT n t (p + e)) (TT n t (q + e)) with h | h
  · exact .inl ⟨e, h3, h⟩
  · exact .inr ⟨e, fun x hx => (h3 x hx).symm, by omega⟩

theorem types_agree (hT : Ty n t s) {p q d : Nat} (hp : p < n) (hq : q < n) (hpq : p ≠ q) (h : ∀ e, e < d → TT n t (p + e) = TT n t (q + e)) (hd : TT n t (p + d) < TT n t (q + d)) :
    ∀ k e, e + k + 1 = d → s (p + e) = true → s (q + e) = true := by
  have hin := agree_in hpq h
  intro k
  induction k with
  | zero =>
    intro e he hs
    have h1 := hin e (by omega) (by omega) (by omega)
    have h2 := hT.le_of_S h1.1 hs
    have h3 := h e (by omega)
    rw [TT_lt h1.1, TT_lt h1.2] at h3
    rw [← he] at hd
    rw [show p + (e + 0 + 1) = p + e + 1 from by omega, show q + (e + 0 + 1) = q + e + 1 from by omega] at hd
    rw [TT_lt h2.1] at hd
    have h4 : q + e + 1 < n := by
      rcases Nat.lt_or_ge (q + e + 1) n with h4 | h4
      · exact h4
      · rw [TT_ge h4] at hd; omega
    rw [TT_lt h4] at hd
    exact (hT.step (q + e) h4).2 (.inl (by omega))
  | succ k ih =>
    intro e he hs
    have h1 := hin e (by omega) (by omega) (by omega)
    have h1' := hin (e + 1) (by omega) (by omega) (by omega)
    have h2 := hT.le_of_S h1.1 hs
    have h3 := h e (by omega)
    have h3' := h (e + 1) (by omega)
    rw [TT_lt h1.1, TT_lt h1.2] at h3
    rw [TT_lt h1'.1, TT_lt h1'.2] at h3'
    rw [show p + (e + 1) = p + e + 1 from by omega, show q + (e + 1) = q + e + 1 from by omega] at h3'
    have h4 : q + e + 1 < n := by omega
    refine (hT.step (q + e) h4).2 ?_
    rcases Nat.lt_or_ge (t (p + e)) (t (p + e + 1)) with h5 | h5
    · exact .inl (by omega)
    · have := ih (e + 1) (by omega) (by rw [show p + (e + 1) = p + e + 1 from by omega]; exact h2.2.2 (by omega))
      exact .inr ⟨by omega, by rw [show q + (e + 1) = q + e + 1 from by omega] at this; exact this⟩

theorem SLt.dif (hT : Ty n t s) {p q : Nat} (hp : p < n) (hq : q < n) (hpq : p ≠ q) (h : SLt n t p q) : ∃ d, Dif n t s d p q := by
  obtain ⟨D, h1, h2⟩ := h
  have hin := agree_in hpq h1
  have hty := types_agree hT hp hq hpq h1 h2
  obtain ⟨d, hd, h3, h4⟩ := first (P := fun d => d = D ∨ s (p + d) ≠ s (q + d)) D (.inl rfl)
  refine ⟨d, fun e he => ?_, ?_⟩
  · have := hin e (by omega) (by omega) (by omega)
    have h5 := h1 e (by omega)
    rw [TT_lt this.1, TT_lt this.2] at h5
    have h6 := h4 e he
    refine ⟨this.1, this.2, by omega, ?_⟩
    exact Classical.byContradiction fun h7 => h6 (.inr h7)
  · rcases Nat.lt_or_ge d D with h5 | h5
    · rcases h3 with h3 | h3
      · omega
      · have := hin d h5 (by omega) (by omega)
        refine .inr ⟨h1 d h5, this.1, ?_⟩
        have h6 := hty (D - d - 1) d (by omega)
        cases ha : s (p + d) <;> cases hb : s (q + d)
        · rw [ha, hb] at h3; exact absurd rfl h3
        · exact ⟨rfl, rfl⟩
        · rw [h6 ha] at hb; cases hb
        · rw [ha, hb] at h3; exact absurd rfl h3
    · have : d = D := by omega
      subst this
      exact .inl h2

theorem KLt.asymm {x y : Nat} (h : KLt n t s x y) (h' : KLt n t s y x) : False := by
  unfold KLt at h h'
  rcases h with h | ⟨h1, _, h2, h3⟩ <;> rcases h' with h' | ⟨h1', _, h2', h3'⟩
  · omega
  · omega
  · omega
  · rw [h2] at h3'; cases h3'

theorem KLt.key {x y : Nat} (h : KLt n t s x y) (ht : t x = t y) (hs : s x = s y) (hx : x < n) (hy : y < n) : False := by
  rcases h.lt hx hy with h | ⟨_, h1, h2⟩
  · omega
  · rw [hs, h2] at h1; cases h1

theorem Dif.asymm {p q d d' : Nat} (h : Dif n t s d p q) (h' : Dif n t s d' q p) : False := by
  rcases Nat.lt_trichotomy d d' with hd | hd | hd
  · obtain ⟨h1, h2, h3, h4⟩ := h'.1 d hd
    exact h.2.key h3.symm h4.symm h2 h1
  · subst hd; exact h.2.asymm h'.2
  · obtain ⟨h1, h2, h3, h4⟩ := h.1 d' hd
    exact h'.2.key h3.symm h4.symm h2 h1

theorem Dif.ne {p q d : Nat} (h : Dif n t s d p q) : p ≠ q := fun e => by
  subst e; exact h.asymm h

theorem Dif.total (hT : Ty n t s) {p q : Nat} (hp : p < n) (hq : q < n) (hpq : p ≠ q) : (∃ d, Dif n t s d p q) ∨ ∃ d, Dif n t s d q p :=
  (SLt.total (t := t) hp hq hpq).imp (fun h => h.dif hT hp hq hpq) (fun h => h.dif hT hq hp (fun e => hpq e.symm))

theorem Dif.slt (hT : Ty n t s) {p q d : Nat} (hp : p < n) (hq : q < n) (h : Dif n t s d p q) : SLt n t p q := by
  rcases SLt.total (t := t) hp hq h.ne with h' | h'
  · exact h'
  · obtain ⟨d', hd'⟩ := h'.dif hT hq hp (fun e => h.ne e.symm)
    exact (h.asymm hd').elim

/-! ### LMS substrings -/
def Agr (n : Nat) (t : Nat → Nat) (s : Nat → Bool) (d p q : Nat) : Prop := ∀ e, e < d → p + e < n ∧ q + e < n ∧ t (p + e) = t (q + e) ∧ s (p + e) = s (q + e)
def Lt2 (n : Nat) (t : Nat → Nat) (s : Nat → Bool) (p q : Nat) : Prop := ∃ d, Dif n t s d p q ∧ Clear s d p
def EqD (n : Nat) (t : Nat → Nat) (s : Nat → Bool) (d p q : Nat) : Prop := 0 < d ∧ Agr n t s (d + 1) p q ∧ lms s (p + d) = true ∧ Clear s d p
def Eq2 (n : Nat) (t : Nat → Nat) (s : Nat → Bool) (p q : Nat) : Prop := ∃ d, EqD n t s d p q

theorem Agr.lms {d p q : Nat} (h : Agr n t s d p q) {e : Nat} (h0 : 0 < e) (he : e < d) : lms s (p + e) = lms s (q + e) := by
  obtain ⟨_, _, _, h1⟩ := h e he
  obtain ⟨_, _, _, h2⟩ := h (e - 1) (by omega)
  unfold Sa.lms
  rw [h1, show p + e - 1 = p + (e - 1) from by omega, show q + e - 1 = q + (e - 1) from by omega, h2]
  simp [show 0 < p + e from by omega, show 0 < q + e from by omega]

theorem Agr.symm {d p q : Nat} (h : Agr n t s d p q) : Agr n t s d q p := fun e he => by
  obtain ⟨h1, h2, h3, h4⟩ := h e he
  exact ⟨h2, h1, h3.symm, h4.symm⟩
theorem Agr.trans {d p q r : Nat} (h : Agr n t s d p q) (h' : Agr n t s d q r) : Agr n t s d p r := fun e he => by
  obtain ⟨h1, h2, h3, h4⟩ := h e he
  obtain ⟨g1, g2, g3, g4⟩ := h' e he
  exact ⟨h1, g2, h3.trans g3, h4.trans g4⟩
theorem Agr.mono {d d' p q : Nat} (h : Agr n t s d p q) (hd : d' ≤ d) : Agr n t s d' p q := fun e he => h e (by omega)
theorem Agr.clear {d d' p q : Nat} (h : Agr n t s d p q) (hd : d' ≤ d) (hc : Clear s d' p) : Clear s d' q := fun e h1 h2 => by
  rw [← h.lms h1 (by omega)]; exact hc e h1 h2

theorem EqD.symm {d p q : Nat} (h : EqD n t s d p q) : EqD n t s d q p :=
  ⟨h.1, h.2.1.symm, by rw [← h.2.1.lms h.1 (by omega)]; exact h.2.2.1, h.2.1.clear (by omega) h.2.2.2⟩
theorem Eq2.symm {p q : Nat} (h : Eq2 n t s p q) : Eq2 n t s q p := by
  obtain ⟨d, h⟩ := h; exact ⟨d, h.symm⟩
theorem EqD.uniq {d d' p q r : Nat} (h : EqD n t s d p q) (h' : EqD n t s d' p r) : d = d' := by
  rcases Nat.lt_trichotomy d d' with hd | hd | hd
  · have := h'.2.2.2 d h.1 hd
    rw [h.2.2.1] at this; cases this
  · exact hd
  · have := h.2.2.2 d' h'.1 hd
    rw [h'.2.2.1] at this; cases this
theorem Eq2.trans {p q r : Nat} (h : Eq2 n t s p q) (h' : Eq2 n t s q r) : Eq2 n t s p r := by
  obtain ⟨d, h⟩ := h
  obtain ⟨d', h'⟩ := h'
  have := h.symm.uniq h'
  subst this
  exact ⟨d, h.1, h.2.1.trans h'.2.1, h.2.2.1, h.2.2.2⟩

theorem EqD.le {d d' p q : Nat} (h : EqD n t s d p q) (hc : Clear s d' p) : d' ≤ d := by
  rcases Nat.lt_or_ge d d' with hd | hd
  · have := hc d h.1 hd
    rw [h.2.2.1] at this; cases this
  · exact hd

theorem Eq2.lt {p q r : Nat} (h : Eq2 n t s p q) (h' : Lt2 n t s p r) : Lt2 n t s q r := by
  obtain ⟨d, h⟩ := h
  obtain ⟨d', h1, h2⟩ := h'
  have hd := h.le h2
  refine ⟨d', ⟨(h.2.1.symm.mono (by omega)).trans h1.1, ?_⟩, h.2.1.clear (by omega) h2⟩
  obtain ⟨a1, a2, a3, a4⟩ := h.2.1 d' (by omega)
  have h3 := h1.2
  unfold KLt at h3 ⊢
  rw [TT_lt a1] at h3
  rw [TT_lt a2, ← a3, ← a4]
  rcases h3 with h3 | ⟨h4, _, h5⟩
  · exact .inl h3
  · exact .inr ⟨h4, a2, h5⟩

theorem Eq2.not_lt {p q : Nat} (h : Eq2 n t s p q) (h' : Lt2 n t s p q) : False := by
  obtain ⟨d, h3, _⟩ := h.lt h'
  exact h3.ne rfl

theorem tri (hT : Ty n t s) {p q : Nat} (hp : p < n) (hq : q < n) (hpq : p ≠ q) : Lt2 n t s p q ∨ Eq2 n t s p q ∨ Lt2 n t s q p := by
  have main : ∀ d p q : Nat, Dif n t s d p q → Lt2 n t s p q ∨ Eq2 n t s p q := fun d p q h => by
    by_cases hc : Clear s d p
    · exact .inl ⟨d, h, hc⟩
    · right
      have : ∃ e, 0 < e ∧ e < d ∧ lms s (p + e) = true := by
        apply Classical.byContradiction
        intro hx
        apply hc
        intro e h1 h2
        cases h3 : lms s (p + e) with
        | false => rfl
        | true => exact absurd ⟨e, h1, h2, h3⟩ hx
      obtain ⟨e, he⟩ := this
      obtain ⟨x, h0, ⟨h1, h2, h3⟩, h4⟩ := first (P := fun e => 0 < e ∧ e < d ∧ lms s (p + e) = true) e he
      refine ⟨x, h1, Agr.mono h.1 (by omega), h3, fun y h5 h6 => ?_⟩
      cases h7 : lms s (p + y) with
      | false => rfl
      | true => exact absurd ⟨h5, by omega, h7⟩ (h4 y h6)
  rcases Dif.total hT hp hq hpq with ⟨d, h⟩ | ⟨d, h⟩
  · rcases main d p q h with h | h
    · exact .inl h
    · exact .inr (.inl h)
  · rcases main d q p h with h | h
    · exact .inr (.inr h)
    · exact .inr (.inl h.symm)

/-! ### names -/
/-- nm j = the number of x in 1..j where the substring differs from the one before. -/
structure Names (n : Nat) (t : Nat → Nat) (s : Nat → Bool) (m : Nat) (g nm : Nat → Nat) : Prop where
  zero : nm 0 = 0
  same : ∀ j, j + 1 < m → Eq2 n t s (g j) (g (j + 1)) → nm (j + 1) = nm j
  more : ∀ j, j + 1 < m → ¬ Eq2 n t s (g j) (g (j + 1)) → nm (j + 1) = nm j + 1

/-- The LMS positions gathered in the order of their substrings. -/
structure Gat (n : Nat) (t : Nat → Nat) (s : Nat → Bool) (m : Nat) (g : Nat → Nat) : Prop where
  lms : ∀ j, j < m → g j < n ∧ lms s (g j) = true
  inj : ∀ j j', j < m → j' < m → g j = g j' → j = j'
  all : ∀ p, p < n → Sa.lms s p = true → ∃ j, j < m ∧ g j = p
  ord : ∀ j j', j < m → j' < m → Lt2 n t s (g j) (g j') → j < j'

variable {m : Nat} {g nm : Nat → Nat}

theorem Names.mono (h : Names n t s m g nm) : ∀ d j, j + d < m → nm j ≤ nm (j + d) ∧ nm (j + d) ≤ nm j + d := by
  intro d
  induction d with
  | zero => intro j _; simp
  | succ d ih =>
    intro j hj
    have h1 := ih j (by omega)
    by_cases he : Eq2 n t s (g (j + d)) (g (j + d + 1))
    · have := h.same (j + d) (by omega) he
      rw [show j + (d + 1) = j + d + 1 from by omega]; omega
    · have := h.more (j + d) (by omega) he
      rw [show j + (d + 1) = j + d + 1 from by omega]; omega

theorem Names.chain (h : Names n t s m g nm) : ∀ d j, j + d + 1 < m → nm j = nm (j + d + 1) → Eq2 n t s (g j) (g (j + d + 1)) := by
  intro d
  induction d with
  | zero =>
    intro j hj e
    apply Classical.byContradiction
    intro he
    have := h.more j (by omega) he
    simp only [Nat.add_zero] at e
    omega
  | succ d ih =>
    intro j hj e
    have h1 := h.mono (d + 1) j (by omega)
    have h2 := h.mono 1 (j + d + 1) (by omega)
    rw [show j + (d + 1) = j + d + 1 from by omega] at h1
    rw [show j + (d + 1) + 1 = j + d + 1 + 1 from by omega] at e ⊢
    have h3 := ih j (by omega) (by omega)
    have h4 : Eq2 n t s (g (j + d + 1)) (g (j + d + 1 + 1)) := by
      apply Classical.byContradiction
      intro he
      have := h.more (j + d + 1) (by omega) he
      omega
    exact h3.trans h4

theorem Names.lt (h : Names n t s m g nm) (hg : Gat n t s m g) {i j : Nat} (hi : i < m) (hj : j < m) (hl : Lt2 n t s (g i) (g j)) : nm i < nm j := by
  have hij := hg.ord i j hi hj hl
  have h1 := h.mono (j - i) i (by omega)
  rw [show i + (j - i) = j from by omega] at h1
  rcases Nat.lt_or_ge (nm i) (nm j) with h2 | h2
  · exact h2
  · have := h.chain (j - i - 1) i (by omega) (by rw [show i + (j - i - 1) + 1 = j from by omega]; omega)
    rw [show i + (j - i - 1) + 1 = j from by omega] at this
    exact (this.not_lt hl).elim

theorem Names.eq (hT : Ty n t s) (h : Names n t s m g nm) (hg : Gat n t s m g) {i j : Nat} (hi : i < m) (hj : j < m) (he : Eq2 n t s (g i) (g j)) : nm i = nm j := by
  have main : ∀ i j, i < j → j < m → Eq2 n t s (g i) (g j) → nm i = nm j := fun i j hij hj he => by
    have hall : ∀ l, i < l → l ≤ j → Eq2 n t s (g i) (g l) := fun l h1 h2 => by
      rcases Nat.lt_or_ge l j with h3 | h3
      · have hne : g i ≠ g l := fun e => by have := hg.inj i l (by omega) (by omega) e; omega
        rcases tri hT (hg.lms i (by omega)).1 (hg.lms l (by omega)).1 hne with h4 | h4 | h4
        · have := hg.ord j l hj (by omega) (he.lt h4)
          omega
        · exact h4
        · have := hg.ord l i (by omega) (by omega) h4
          omega
      · have : l = j := by omega
        subst this; exact he
    have hstep : ∀ d, i + d ≤ j → nm (i + d) = nm i := by
      intro d
      induction d with
      | zero => intro _; rfl
      | succ d ih =>
        intro hd
        have h1 := ih (by omega)
        have h2 : Eq2 n t s (g (i + d)) (g (i + d + 1)) := by
          rcases Nat.eq_zero_or_pos d with h3 | h3
          · subst h3; exact hall (i + 1) (by omega) (by omega)
          · exact (hall (i + d) (by omega) (by omega)).symm.trans (hall (i + d + 1) (by omega) (by omega))
        have := h.same (i + d) (by omega) h2
        rw [show i + (d + 1) = i + d + 1 from by omega]; omega
    have := hstep (j - i) (by omega)
    rw [show i + (j - i) = j from by omega] at this
    exact this.symm
  rcases Nat.lt_trichotomy i j with h1 | h1 | h1
  · exact main i j h1 hj he
  · rw [h1]
  · exact (main j i h1 hi he.symm).symm

/-! ### the string of the names -/
/-- L x = the x-th LMS position in the text; u x its name. -/
structure Red (n : Nat) (t : Nat → Nat) (s : Nat → Bool) (m : Nat) (L u : Nat → Nat) : Prop where
  lms : ∀ x, x < m → L x < n ∧ lms s (L x) = true
  mono : ∀ x y, x < y → y < m → L x < L y
  all : ∀ p, p < n → Sa.lms s p = true → ∃ x, x < m ∧ L x = p
  lt : ∀ x y, x < m → y < m → Lt2 n t s (L x) (L y) → u x < u y
  eq : ∀ x y, x < m → y < m → Eq2 n t s (L x) (L y) → u x = u y

variable {L u : Nat → Nat}

theorem Red.succ (h : Red n t s m L u) {x e : Nat} (hx : x < m) (h0 : 0 < e) (he : L x + e < n) (hl : Sa.lms s (L x + e) = true) (hc : Clear s e (L x)) : x + 1 < m ∧ L (x + 1) = L x + e := by
  obtain ⟨y, hy, hyy⟩ := h.all _ he hl
  have hxy : x < y := by
    rcases Nat.lt_trichotomy x y with h1 | h1 | h1
    · exact h1
    · subst h1; omega
    · have := h.mono y x h1 hx; omega
  refine ⟨by omega, ?_⟩
  rcases Nat.lt_trichotomy (x + 1) y with h1 | h1 | h1
  · have h2 := h.mono x (x + 1) (by omega) (by omega)
    have h3 := h.mono (x + 1) y h1 hy
    have h4 := hc (L (x + 1) - L x) (by omega) (by omega)
    rw [show L x + (L (x + 1) - L x) = L (x + 1) from by omega, (h.lms (x + 1) (by omega)).2] at h4
    cases h4
  · rw [h1]; exact hyy
  · omega

/-- The suffixes of the string of names are in the order of the LMS suffixes. -/
theorem Red.slt (h : Red n t s m L u) : ∀ d x y, x < m → y < m → Dif n t s d (L x) (L y) → SLt m u x y := by
  intro d
  induction d using Nat.strongRecOn with
  | ind d ih =>
    intro x y hx hy hD
    by_cases hc : Clear s d (L x)
    · have := h.lt x y hx hy ⟨d, hD, hc⟩
      exact ⟨0, fun e he => by omega, by rw [TT_lt (by omega), TT_lt (by omega)]; simpa using this⟩
    · have : ∃ e, 0 < e ∧ e < d ∧ Sa.lms s (L x + e) = true := by
        apply Classical.byContradiction
        intro hx
        apply hc
        intro e h1 h2
        cases h3 : Sa.lms s (L x + e) with
        | false => rfl
        | true => exact absurd ⟨e, h1, h2, h3⟩ hx
      obtain ⟨e, he⟩ := this
      obtain ⟨z, h0, ⟨h1, h2, h3⟩, h4⟩ := first (P := fun e => 0 < e ∧ e < d ∧ Sa.lms s (L x + e) = true) e he
      have hcl : Clear s z (L x) := fun w h5 h6 => by
        cases h7 : Sa.lms s (L x + w) with
        | false => rfl
        | true => exact absurd ⟨h5, by omega, h7⟩ (h4 w h6)
      have hag : Agr n t s d (L x) (L y) := hD.1
      obtain ⟨b1, b2, _, _⟩ := hag z h2
      have hlq : Sa.lms s (L y + z) = true := by rw [← hag.lms h1 h2]; exact h3
      have hcq : Clear s z (L y) := hag.clear (by omega) hcl
      obtain ⟨c1, c2⟩ := h.succ hx h1 b1 h3 hcl
      obtain ⟨d1, d2⟩ := h.succ hy h1 b2 hlq hcq
      have hu := h.eq x y hx hy ⟨z, h1, hag.mono (by omega), h3, hcl⟩
      have hD' : Dif n t s (d - z) (L (x + 1)) (L (y + 1)) := by
        rw [c2, d2]
        refine ⟨fun e he => ?_, ?_⟩
        · have := hD.1 (z + e) (by omega)
          rw [show L x + z + e = L x + (z + e) from by omega, show L y + z + e = L y + (z + e) from by omega]
          exact this
        · have := hD.2
          rw [show L x + z + (d - z) = L x + d from by omega, show L y + z + (d - z) = L y + d from by omega]
          exact this
      obtain ⟨f, f1, f2⟩ := ih (d - z) (by omega) (x + 1) (y + 1) c1 d1 hD'
      refine ⟨f + 1, fun e he => ?_, ?_⟩
      · rcases Nat.eq_zero_or_pos e with h5 | h5
        · subst h5
          rw [TT_lt (by omega), TT_lt (by omega)]
          simpa using hu
        · have := f1 (e - 1) (by omega)
          rw [show x + 1 + (e - 1) = x + e from by omega, show y + 1 + (e - 1) = y + e from by omega] at this
          exact this
      · rw [show x + (f + 1) = x + 1 + f from by omega, show y + (f + 1) = y + 1 + f from by omega]
        exact f2

/-! ### what a suffix array is -/
structure IsSA (n : Nat) (t : Nat → Nat) (A : Nat → Int) : Prop where
  rng : ∀ j, j < n → ∃ p : Nat, p < n ∧ A j = (p : Int)
  inj : ∀ j j', j < n → j' < n → A j = A j' → j = j'
  all : ∀ p, p < n → ∃ j, j < n ∧ A j = (p : Int)
  ord : ∀ j j' p q : Nat, j < n → j' < n → A j = (p : Int) → A j' = (q : Int) → SLt n t p q → j < j'

/-- THE SECOND INDUCED SORT GIVES THE SUFFIX ARRAY. -/
theorem isSA_of {A0 AL A : Nat → Int} {k : Nat} {bk0 bk : Nat → Nat} (hT : Ty n t s) (hI : Ini n t s A0) (hk : ∀ x, x < n → t x < k) (h0 : LI n t s A0 true n AL bk0) (h : SP n t s AL 0 A bk) (hs : Sorted0 n t s A0) : IsSA n t A := by
  obtain ⟨h1, h2, h3⟩ := permA hT hI hk h0 h
  refine ⟨h1, h2, h3, fun j j' p q hj hj' e e' hl => ?_⟩
  obtain ⟨p', hp, e1⟩ := h1 j hj
  obtain ⟨q', hq, e2⟩ := h1 j' hj'
  have : p' = p := by omega
  subst this
  have : q' = q := by omega
  subst this
  have hpq : p' ≠ q' := fun e3 => by
    subst e3
    obtain ⟨d, _, h5⟩ := hl
    omega
  obtain ⟨d, hd⟩ := hl.dif hT hp hq hpq
  exact orderA hT hI hk h0 h (ex := true) (fun _ => hs) d p' q' j j' hj hj' e e' hd (.inl rfl)

/-- All names different: the names are the order. -/
theorem isSA_distinct {A : Nat → Int} {m : Nat} {u : Nat → Nat} (hu : ∀ x, x < m → u x < m) (hi : ∀ x y, x < m → y < m → u x = u y → x = y) (hA : ∀ x, x < m → A (u x) = (x : Int)) : IsSA m u A := by
  have honto : ∀ j, j < m → ∃ x, x < m ∧ u x = j := fun j hj => by
    have hc : cnt (fun _ => true) m ≤ m := cnt_le_n _ _
    exact pig_onto (P := fun _ => true) (fun x hx => ⟨hu x hx, rfl⟩) hi hc hj rfl
  refine ⟨fun j hj => ?_, fun j j' hj hj' e => ?_, fun p hp => ⟨u p, hu p hp, hA p hp⟩, fun j j' p q hj hj' e e' hl => ?_⟩
  · obtain ⟨x, hx, e⟩ := honto j hj
    exact ⟨x, hx, by rw [← e]; exact hA x hx⟩
  · obtain ⟨x, hx, e1⟩ := honto j hj
    obtain ⟨y, hy, e2⟩ := honto j' hj'
    rw [← e1, ← e2, hA x hx, hA y hy] at e
    rw [← e1, ← e2]
    have : x = y := by omega
    rw [this]
  · obtain ⟨x, hx, e1⟩ := honto j hj
    obtain ⟨y, hy, e2⟩ := honto j' hj'
    rw [← e1, hA x hx] at e
    rw [← e2, hA y hy] at e'
    have : x = p := by omega
    subst this
    have : y = q := by omega
    subst this
    obtain ⟨d, h1, h2⟩ := hl
    rcases Nat.eq_zero_or_pos d with hd | hd
    · subst hd
      rw [TT_lt (by omega), TT_lt (by omega)] at h2
      simp only [Nat.add_zero] at h2
      omega
    · have := h1 0 hd
      rw [TT_lt (by omega), TT_lt (by omega)] at this
      simp only [Nat.add_zero] at this
      have := hi x y hx hy (by omega)
      subst this
      omega
end

end Go.Proofs.Qxb6602663a.Sa
