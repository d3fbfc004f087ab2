/-
  Plain mathematics of induced sorting: the S pass, and the order of what comes out.
-/
import Derived.Test.Qxb6602663aSa
namespace Go.Proofs.Qxb6602663a.Sa
open Go.Proofs.Qxb6602663a.Sym (cnt cnt_congr cnt_le cnt_lt cnt_change cnt_or)
set_option linter.unusedVariables false

theorem bucket_unique (n : Nat) (t : Nat → Nat) {c c' j : Nat} (h1 : Bk n t c ≤ j) (h2 : j < Bk n t (c + 1)) (h3 : Bk n t c' ≤ j) (h4 : j < Bk n t (c' + 1)) : c = c' := by
  rcases Nat.lt_trichotomy c c' with h | h | h
  · have := Bk_mono n t (show c + 1 ≤ c' from h); omega
  · exact h
  · have := Bk_mono n t (show c' + 1 ≤ c from h); omega

/-- Every cell lies in a bucket. -/
theorem bucket_of (n : Nat) (t : Nat → Nat) {k : Nat} (hk : ∀ i, i < n → t i < k) {j : Nat} (hj : j < n) : ∃ c, c < k ∧ Bk n t c ≤ j ∧ j < Bk n t (c + 1) := by
  have hBk : Bk n t k = n := by
    rw [Bk_eq]
    have : ∀ m, m ≤ n → cnt (fun i => decide (t i < k)) m = m := by
      intro m
      induction m with
      | zero => intro _; rfl
      | succ m ih => intro hm; simp only [cnt]; rw [ih (by omega), if_pos (by simp; exact hk m (by omega))]
    exact this n (Nat.le_refl _)
  have : ∀ m, j < Bk n t m → ∃ c, c < m ∧ Bk n t c ≤ j ∧ j < Bk n t (c + 1) := by
    intro m
    induction m with
    | zero => intro h; simp [Bk] at h
    | succ m ih =>
      intro h
      rcases Nat.lt_or_ge j (Bk n t m) with h' | h'
      · obtain ⟨c, h1, h2⟩ := ih h'
        exact ⟨c, by omega, h2⟩
      · exact ⟨m, by omega, h', h⟩
  exact this k (by omega)

/-! ### the S pass: the cells from i on have been looked at -/
structure SP (n : Nat) (t : Nat → Nat) (s : Nat → Bool) (AL : Nat → Int) (i : Nat) (A : Nat → Int) (bk : Nat → Nat) : Prop where
  rng : ∀ j, j < n → -1 ≤ A j ∧ A j < n
  lp : ∀ c j, Bk n t c ≤ j → j < Bk n t c + Lc n t s c → A j = AL j
  lf : ∀ c j, Bk n t c ≤ j → j < Bk n t c + Lc n t s c → ∃ p : Nat, p < n ∧ AL j = (p : Int) ∧ s p = false ∧ t p = c
  bkb : ∀ c, Bk n t c + Lc n t s c ≤ bk c ∧ bk c ≤ Bk n t (c + 1)
  fil : ∀ c j, bk c ≤ j → j < Bk n t (c + 1) → ∃ p : Nat, p < n ∧ A j = (p : Int) ∧ s p = true ∧ t p = c
  prop : ∀ c j, i ≤ j → Bk n t c + Lc n t s c ≤ j → j < Bk n t (c + 1) → bk c ≤ j
  inj : ∀ c j j', bk c ≤ j → j < Bk n t (c + 1) → bk c ≤ j' → j' < Bk n t (c + 1) → A j = A j' → j = j'
  psh : ∀ p : Nat, p < n → s p = true → ((∃ j, bk (t p) ≤ j ∧ j < Bk n t (t p + 1) ∧ A j = (p : Int)) ↔ ∃ j, i ≤ j ∧ j < n ∧ A j = (p : Int) + 1)
  ord : ∀ c j j', bk c ≤ j → j < j' → j' < Bk n t (c + 1) → ∃ a a', i ≤ a ∧ a < a' ∧ a' < n ∧ A a = A j + 1 ∧ A a' = A j' + 1

section
variable {n : Nat} {t : Nat → Nat} {s : Nat → Bool} {A0 AL A : Nat → Int} {i k : Nat} {bk : Nat → Nat}

theorem SP.start (hT : Ty n t s) (hI : Ini n t s A0) {bk0 : Nat → Nat} (h : LI n t s A0 true n AL bk0) : SP n t s AL n AL (fun c => Bk n t (c + 1)) := by
  have hf := LI.full hT hI h
  refine ⟨h.rng, fun _ _ _ _ => rfl, fun c j h1 h2 => h.fil c j h1 (by rw [hf c]; exact h2), fun c => ⟨Lc_le n t s c, Nat.le_refl _⟩, fun c j h1 h2 => by omega, fun c j h1 h2 h3 => ?_, fun c j j' h1 h2 _ _ _ => by omega, fun p hp hs => ?_, fun c j j' h1 h2 h3 => by omega⟩
  · have := Bk_le n t (c + 1); omega
  · constructor
    · rintro ⟨j, h1, h2, _⟩; omega
    · rintro ⟨j, h1, h2, _⟩; omega

/-- L-type positions lie in the L parts. -/
theorem SP.cellL (hT : Ty n t s) (hI : Ini n t s A0) {bk0 : Nat → Nat} (h0 : LI n t s A0 true n AL bk0) {p : Nat} (hp : p < n) (hs : s p = false) : ∃ j, Bk n t (t p) ≤ j ∧ j < Bk n t (t p) + Lc n t s (t p) ∧ AL j = (p : Int) := by
  obtain ⟨j, hj, e⟩ := LI.allL hT hI h0 (n - 1 - p) p (by omega) hs
  have h1 := h0.sL j p hj e hs
  rw [LI.full hT hI h0] at h1
  exact ⟨j, h1.1, h1.2, e⟩

/-- All S-type positions of a bucket have been placed once the whole S part is filled. -/
theorem SP.allS (h : SP n t s AL i A bk) {c : Nat} (hc : bk c ≤ Bk n t c + Lc n t s c) {p : Nat} (hp : p < n) (hs : s p = true) (ht : t p = c) : ∃ j, bk c ≤ j ∧ j < Bk n t (c + 1) ∧ A j = (p : Int) := by
  have hb := h.bkb c
  have hsz := Bk_succ n t s c
  have hget : ∀ j, j < Bk n t (c + 1) - bk c → ∃ q : Nat, q < n ∧ A (bk c + j) = (q : Int) ∧ s q = true ∧ t q = c := fun j hj => h.fil c _ (by omega) (by omega)
  obtain ⟨j, hj, e⟩ := pig_onto (n := n) (m := Bk n t (c + 1) - bk c) (P := fun i => decide (t i = c) && s i) (f := fun j => (A (bk c + j)).toNat)
    (fun j hj => by
      obtain ⟨q, h1, h2, h3, h4⟩ := hget j hj
      simp only [h2, Int.toNat_natCast]
      exact ⟨h1, by simp [h3, h4]⟩)
    (fun j j' hj hj' e => by
      obtain ⟨q, h1, h2, h3, h4⟩ := hget j hj
      obtain ⟨q', h1', h2', h3', h4'⟩ := hget j' hj'
      simp only [h2, h2', Int.toNat_natCast] at e
      have := h.inj c (bk c + j) (bk c + j') (by omega) (by omega) (by omega) (by omega) (by rw [h2, h2', e])
      omega) (by show Sc n t s c ≤ _; omega) hp (by simp [hs, ht])
  obtain ⟨q, h1, h2, h3, h4⟩ := hget j hj
  simp only [h2, Int.toNat_natCast] at e
  exact ⟨bk c + j, by omega, by omega, by rw [h2, e]⟩

/-- A new entry has room. -/
theorem SP.room (h : SP n t s AL i A bk) {p : Nat} (hp : p < n) (hs : s p = true) (hn : ∀ j, bk (t p) ≤ j → j < Bk n t (t p + 1) → A j ≠ (p : Int)) : Bk n t (t p) + Lc n t s (t p) < bk (t p) := by
  have hb := h.bkb (t p)
  rcases Nat.lt_or_ge (Bk n t (t p) + Lc n t s (t p)) (bk (t p)) with h' | h'
  · exact h'
  · obtain ⟨j, h1, h2, h3⟩ := h.allS h' hp hs rfl
    exact absurd h3 (hn j h1 h2)

/-- The next cell to the left holds a placed entry, too. -/
theorem SP.proper (hT : Ty n t s) (hI : Ini n t s A0) {bk0 : Nat → Nat} (h0 : LI n t s A0 true n AL bk0) (h : SP n t s AL (i + 1) A bk) (hi : i < n) {c : Nat} (h1 : Bk n t c + Lc n t s c ≤ i) (h2 : i < Bk n t (c + 1)) : bk c ≤ i := by
  rcases Nat.lt_or_ge i (bk c) with hlt | hge
  case inr => exact hge
  exfalso
  -- every S-type position of the bucket has been placed: from the right
  have all : ∀ d p, p + d + 1 = n → s p = true → t p = c → ∃ j, bk c ≤ j ∧ j < Bk n t (c + 1) ∧ A j = (p : Int) := by
    intro d
    induction d with
    | zero =>
      intro p hp hs ht
      have := (hT.le_of_S (p := p) (by omega) hs).1
      omega
    | succ d ih =>
      intro p hp hs ht
      obtain ⟨hp1, hle, heq⟩ := hT.le_of_S (p := p) (by omega) hs
      have hsrc : ∃ j, i + 1 ≤ j ∧ j < n ∧ A j = (p : Int) + 1 := by
        by_cases e : t (p + 1) = c
        · obtain ⟨j, g1, g2, g3⟩ := ih (p + 1) (by omega) (heq (by omega)) e
          have := Bk_le n t (c + 1)
          exact ⟨j, by omega, by omega, by omega⟩
        · have hB := Bk_mono n t (show c + 1 ≤ t (p + 1) from by omega)
          have hBn := Bk_le n t (t (p + 1) + 1)
          by_cases hq : s (p + 1) = true
          · have hbq := h.bkb (t (p + 1))
            have hfull : bk (t (p + 1)) ≤ Bk n t (t (p + 1)) + Lc n t s (t (p + 1)) := by
              rcases Nat.lt_or_ge (Bk n t (t (p + 1)) + Lc n t s (t (p + 1))) (bk (t (p + 1))) with hh | hh
              · have := h.prop (t (p + 1)) (Bk n t (t (p + 1)) + Lc n t s (t (p + 1))) (by omega) (Nat.le_refl _) (by omega)
                omega
              · exact hh
            obtain ⟨j, g1, g2, g3⟩ := h.allS hfull (p := p + 1) (by omega) hq rfl
            exact ⟨j, by omega, by omega, by omega⟩
          · obtain ⟨j, g1, g2, g3⟩ := SP.cellL hT hI h0 (p := p + 1) (by omega) (by simpa using hq)
            have hlc := Lc_le n t s (t (p + 1))
            rw [← h.lp _ j g1 g2] at g3
            exact ⟨j, by omega, by omega, by omega⟩
      have := (h.psh p (by omega) hs).2 hsrc
      rw [ht] at this
      exact this
  have hcnt : cnt (fun x => decide (t x = c) && s x) n ≤ Bk n t (c + 1) - bk c := by
    refine cnt_surj _ _ (fun j => (A (bk c + j)).toNat) (fun x hx hp => ?_)
    simp at hp
    obtain ⟨j, g1, g2, g3⟩ := all (n - 1 - x) x (by omega) hp.2 hp.1
    refine ⟨j - bk c, by omega, ?_⟩
    rw [show bk c + (j - bk c) = j from by omega, g3]
    simp
  have hsz := Bk_succ n t s c
  have e : cnt (fun x => decide (t x = c) && s x) n = Sc n t s c := rfl
  have hb := h.bkb c
  omega

/-- A cell that has been looked at leads to its bucket. -/
theorem SP.cell (hk : ∀ x, x < n → t x < k) (h : SP n t s AL i A bk) {j : Nat} (hj : i ≤ j) (hjn : j < n) : ∃ p : Nat, p < n ∧ A j = (p : Int) ∧ Bk n t (t p) ≤ j ∧ j < Bk n t (t p + 1) ∧ ((s p = false ∧ j < Bk n t (t p) + Lc n t s (t p)) ∨ (s p = true ∧ bk (t p) ≤ j)) := by
  obtain ⟨c, _, h1, h2⟩ := bucket_of n t hk hjn
  rcases Nat.lt_or_ge j (Bk n t c + Lc n t s c) with h3 | h3
  · obtain ⟨p, g1, g2, g3, g4⟩ := h.lf c j h1 h3
    subst g4
    exact ⟨p, g1, by rw [h.lp _ j h1 h3]; exact g2, h1, h2, .inl ⟨g3, h3⟩⟩
  · have h4 := h.prop c j hj h3 h2
    obtain ⟨p, g1, g2, g3, g4⟩ := h.fil c j h4 h2
    subst g4
    exact ⟨p, g1, g2, h1, h2, .inr ⟨g3, h4⟩⟩

/-- Cells that have been looked at hold different positions. -/
theorem SP.inj' (hk : ∀ x, x < n → t x < k) (hLinj : ∀ j j', j < n → j' < n → 0 ≤ AL j → AL j = AL j' → j = j') (h : SP n t s AL i A bk) {j j' : Nat} (hj : i ≤ j) (hjn : j < n) (hj' : i ≤ j') (hjn' : j' < n) (e : A j = A j') : j = j' := by
  obtain ⟨p, g1, g2, g3, g4, g5⟩ := h.cell hk hj hjn
  obtain ⟨q, f1, f2, f3, f4, f5⟩ := h.cell hk hj' hjn'
  have hpq : p = q := by omega
  subst hpq
  rcases g5 with ⟨g5, g6⟩ | ⟨g5, g6⟩
  · rcases f5 with ⟨f5, f6⟩ | ⟨f5, f6⟩
    · refine hLinj j j' hjn hjn' ?_ ?_
      · rw [← h.lp _ j g3 g6, g2]; omega
      · rw [← h.lp _ j g3 g6, ← h.lp _ j' f3 f6]; exact e
    · rw [g5] at f5; cases f5
  · rcases f5 with ⟨f5, f6⟩ | ⟨f5, f6⟩
    · rw [g5] at f5; cases f5
    · exact h.inj _ j j' g6 g4 f6 f4 e

/-- The scan meets an entry whose predecessor is S-type. -/
theorem SP.push (hT : Ty n t s) (hI : Ini n t s A0) (hk : ∀ x, x < n → t x < k) {bk0 : Nat → Nat} (h0 : LI n t s A0 true n AL bk0) (h : SP n t s AL (i + 1) A bk) (hi : i < n) {p : Nat} (hA : A i = (p : Int) + 1) (hs : s p = true) :
    SP n t s AL i (updF A (bk (t p) - 1) (p : Int)) (updF bk (t p) (bk (t p) - 1)) ∧ 0 < bk (t p) ∧ bk (t p) ≤ n := by
  have hprop : ∀ c, Bk n t c + Lc n t s c ≤ i → i < Bk n t (c + 1) → bk c ≤ i := fun c h1 h2 => SP.proper hT hI h0 h hi h1 h2
  -- the cell i itself
  have hci : ∃ q : Nat, q < n ∧ A i = (q : Int) ∧ Bk n t (t q) ≤ i ∧ i < Bk n t (t q + 1) ∧ ((s q = false ∧ i < Bk n t (t q) + Lc n t s (t q)) ∨ (s q = true ∧ bk (t q) ≤ i)) := by
    obtain ⟨c, _, h1, h2⟩ := bucket_of n t hk hi
    rcases Nat.lt_or_ge i (Bk n t c + Lc n t s c) with h3 | h3
    · obtain ⟨p, g1, g2, g3, g4⟩ := h.lf c i h1 h3
      subst g4
      exact ⟨p, g1, by rw [h.lp _ i h1 h3]; exact g2, h1, h2, .inl ⟨g3, h3⟩⟩
    · have h4 := hprop c h3 h2
      obtain ⟨p, g1, g2, g3, g4⟩ := h.fil c i h4 h2
      subst g4
      exact ⟨p, g1, g2, h1, h2, .inr ⟨g3, h4⟩⟩
  obtain ⟨q, hq1, hq2, hq3, hq4, hq5⟩ := hci
  have hqp : q = p + 1 := by omega
  subst hqp
  obtain ⟨hp1, hle, heq⟩ := hT.le_of_S (p := p) (by omega) hs
  have hb := h.bkb (t p)
  have hBn := Bk_le n t (t p + 1)
  -- it is not there yet
  have hno : ∀ j, bk (t p) ≤ j → j < Bk n t (t p + 1) → A j ≠ (p : Int) := fun j g1 g2 e => by
    obtain ⟨a, f1, f2, f3⟩ := (h.psh p (by omega) hs).1 ⟨j, g1, g2, e⟩
    -- the cell a and the cell i hold the same
    have ha := h.cell hk f1 f2
    obtain ⟨x, x1, x2, x3, x4, x5⟩ := ha
    have hx : x = p + 1 := by omega
    subst hx
    rcases x5 with ⟨x5, x6⟩ | ⟨x5, x6⟩
    · rcases hq5 with ⟨y5, y6⟩ | ⟨y5, y6⟩
      · have := h0.inj a i f2 hi (by rw [← h.lp _ a x3 x6]; omega) (by rw [← h.lp _ a x3 x6, ← h.lp _ i hq3 y6]; omega)
        omega
      · rw [x5] at y5; cases y5
    · rcases hq5 with ⟨y5, y6⟩ | ⟨y5, y6⟩
      · rw [x5] at y5; cases y5
      · have := h.inj _ a i x6 x4 y6 hq4 (by omega)
        omega
  have hroom := h.room (by omega) hs hno
  have hpos : 0 < bk (t p) := by omega
  -- its place lies ahead of the scan
  have hlt : bk (t p) - 1 < i := by
    by_cases e : t p = t (p + 1)
    · rcases hq5 with ⟨y5, y6⟩ | ⟨y5, y6⟩
      · rw [heq e] at y5; cases y5
      · rw [← e] at y6; omega
    · have := Bk_mono n t (show t p + 1 ≤ t (p + 1) from by omega)
      omega
  have hcell : ∀ j, i ≤ j → updF A (bk (t p) - 1) (p : Int) j = A j := fun j hj => updF_ne _ _ (by omega)
  have hother : ∀ c j, c ≠ t p → Bk n t c ≤ j → j < Bk n t (c + 1) → j ≠ bk (t p) - 1 := fun c j hc g1 g2 e => hc (bucket_unique n t g1 g2 (by omega) (by omega))
  refine ⟨⟨fun j hj => ?_, fun c j g1 g2 => ?_, h.lf, fun c => ?_, fun c j g1 g2 => ?_, fun c j g1 g2 g3 => ?_, fun c j j' g1 g2 g3 g4 e => ?_, fun x hx hxs => ?_, fun c j j' g1 g2 g3 => ?_⟩, hpos, by omega⟩
  · by_cases e : j = bk (t p) - 1
    · subst e; rw [updF_same]; omega
    · rw [updF_ne _ _ e]; exact h.rng j hj
  · have hlc := Lc_le n t s c
    have : j ≠ bk (t p) - 1 := fun e => by
      by_cases hc : c = t p
      · subst hc; omega
      · exact hother c j hc g1 (by omega) e
    rw [updF_ne _ _ this]; exact h.lp c j g1 g2
  · by_cases hc : c = t p
    · subst hc; rw [updF_same]; omega
    · rw [updF_ne _ _ hc]; exact h.bkb c
  · by_cases hc : c = t p
    · subst hc
      rw [updF_same] at g1
      by_cases e : j = bk (t p) - 1
      · subst e; exact ⟨p, by omega, updF_same _ _ _, hs, rfl⟩
      · rw [updF_ne _ _ e]; exact h.fil (t p) j (by omega) g2
    · rw [updF_ne _ _ hc] at g1
      have hbc := h.bkb c
      rw [updF_ne _ _ (hother c j hc (by omega) g2)]
      exact h.fil c j g1 g2
  · have hold : bk c ≤ j := by
      by_cases e : j = i
      · subst e; exact hprop c g2 g3
      · exact h.prop c j (by omega) g2 g3
    by_cases hc : c = t p
    · subst hc; rw [updF_same]; omega
    · rw [updF_ne _ _ hc]; exact hold
  · by_cases hc : c = t p
    · subst hc
      rw [updF_same] at g1 g3
      by_cases e1 : j = bk (t p) - 1
      · by_cases e2 : j' = bk (t p) - 1
        · omega
        · rw [e1, updF_same, updF_ne _ _ e2] at e
          exact absurd e.symm (hno j' (by omega) g4)
      · by_cases e2 : j' = bk (t p) - 1
        · rw [e2, updF_same, updF_ne _ _ e1] at e
          exact absurd e (hno j (by omega) g2)
        · rw [updF_ne _ _ e1, updF_ne _ _ e2] at e
          exact h.inj _ j j' (by omega) g2 (by omega) g4 e
    · rw [updF_ne _ _ hc] at g1 g3
      have hbc := h.bkb c
      rw [updF_ne _ _ (hother c j hc (by omega) g2), updF_ne _ _ (hother c j' hc (by omega) g4)] at e
      exact h.inj c j j' g1 g2 g3 g4 e
  · have hold := h.psh x hx hxs
    constructor
    · rintro ⟨j, g1, g2, g3⟩
      by_cases hc : t x = t p
      · rw [hc, updF_same] at g1
        by_cases e : j = bk (t p) - 1
        · subst e
          rw [updF_same] at g3
          have : x = p := by omega
          subst this
          exact ⟨i, Nat.le_refl _, hi, by rw [hcell i (Nat.le_refl _)]; exact hA⟩
        · rw [updF_ne _ _ e] at g3
          obtain ⟨a, f1, f2, f3⟩ := hold.1 ⟨j, by rw [hc]; omega, g2, g3⟩
          exact ⟨a, by omega, f2, by rw [hcell a (by omega)]; exact f3⟩
      · rw [updF_ne _ _ hc] at g1
        have hbc := h.bkb (t x)
        rw [updF_ne _ _ (hother (t x) j hc (by omega) g2)] at g3
        obtain ⟨a, f1, f2, f3⟩ := hold.1 ⟨j, g1, g2, g3⟩
        exact ⟨a, by omega, f2, by rw [hcell a (by omega)]; exact f3⟩
    · rintro ⟨a, f1, f2, f3⟩
      rw [hcell a f1] at f3
      by_cases ea : a = i
      · subst ea
        have : x = p := by omega
        subst this
        exact ⟨bk (t x) - 1, by rw [updF_same]; exact Nat.le_refl _, by omega, updF_same _ _ _⟩
      · obtain ⟨j, g1, g2, g3⟩ := hold.2 ⟨a, by omega, f2, f3⟩
        by_cases hc : t x = t p
        · rw [hc] at g1 g2
          refine ⟨j, by rw [hc, updF_same]; omega, by rw [hc]; exact g2, ?_⟩
          rw [updF_ne _ _ (by omega)]; exact g3
        · have hbc := h.bkb (t x)
          refine ⟨j, by rw [updF_ne _ _ hc]; exact g1, g2, ?_⟩
          rw [updF_ne _ _ (hother (t x) j hc (by omega) g2)]; exact g3
  · have lift : ∀ j j', j ≠ bk (t p) - 1 → j' ≠ bk (t p) - 1 → (∃ a a', i + 1 ≤ a ∧ a < a' ∧ a' < n ∧ A a = A j + 1 ∧ A a' = A j' + 1) →
        ∃ a a', i ≤ a ∧ a < a' ∧ a' < n ∧ updF A (bk (t p) - 1) (p : Int) a = updF A (bk (t p) - 1) (p : Int) j + 1 ∧ updF A (bk (t p) - 1) (p : Int) a' = updF A (bk (t p) - 1) (p : Int) j' + 1 := by
      rintro j j' e1 e2 ⟨a, a', f1, f2, f3, f4, f5⟩
      rw [updF_ne _ _ e1, updF_ne _ _ e2]
      exact ⟨a, a', by omega, f2, f3, by rw [hcell a (by omega)]; exact f4, by rw [hcell a' (by omega)]; exact f5⟩
    by_cases hc : c = t p
    · subst hc
      rw [updF_same] at g1
      by_cases e1 : j = bk (t p) - 1
      · subst e1
        rw [updF_same, updF_ne _ _ (by omega)]
        obtain ⟨x, x1, x2, x3, x4⟩ := h.fil (t p) j' (by omega) g3
        obtain ⟨a, f1, f2, f3⟩ := (h.psh x x1 x3).1 ⟨j', by rw [x4]; omega, by rw [x4]; exact g3, x2⟩
        exact ⟨i, a, Nat.le_refl _, by omega, f2, by rw [hcell i (Nat.le_refl _)]; exact hA, by rw [hcell a (by omega), x2]; exact f3⟩
      · exact lift j j' e1 (by omega) (h.ord (t p) j j' (by omega) g2 g3)
    · rw [updF_ne _ _ hc] at g1
      have hbc := h.bkb c
      exact lift j j' (hother c j hc (by omega) (by omega)) (hother c j' hc (by omega) g3) (h.ord c j j' g1 g2 g3)

/-- The scan meets any other entry. -/
theorem SP.pass (hT : Ty n t s) (hI : Ini n t s A0) {bk0 : Nat → Nat} (h0 : LI n t s A0 true n AL bk0) (h : SP n t s AL (i + 1) A bk) (hi : i < n) (hA : ∀ p : Nat, A i = (p : Int) + 1 → s p = false) : SP n t s AL i A bk := by
  refine ⟨h.rng, h.lp, h.lf, h.bkb, h.fil, fun c j g1 g2 g3 => ?_, h.inj, fun p hp hs => ?_, fun c j j' g1 g2 g3 => ?_⟩
  · by_cases e : j = i
    · subst e; exact SP.proper hT hI h0 h hi g2 g3
    · exact h.prop c j (by omega) g2 g3
  · rw [h.psh p hp hs]
    constructor
    · rintro ⟨j, h1, h2, h3⟩; exact ⟨j, by omega, h2, h3⟩
    · rintro ⟨j, h1, h2, h3⟩
      by_cases e : j = i
      · subst e
        have := hA p h3
        rw [hs] at this; cases this
      · exact ⟨j, by omega, h2, h3⟩
  · obtain ⟨a, a', f1, f2, f3, f4, f5⟩ := h.ord c j j' g1 g2 g3
    exact ⟨a, a', by omega, f2, f3, f4, f5⟩

/-- What a read cell holds: for the bounds of the Go text. -/
theorem SP.val (h : SP n t s AL i A bk) {j : Nat} (hj : j < n) : -1 ≤ A j ∧ A j < n := h.rng j hj
end

/-! ### the order -/
/-- The text with an end below every symbol. -/
def TT (n : Nat) (t : Nat → Nat) (x : Nat) : Nat := if x < n then t x + 1 else 0
/-- The keys at x and y differ: by symbol, or by type. -/
def KLt (n : Nat) (t : Nat → Nat) (s : Nat → Bool) (x y : Nat) : Prop := TT n t x < TT n t y ∨ (TT n t x = TT n t y ∧ x < n ∧ s x = false ∧ s y = true)
def Dif (n : Nat) (t : Nat → Nat) (s : Nat → Bool) (d p q : Nat) : Prop := (∀ e, e < d → p + e < n ∧ q + e < n ∧ t (p + e) = t (q + e) ∧ s (p + e) = s (q + e)) ∧ KLt n t s (p + d) (q + d)

theorem Dif.shift {n : Nat} {t : Nat → Nat} {s : Nat → Bool} {d p q : Nat} (h : Dif n t s (d + 1) p q) : Dif n t s d (p + 1) (q + 1) := by
  refine ⟨fun e he => ?_, ?_⟩
  · have := h.1 (e + 1) (by omega)
    rw [show p + 1 + e = p + (e + 1) from by omega, show q + 1 + e = q + (e + 1) from by omega]
    exact this
  · have := h.2
    rw [show p + 1 + d = p + (d + 1) from by omega, show q + 1 + d = q + (d + 1) from by omega]
    exact this

/-- No LMS position strictly between. -/
def Clear (s : Nat → Bool) (d p : Nat) : Prop := ∀ e, 0 < e → e < d → lms s (p + e) = false

/-- The first places of the LMS positions are in the order of the suffixes. -/
def Sorted0 (n : Nat) (t : Nat → Nat) (s : Nat → Bool) (A0 : Nat → Int) : Prop := ∀ d p q j j' : Nat, j < n → j' < n → A0 j = (p : Int) → A0 j' = (q : Int) → Dif n t s d p q → j < j'

section
variable {n : Nat} {t : Nat → Nat} {s : Nat → Bool} {A0 AL A : Nat → Int} {k : Nat} {bk0 bk : Nat → Nat}

theorem KLt.lt {x y : Nat} (hx : x < n) (hy : y < n) (h : KLt n t s x y) : t x < t y ∨ (t x = t y ∧ s x = false ∧ s y = true) := by
  unfold KLt TT at h
  rw [if_pos hx, if_pos hy] at h
  rcases h with h | ⟨h1, _, h2⟩
  · exact .inl (by omega)
  · exact .inr ⟨by omega, h2⟩

/-- Behind the L pass: L-type and LMS positions in order. -/
theorem orderL (hT : Ty n t s) (hI : Ini n t s A0) (h0 : LI n t s A0 true n AL bk0) {ex : Bool} (hex : ex = true → Sorted0 n t s A0) :
    ∀ d p q j j' : Nat, j < n → j' < n → AL j = (p : Int) → AL j' = (q : Int) → Dif n t s d p q → (d = 0 ∨ ex = true ∨ (s p = false ∧ Clear s d p)) → j < j' := by
  have cellb : ∀ j p : Nat, j < n → AL j = (p : Int) → p < n ∧ Bk n t (t p) ≤ j ∧ j < Bk n t (t p + 1) ∧ (s p = false → j < Bk n t (t p) + Lc n t s (t p)) ∧ (s p = true → Bk n t (t p) + Lc n t s (t p) ≤ j) := fun j p hj e => by
    have hr := h0.rng j hj
    have hlc := Lc_le n t s (t p)
    by_cases hs : s p = true
    · have := hI.lms j p hj (h0.sS j p hj e hs)
      exact ⟨by omega, by omega, by omega, (fun h => by rw [hs] at h; cases h), fun _ => by omega⟩
    · have hs' : s p = false := by simpa using hs
      have := h0.sL j p hj e hs'
      rw [LI.full hT hI h0] at this
      exact ⟨by omega, by omega, by omega, fun _ => by omega, fun h => absurd h hs⟩
  intro d
  induction d with
  | zero =>
    intro p q j j' hj hj' e e' hD _
    obtain ⟨a1, a2, a3, a4, a5⟩ := cellb j p hj e
    obtain ⟨b1, b2, b3, b4, b5⟩ := cellb j' q hj' e'
    have := KLt.lt (by simpa using a1) (by simpa using b1) hD.2
    simp only [Nat.add_zero] at this
    rcases this with h1 | ⟨h1, h2, h3⟩
    · have := Bk_mono n t (show t p + 1 ≤ t q from h1); omega
    · have := a4 h2
      have := b5 h3
      rw [h1] at *
      omega
  | succ d ih =>
    intro p q j j' hj hj' e e' hD hc
    obtain ⟨a1, a2, a3, a4, a5⟩ := cellb j p hj e
    obtain ⟨b1, b2, b3, b4, b5⟩ := cellb j' q hj' e'
    obtain ⟨_, _, htt, hss⟩ := hD.1 0 (by omega)
    simp only [Nat.add_zero] at htt hss
    by_cases hs : s p = true
    · -- LMS positions: the first order
      rcases hc with hc | hc | hc
      · omega
      · exact hex hc (d + 1) p q j j' hj hj' (h0.sS j p hj e hs) (h0.sS j' q hj' e' (by rw [← hss]; exact hs)) hD
      · rw [hs] at hc; cases hc.1
    · have hs' : s p = false := by simpa using hs
      have hsq : s q = false := by rw [← hss]; exact hs'
      have hpq : p ≠ q := fun e => by
        subst e
        have := hD.2
        unfold KLt at this
        rcases this with h | ⟨_, _, h1, h2⟩
        · omega
        · rw [h1] at h2; cases h2
      rcases Nat.lt_trichotomy j j' with h | h | h
      · exact h
      · subst h; omega
      · exfalso
        have hsh := hD.shift
        have hq4 := b4 hsq
        have hp4 := a4 hs'
        have hf := LI.full hT hI h0 (t p)
        rcases h0.ord (t p) j' j (by rw [htt]; exact b2) h (by omega) with hh | ⟨a, a', g1, g2, g3, g4, g5⟩
        · -- q is the last position
          have hqn : q + 1 = n := by omega
          have hp1 : p + 1 < n := by omega
          rcases Nat.eq_zero_or_pos d with hd | hd
          · subst hd
            have := hsh.2
            unfold KLt TT at this
            simp only [Nat.add_zero] at this
            rw [if_pos hp1, if_neg (by omega)] at this
            omega
          · have := (hsh.1 0 hd).2.1
            omega
        · have := ih (p + 1) (q + 1) a' a g3 (by omega) (by rw [g5, e]; omega) (by rw [g4, e']; omega) hsh ?_
          · omega
          · rcases hc with hc | hc | ⟨_, hc⟩
            · omega
            · exact .inr (.inl hc)
            · rcases Nat.eq_zero_or_pos d with hd | hd
              · exact .inl hd
              · have h1 := hc 1 (by omega) (by omega)
                have hsp : s (p + 1) = false := by
                  rcases Bool.eq_false_or_eq_true (s (p + 1)) with h2 | h2
                  · rw [lms_succ hs' h2] at h1; cases h1
                  · exact h2
                exact .inr (.inr ⟨hsp, fun e h2 h3 => by
                  have := hc (e + 1) (by omega) (by omega)
                  rw [show p + 1 + e = p + (e + 1) from by omega]; exact this⟩)

/-- THE INDUCED ORDER. -/
theorem orderA (hT : Ty n t s) (hI : Ini n t s A0) (hk : ∀ x, x < n → t x < k) (h0 : LI n t s A0 true n AL bk0) (h : SP n t s AL 0 A bk) {ex : Bool} (hex : ex = true → Sorted0 n t s A0) :
    ∀ d p q j j' : Nat, j < n → j' < n → A j = (p : Int) → A j' = (q : Int) → Dif n t s d p q → (ex = true ∨ Clear s d p) → j < j' := by
  intro d
  induction d with
  | zero =>
    intro p q j j' hj hj' e e' hD _
    obtain ⟨p', a1, a2, a3, a4, a5⟩ := h.cell hk (Nat.zero_le j) hj
    obtain ⟨q', b1, b2, b3, b4, b5⟩ := h.cell hk (Nat.zero_le j') hj'
    have : p' = p := by omega
    subst this
    have : q' = q := by omega
    subst this
    have := KLt.lt (by simpa using a1) (by simpa using b1) hD.2
    simp only [Nat.add_zero] at this
    rcases this with h1 | ⟨h1, h2, h3⟩
    · have := Bk_mono n t (show t p' + 1 ≤ t q' from h1); omega
    · rcases a5 with ⟨_, a5⟩ | ⟨a5, _⟩
      · rcases b5 with ⟨b5, _⟩ | ⟨_, b5⟩
        · rw [h3] at b5; cases b5
        · have := (h.bkb (t q')).1
          rw [h1] at a5
          omega
      · rw [h2] at a5; cases a5
  | succ d ih =>
    intro p q j j' hj hj' e e' hD hc
    obtain ⟨p', a1, a2, a3, a4, a5⟩ := h.cell hk (Nat.zero_le j) hj
    obtain ⟨q', b1, b2, b3, b4, b5⟩ := h.cell hk (Nat.zero_le j') hj'
    have : p' = p := by omega
    subst this
    have : q' = q := by omega
    subst this
    obtain ⟨_, _, htt, hss⟩ := hD.1 0 (by omega)
    simp only [Nat.add_zero] at htt hss
    rcases a5 with ⟨a5, a6⟩ | ⟨a5, a6⟩
    · rcases b5 with ⟨b5, b6⟩ | ⟨b5, b6⟩
      · -- L-type
        exact orderL hT hI h0 hex (d + 1) p' q' j j' hj hj' (by rw [← h.lp _ j a3 a6]; exact e) (by rw [← h.lp _ j' b3 b6]; exact e') hD
          (hc.elim (fun h => .inr (.inl h)) (fun h => .inr (.inr ⟨a5, h⟩)))
      · rw [hss, b5] at a5; cases a5
    · rcases b5 with ⟨b5, b6⟩ | ⟨b5, b6⟩
      · rw [hss, b5] at a5; cases a5
      · have hpq : p' ≠ q' := fun e => by
          subst e
          have := hD.2
          unfold KLt at this
          rcases this with h | ⟨_, _, h1, h2⟩
          · omega
          · rw [h1] at h2; cases h2
        rcases Nat.lt_trichotomy j j' with h' | h' | h'
        · exact h'
        · subst h'; omega
        · exfalso
          obtain ⟨a, a', f1, f2, f3, f4, f5⟩ := h.ord (t p') j' j (by rw [htt]; exact b6) h' a4
          have := ih (p' + 1) (q' + 1) a' a f3 (by omega) (by rw [f5, e]; omega) (by rw [f4, e']; omega) hD.shift
            (hc.imp id (fun hc e h2 h3 => by
              have := hc (e + 1) (by omega) (by omega)
              rw [show p' + 1 + e = p' + (e + 1) from by omega]; exact this))
          omega

/-- What comes out is a permutation. -/
theorem permA (hT : Ty n t s) (hI : Ini n t s A0) (hk : ∀ x, x < n → t x < k) (h0 : LI n t s A0 true n AL bk0) (h : SP n t s AL 0 A bk) :
    (∀ j, j < n → ∃ p : Nat, p < n ∧ A j = (p : Int)) ∧ (∀ j j', j < n → j' < n → A j = A j' → j = j') ∧ ∀ p, p < n → ∃ j, j < n ∧ A j = (p : Int) := by
  refine ⟨fun j hj => ?_, fun j j' hj hj' e => h.inj' hk h0.inj (Nat.zero_le _) hj (Nat.zero_le _) hj' e, fun p hp => ?_⟩
  · obtain ⟨p, h1, h2, _⟩ := h.cell hk (Nat.zero_le j) hj
    exact ⟨p, h1, h2⟩
  · by_cases hs : s p = true
    · have hb := h.bkb (t p)
      have hfull : bk (t p) ≤ Bk n t (t p) + Lc n t s (t p) := by
        rcases Nat.lt_or_ge (Bk n t (t p) + Lc n t s (t p)) (bk (t p)) with hh | hh
        · have := h.prop (t p) (Bk n t (t p) + Lc n t s (t p)) (Nat.zero_le _) (Nat.le_refl _) (by omega)
          omega
        · exact hh
      obtain ⟨j, g1, g2, g3⟩ := h.allS hfull hp hs rfl
      have := Bk_le n t (t p + 1)
      exact ⟨j, by omega, g3⟩
    · obtain ⟨j, g1, g2, g3⟩ := SP.cellL hT hI h0 hp (by simpa using hs)
      have := Lc_le n t s (t p)
      have := Bk_le n t (t p + 1)
      exact ⟨j, by omega, by rw [h.lp _ j g1 g2]; exact g3⟩
end

end Go.Proofs.Qxb6602663a.Sa
