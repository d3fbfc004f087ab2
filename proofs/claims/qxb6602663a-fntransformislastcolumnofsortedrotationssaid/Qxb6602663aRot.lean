/-
  Plain mathematics of rotations: no Go in sight. 'g': a sequence of period n; the rotation at p is g p, g (p+1), .., g (p+n-1).
-/
namespace Go.Proofs.Qxb6602663a.Rot
set_option linter.unusedVariables false

def Lt (n : Nat) (g : Nat → Nat) (p q : Nat) : Prop := ∃ k, k < n ∧ (∀ d, d < k → g (p + d) = g (q + d)) ∧ g (p + k) < g (q + k)
def Same (n : Nat) (g : Nat → Nat) (p q : Nat) : Prop := ∀ d, d < n → g (p + d) = g (q + d)
/-- Not a least rotation. -/
def Bad (n : Nat) (g : Nat → Nat) (p : Nat) : Prop := ∃ q, Lt n g q p
def Per (n : Nat) (g : Nat → Nat) : Prop := ∀ x, g (x + n) = g x

theorem tri (n : Nat) (g : Nat → Nat) (p q : Nat) : Lt n g p q ∨ Same n g p q ∨ Lt n g q p := by
  induction n with
  | zero => exact .inr (.inl (fun d hd => by omega))
  | succ n ih =>
    rcases ih with ⟨k, hk, he, hl⟩ | hs | ⟨k, hk, he, hl⟩
    · exact .inl ⟨k, by omega, he, hl⟩
    · rcases Nat.lt_trichotomy (g (p + n)) (g (q + n)) with h | h | h
      · exact .inl ⟨n, by omega, hs, h⟩
      · refine .inr (.inl (fun d hd => ?_))
        rcases Nat.lt_or_ge d n with h' | h'
        · exact hs d h'
        · have : d = n := by omega
          subst this
          exact h
      · exact .inr (.inr ⟨n, by omega, fun d hd => (hs d hd).symm, h⟩)
    · exact .inr (.inr ⟨k, by omega, he, hl⟩)

theorem Lt.trans {n : Nat} {g : Nat → Nat} {p q r : Nat} (h : Lt n g p q) (h' : Lt n g q r) : Lt n g p r := by
  obtain ⟨k, hk, he, hl⟩ := h
  obtain ⟨k', hk', he', hl'⟩ := h'
  rcases Nat.lt_trichotomy k k' with h | h | h
  · exact ⟨k, hk, fun d hd => (he d hd).trans (he' d (by omega)), by rw [← he' k h]; exact hl⟩
  · subst h
    exact ⟨k, hk, fun d hd => (he d hd).trans (he' d hd), Nat.lt_trans hl hl'⟩
  · exact ⟨k', hk', fun d hd => (he d (by omega)).trans (he' d hd), by rw [he k' h]; exact hl'⟩

theorem Lt.irrefl {n : Nat} {g : Nat → Nat} {p : Nat} (h : Lt n g p p) : False := by
  obtain ⟨k, _, _, hl⟩ := h
  omega

theorem Lt.not_same {n : Nat} {g : Nat → Nat} {p q : Nat} (h : Lt n g p q) (h' : Same n g p q) : False := by
  obtain ⟨k, hk, _, hl⟩ := h
  have := h' k hk
  omega

theorem Lt.same_left {n : Nat} {g : Nat → Nat} {p p' q : Nat} (h : Lt n g p q) (hs : Same n g p p') : Lt n g p' q := by
  obtain ⟨k, hk, he, hl⟩ := h
  exact ⟨k, hk, fun d hd => (hs d (by omega)).symm.trans (he d hd), by rw [← hs k hk]; exact hl⟩

theorem Lt.same_right {n : Nat} {g : Nat → Nat} {p q q' : Nat} (h : Lt n g p q) (hs : Same n g q q') : Lt n g p q' := by
  obtain ⟨k, hk, he, hl⟩ := h
  exact ⟨k, hk, fun d hd => (he d hd).trans (hs d (by omega)), by rw [← hs k hk]; exact hl⟩

theorem Same.symm {n : Nat} {g : Nat → Nat} {p q : Nat} (h : Same n g p q) : Same n g q p := fun d hd => (h d hd).symm
theorem Same.trans {n : Nat} {g : Nat → Nat} {p q r : Nat} (h : Same n g p q) (h' : Same n g q r) : Same n g p r := fun d hd => (h d hd).trans (h' d hd)

theorem per_mul {n : Nat} {g : Nat → Nat} (hp : Per n g) (x t : Nat) : g (x + n * t) = g x := by
  induction t with
  | zero => simp
  | succ t ih => rw [Nat.mul_succ, ← Nat.add_assoc, hp, ih]

theorem per_mod {n : Nat} {g : Nat → Nat} (hp : Per n g) (q d : Nat) : g (q % n + d) = g (q + d) := by
  have h := per_mul hp (q % n + d) (q / n)
  rw [← h]
  congr 1
  have := Nat.mod_add_div q n
  omega

theorem same_mod {n : Nat} {g : Nat → Nat} (hp : Per n g) (q : Nat) : Same n g (q % n) q := fun d _ => per_mod hp q d

theorem least_below {n : Nat} {g : Nat → Nat} : ∀ t, 0 < t → ∃ m, m < t ∧ ∀ q, q < t → ¬ Lt n g q m
  | 0, h => absurd h (by omega)
  | 1, _ => ⟨0, by omega, fun q hq h => by
      have : q = 0 := by omega
      subst this
      exact h.irrefl⟩
  | t + 2, _ => by
    obtain ⟨m, hm, hq⟩ := least_below (n := n) (g := g) (t + 1) (by omega)
    by_cases hl : Lt n g (t + 1) m
    · refine ⟨t + 1, by omega, fun q hq' h => ?_⟩
      rcases Nat.lt_or_ge q (t + 1) with h' | h'
      · exact hq q h' (h.trans hl)
      · have : q = t + 1 := by omega
        subst this
        exact h.irrefl
    · refine ⟨m, by omega, fun q hq' h => ?_⟩
      rcases Nat.lt_or_ge q (t + 1) with h' | h'
      · exact hq q h' h
      · have : q = t + 1 := by omega
        subst this
        exact hl h

theorem exists_least {n : Nat} {g : Nat → Nat} (hp : Per n g) (hn : 0 < n) : ∃ m, m < n ∧ ¬ Bad n g m := by
  obtain ⟨m, hm, hq⟩ := least_below (n := n) (g := g) n hn
  refine ⟨m, hm, fun ⟨q, h⟩ => ?_⟩
  exact hq (q % n) (Nat.mod_lt _ hn) (h.same_left (same_mod hp q).symm)

theorem Bad.same {n : Nat} {g : Nat → Nat} {p q : Nat} (h : Bad n g p) (hs : Same n g p q) : Bad n g q := by
  obtain ⟨r, hr⟩ := h
  exact ⟨r, hr.same_right hs⟩

/-- Two least rotations are one as strings. -/
theorem same_of_least {n : Nat} {g : Nat → Nat} {p q : Nat} (hp : ¬ Bad n g p) (hq : ¬ Bad n g q) : Same n g p q := by
  rcases tri n g p q with h | h | h
  · exact absurd ⟨p, h⟩ hq
  · exact h
  · exact absurd ⟨q, h⟩ hp

structure Inv (n : Nat) (g : Nat → Nat) (i j k : Nat) : Prop where
  ne : i ≠ j
  bi : ∀ p, p < i → p ≠ j → Bad n g p
  bj : ∀ p, p < j → p ≠ i → Bad n g p
  eq : ∀ d, d < k → g (i + d) = g (j + d)
  lt : i < n ∨ j < n
  ile : i ≤ 2 * n
  jle : j ≤ 2 * n
  kle : k ≤ n

theorem Inv.start {n : Nat} {g : Nat → Nat} (hn : 0 < n) : Inv n g 0 1 0 :=
  ⟨by omega, fun p h _ => by omega, fun p h h' => by omega, fun d h => by omega, .inl hn, by omega, by omega, by omega⟩

theorem Inv.step_eq {n : Nat} {g : Nat → Nat} {i j k : Nat} (h : Inv n g i j k) (hk : k < n) (he : g (i + k) = g (j + k)) : Inv n g i j (k + 1) := by
  refine ⟨h.ne, h.bi, h.bj, fun d hd => ?_, h.lt, h.ile, h.jle, by omega⟩
  rcases Nat.lt_or_ge d k with h' | h'
  · exact h.eq d h'
  · have : d = k := by omega
    subst this
    exact he

/-- Every start up to where they differ is given up with the larger one. -/
theorem bad_run {n : Nat} {g : Nat → Nat} {i j k : Nat} (hk : k < n) (heq : ∀ d, d < k → g (i + d) = g (j + d)) (hl : g (j + k) < g (i + k)) (t : Nat) (ht : t ≤ k) : Bad n g (i + t) := by
  refine ⟨j + t, k - t, by omega, fun d hd => ?_, ?_⟩
  · have := heq (t + d) (by omega)
    rw [Nat.add_assoc, Nat.add_assoc]
    exact this.symm
  · rw [show j + t + (k - t) = j + k from by omega, show i + t + (k - t) = i + k from by omega]
    exact hl

theorem Inv.step_gt {n : Nat} {g : Nat → Nat} {i j k : Nat} (h : Inv n g i j k) (hi : i < n) (hj : j < n) (hk : k < n) (hl : g (j + k) < g (i + k)) (hne : i + (k + 1) ≠ j) : Inv n g (i + (k + 1)) j 0 := by
  have hb := bad_run hk h.eq hl
  have old : ∀ p, i ≤ p → p < i + (k + 1) → Bad n g p := fun p h1 h2 => by
    have := hb (p - i) (by omega)
    rwa [show i + (p - i) = p from by omega] at this
  refine ⟨hne, fun p h1 h2 => ?_, fun p h1 h2 => ?_, fun d hd => by omega, .inr hj, by omega, by omega, by omega⟩
  · rcases Nat.lt_or_ge p i with h' | h'
    · exact h.bi p h' h2
    · exact old p h' h1
  · by_cases e : p = i
    · subst e
      exact old p (Nat.le_refl _) (by omega)
    · exact h.bj p h1 e

theorem Inv.step_gt' {n : Nat} {g : Nat → Nat} {i j k : Nat} (h : Inv n g i j k) (hi : i < n) (hj : j < n) (hk : k < n) (hl : g (j + k) < g (i + k)) (he : i + (k + 1) = j) : Inv n g (i + (k + 1)) (j + 1) 0 := by
  have hb := bad_run hk h.eq hl
  have old : ∀ p, i ≤ p → p < i + (k + 1) → Bad n g p := fun p h1 h2 => by
    have := hb (p - i) (by omega)
    rwa [show i + (p - i) = p from by omega] at this
  refine ⟨by omega, fun p h1 h2 => ?_, fun p h1 h2 => ?_, fun d hd => by omega, .inl (by omega), by omega, by omega, by omega⟩
  · rcases Nat.lt_or_ge p i with h' | h'
    · exact h.bi p h' (by omega)
    · exact old p h' h1
  · rcases Nat.lt_or_ge p i with h' | h'
    · exact h.bi p h' (by omega)
    · exact old p h' (by omega)

theorem Inv.swap {n : Nat} {g : Nat → Nat} {i j k : Nat} (h : Inv n g i j k) : Inv n g j i k :=
  ⟨fun e => h.ne e.symm, h.bj, h.bi, fun d hd => (h.eq d hd).symm, h.lt.symm, h.jle, h.ile, h.kle⟩

theorem Inv.step_lt {n : Nat} {g : Nat → Nat} {i j k : Nat} (h : Inv n g i j k) (hi : i < n) (hj : j < n) (hk : k < n) (hl : g (i + k) < g (j + k)) (hne : i ≠ j + (k + 1)) : Inv n g i (j + (k + 1)) 0 :=
  (h.swap.step_gt hj hi hk hl (fun e => hne e.symm)).swap

theorem Inv.step_lt' {n : Nat} {g : Nat → Nat} {i j k : Nat} (h : Inv n g i j k) (hi : i < n) (hj : j < n) (hk : k < n) (hl : g (i + k) < g (j + k)) (he : i = j + (k + 1)) : Inv n g i (j + (k + 1) + 1) 0 := by
  have h1 := h.swap.step_gt' hj hi hk hl he.symm
  have h2 := h1.swap
  -- 'h2' : at (i + 1, j + (k+1)); the two are taken in the other order
  refine ⟨by omega, fun p hp hne => ?_, fun p hp hne => ?_, fun d hd => by omega, .inl hi, by omega, by omega, by omega⟩
  · exact h2.bj p (by omega) (by omega)
  · exact h2.bj p (by omega) (by omega)

/-- What leastRotation answers. -/
def First (n : Nat) (g : Nat → Nat) (r : Nat) : Prop := r < n ∧ ¬ Bad n g r ∧ ∀ p, p < r → Bad n g p

theorem per_of_same {n : Nat} {g : Nat → Nat} (hp : Per n g) (hn : 0 < n) {i j : Nat} (hij : i ≤ j) (hs : Same n g i j) (x : Nat) : g (i + x) = g (j + x) := by
  have h1 := hs (x % n) (Nat.mod_lt _ hn)
  have e1 : g (i + x % n) = g (i + x) := by
    have := per_mod hp x i
    rw [Nat.add_comm i, Nat.add_comm i]
    exact this
  have e2 : g (j + x % n) = g (j + x) := by
    have := per_mod hp x j
    rw [Nat.add_comm j, Nat.add_comm j]
    exact this
  rw [← e1, ← e2]
  exact h1

theorem first_of_same {n : Nat} {g : Nat → Nat} (hp : Per n g) (hn : 0 < n) {i j : Nat} (hij : i < j) (hj : j < n) (hs : Same n g i j) (hb : ∀ p, p < j → p ≠ i → Bad n g p) : First n g i := by
  refine ⟨by omega, ?_, fun p h => hb p (by omega) (by omega)⟩
  obtain ⟨m, hm, hl⟩ := exists_least hp hn
  have step : ∀ t x, g (i + (j - i) * t + x) = g (i + x) := by
    intro t
    induction t with
    | zero => intro x; simp
    | succ t ih =>
      intro x
      have h1 := per_of_same hp hn (by omega) hs ((j - i) * t + x)
      rw [show i + (j - i) * (t + 1) + x = j + ((j - i) * t + x) from by rw [Nat.mul_succ]; omega, ← h1, ← Nat.add_assoc]
      exact ih x
  have hmi : i ≤ m := by
    rcases Nat.lt_or_ge m i with h | h
    · exact absurd (hb m (by omega) (by omega)) hl
    · exact h
  have hd : 0 < j - i := by omega
  have hmod := Nat.mod_lt (m - i) hd
  have hdiv := Nat.mod_add_div (m - i) (j - i)
  have hsame : Same n g m (i + (m - i) % (j - i)) := by
    intro d _
    have := step ((m - i) / (j - i)) ((m - i) % (j - i) + d)
    rw [show i + (j - i) * ((m - i) / (j - i)) + ((m - i) % (j - i) + d) = m + d from by omega] at this
    rw [this, Nat.add_assoc]
  by_cases e : (m - i) % (j - i) = 0
  · rw [e] at hsame
    intro hbad
    exact hl (hbad.same hsame.symm)
  · exact absurd ((hb (i + (m - i) % (j - i)) (by omega) (by omega)).same hsame.symm) hl

theorem Inv.done {n : Nat} {g : Nat → Nat} (hp : Per n g) (hn : 0 < n) {i j k : Nat} (h : Inv n g i j k) (hx : ¬ (i < n ∧ j < n ∧ k < n)) : First n g (min i j) := by
  by_cases hi : i < n
  · by_cases hj : j < n
    · have hk : k = n := by have := h.kle; omega
      subst hk
      rcases Nat.lt_or_gt_of_ne h.ne with hlt | hlt
      · rw [show min i j = i from by omega]
        exact first_of_same hp hn hlt hj h.eq h.bj
      · rw [show min i j = j from by omega]
        exact first_of_same hp hn hlt hi (fun d hd => (h.eq d hd).symm) h.bi
    · rw [show min i j = i from by omega]
      refine ⟨hi, fun hb => ?_, fun p hp' => h.bi p hp' (by omega)⟩
      obtain ⟨m, hm, hl⟩ := exists_least hp hn
      by_cases e : m = i
      · subst e; exact hl hb
      · exact hl (h.bj m (by omega) e)
  · have hj : j < n := by have := h.lt; omega
    rw [show min i j = j from by omega]
    refine ⟨hj, fun hb => ?_, fun p hp' => h.bj p hp' (by omega)⟩
    obtain ⟨m, hm, hl⟩ := exists_least hp hn
    by_cases e : m = j
    · subst e; exact hl hb
    · exact hl (h.bi m (by omega) e)

theorem First.unique {n : Nat} {g : Nat → Nat} {r r' : Nat} (h : First n g r) (h' : First n g r') : r = r' := by
  rcases Nat.lt_trichotomy r r' with hl | hl | hl
  · exact absurd (h'.2.2 r hl) h.2.1
  · exact hl
  · exact absurd (h.2.2 r' hl) h'.2.1

/-! ### the law's own search -/
/-- 'want' is the first least among the starts below q. -/
def FirstBelow (n : Nat) (g : Nat → Nat) (q r : Nat) : Prop := r < q ∧ (∀ p, p < q → ¬ Lt n g p r) ∧ ∀ p, p < r → Lt n g r p

theorem FirstBelow.start {n : Nat} {g : Nat → Nat} : FirstBelow n g 1 0 :=
  ⟨by omega, fun p hp h => by
    have : p = 0 := by omega
    subst this
    exact h.irrefl, fun p hp => by omega⟩

theorem FirstBelow.take {n : Nat} {g : Nat → Nat} {q r : Nat} (h : FirstBelow n g q r) (hl : Lt n g q r) : FirstBelow n g (q + 1) q := by
  refine ⟨by omega, fun p hp h' => ?_, fun p hp => ?_⟩
  · rcases Nat.lt_or_ge p q with h1 | h1
    · exact h.2.1 p h1 (h'.trans hl)
    · have : p = q := by omega
      subst this
      exact h'.irrefl
  · by_cases e : p = r
    · subst e; exact hl
    · rcases tri n g q p with h1 | h1 | h1
      · exact h1
      · exact absurd (hl.same_left h1) (h.2.1 p hp)
      · exact absurd (h1.trans hl) (h.2.1 p hp)

theorem FirstBelow.leave {n : Nat} {g : Nat → Nat} {q r : Nat} (h : FirstBelow n g q r) (hl : ¬ Lt n g q r) : FirstBelow n g (q + 1) r := by
  refine ⟨by have := h.1; omega, fun p hp h' => ?_, h.2.2⟩
  rcases Nat.lt_or_ge p q with h1 | h1
  · exact h.2.1 p h1 h'
  · have : p = q := by omega
    subst this
    exact hl h'

theorem FirstBelow.first {n : Nat} {g : Nat → Nat} (hp : Per n g) (hn : 0 < n) {r : Nat} (h : FirstBelow n g n r) : First n g r :=
  ⟨h.1, fun ⟨q, hq⟩ => h.2.1 (q % n) (Nat.mod_lt _ hn) (hq.same_left (same_mod hp q).symm), fun p hpr => ⟨r, h.2.2 p hpr⟩⟩

/-! ### a rotated string -/
theorem shift_lt {n : Nat} {g : Nat → Nat} (t p q : Nat) : Lt n (fun x => g (x + t)) p q ↔ Lt n g (p + t) (q + t) := by
  constructor
  · rintro ⟨k, hk, he, hl⟩
    refine ⟨k, hk, fun d hd => ?_, ?_⟩
    · have := he d hd
      simp only at this
      rw [show p + t + d = p + d + t from by omega, show q + t + d = q + d + t from by omega]
      exact this
    · simp only at hl
      rw [show p + t + k = p + k + t from by omega, show q + t + k = q + k + t from by omega]
      exact hl
  · rintro ⟨k, hk, he, hl⟩
    refine ⟨k, hk, fun d hd => ?_, ?_⟩
    · have := he d hd
      rw [show p + t + d = p + d + t from by omega, show q + t + d = q + d + t from by omega] at this
      exact this
    · rw [show p + t + k = p + k + t from by omega, show q + t + k = q + k + t from by omega] at hl
      exact hl

theorem shift_least {n : Nat} {g : Nat → Nat} (hp : Per n g) (hn : 0 < n) {t r : Nat} (h : ¬ Bad n (fun x => g (x + t)) r) : ¬ Bad n g (r + t) := by
  rintro ⟨q, hq⟩
  -- q is brought to the form q' + t
  have hs : Same n g q (q + n * t - t + t) := by
    intro d _
    have hle : t ≤ q + n * t := by
      have : t ≤ n * t := Nat.le_mul_of_pos_left t hn
      omega
    rw [show q + n * t - t + t + d = q + d + n * t from by omega, per_mul hp]
  exact h ⟨q + n * t - t, (shift_lt t _ _).2 (hq.same_left hs)⟩

theorem shift_per {n : Nat} {g : Nat → Nat} (hp : Per n g) (t : Nat) : Per n (fun x => g (x + t)) := by
  intro x
  show g (x + n + t) = g (x + t)
  rw [show x + n + t = x + t + n from by omega]
  exact hp _

/-- A string that is its own least rotation has it at 0. -/
theorem first_zero {n : Nat} {g : Nat → Nat} (hp : Per n g) (hn : 0 < n) {r r' : Nat} (h : ¬ Bad n g r) (h' : First n (fun x => g (x + r)) r') : r' = 0 := by
  rcases Nat.eq_zero_or_pos r' with e | e
  · exact e
  · obtain ⟨q, hq⟩ := h'.2.2 0 e
    have := (shift_lt r q 0).1 hq
    rw [Nat.zero_add] at this
    exact absurd ⟨_, this⟩ h

end Go.Proofs.Qxb6602663a.Rot
