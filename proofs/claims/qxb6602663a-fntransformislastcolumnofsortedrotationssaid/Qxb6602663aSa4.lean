/-
  Plain mathematics of induced sorting: laying the LMS positions, gathering them, their ranks.
-/
import Derived.Test.Qxb6602663aSa3
namespace Go.Proofs.Qxb6602663a.Sa
open Go.Proofs.Qxb6602663a.Sym (cnt cnt_congr cnt_le cnt_lt cnt_change cnt_or)
set_option linter.unusedVariables false

theorem cnt_none {P : Nat → Bool} : ∀ n, (∀ i, i < n → P i = false) → cnt P n = 0
  | 0, _ => rfl
  | n + 1, h => by simp only [cnt]; rw [cnt_none n (fun i hi => h i (by omega)), h n (by omega)]; rfl

theorem cnt_succ (P : Nat → Bool) (n : Nat) : cnt P (n + 1) = cnt P n + (if P n then 1 else 0) := by
  simp only [cnt] <;> split <;> simp_all

theorem cnt_mono {P : Nat → Bool} {a : Nat} : ∀ d, cnt P a ≤ cnt P (a + d)
  | 0 => Nat.le_refl _
  | d + 1 => by
    have := cnt_mono (P := P) (a := a) d
    rw [show a + (d + 1) = a + d + 1 from by omega, cnt_succ]; omega
theorem cnt_le_of {P : Nat → Bool} {a b : Nat} (h : a ≤ b) : cnt P a ≤ cnt P b := by
  have := cnt_mono (P := P) (a := a) (b - a)
  rw [show a + (b - a) = b from by omega] at this; exact this
theorem cnt_rank {P : Nat → Bool} {a b : Nat} (h : a < b) (hP : P a = true) : cnt P a < cnt P b := by
  have h1 := cnt_le_of (P := P) (show a + 1 ≤ b from h)
  rw [cnt_succ, if_pos hP] at h1; omega
theorem cnt_rank_inj {P : Nat → Bool} {a b : Nat} (ha : P a = true) (hb : P b = true) (h : cnt P a = cnt P b) : a = b := by
  rcases Nat.lt_trichotomy a b with h1 | h1 | h1
  · have := cnt_rank h1 ha; omega
  · exact h1
  · have := cnt_rank h1 hb; omega
theorem cnt_onto {P : Nat → Bool} : ∀ n x, x < cnt P n → ∃ y, y < n ∧ P y = true ∧ cnt P y = x
  | 0, x, h => by simp [cnt] at h
  | n + 1, x, h => by
    rw [cnt_succ] at h
    rcases Nat.lt_or_ge x (cnt P n) with h1 | h1
    · obtain ⟨y, h2, h3⟩ := cnt_onto n x h1
      exact ⟨y, by omega, h3⟩
    · by_cases hp : P n = true
      · rw [if_pos hp] at h
        exact ⟨n, by omega, hp, by omega⟩
      · rw [if_neg hp] at h; omega
/-- The x-th place where P holds. -/
theorem cnt_sel (P : Nat → Bool) (n : Nat) : ∃ L : Nat → Nat, ∀ x, x < cnt P n → L x < n ∧ P (L x) = true ∧ cnt P (L x) = x := by
  have : ∀ x, ∃ y, x < cnt P n → y < n ∧ P y = true ∧ cnt P y = x := fun x => by
    by_cases h : x < cnt P n
    · obtain ⟨y, hy⟩ := cnt_onto n x h
      exact ⟨y, fun _ => hy⟩
    · exact ⟨0, fun h' => absurd h' h⟩
  exact Classical.axiomOfChoice this

section
variable {n : Nat} {t : Nat → Nat} {s : Nat → Bool}

/-! ### LMS positions are two apart -/
theorem lms_half : ∀ x, 2 * cnt (lms s) x ≤ x
  | 0 => by simp [cnt]
  | 1 => by simp [cnt, lms]
  | x + 2 => by
    have h1 := lms_half x
    have h2 := lms_half (x + 1)
    rw [cnt_succ]
    by_cases h : lms s (x + 1) = true
    · rw [if_pos h]
      rw [lms_iff] at h
      have h3 : lms s x = false := by
        cases h4 : lms s x with
        | false => rfl
        | true => rw [lms_iff] at h4; simp at h; rw [h.2] at h4; simp at h4
      rw [cnt_succ, h3]
      simp
      omega
    · rw [if_neg h]; omega

theorem lms_last (hT : Ty n t s) {p : Nat} (hp : p < n) (h : lms s p = true) : p + 1 < n := by
  rw [lms_iff] at h
  exact (hT.le_of_S hp h.2.1).1

theorem lms_count (hT : Ty n t s) : 2 * cnt (lms s) n ≤ n - 1 := by
  rcases Nat.eq_zero_or_pos n with h | h
  · subst h; simp [cnt]
  · have h1 := lms_half (s := s) (n - 1)
    have h2 : cnt (lms s) n = cnt (lms s) (n - 1) := by
      rw [show n = n - 1 + 1 from by omega, cnt_succ]
      simp only [Nat.add_sub_cancel]
      cases h4 : lms s (n - 1) with
      | false => simp
      | true => have := lms_last hT (by omega) h4; omega
    rw [h2]; exact h1

theorem lms_apart {p q : Nat} (hp : lms s p = true) (hq : lms s q = true) (h : p / 2 = q / 2) : p = q := by
  rw [lms_iff] at hp hq
  rcases Nat.lt_trichotomy p q with h1 | h1 | h1
  · have : q - 1 = p := by omega
    rw [this, hp.2.1] at hq; simp at hq
  · exact h1
  · have : p - 1 = q := by omega
    rw [this, hq.2.1] at hp; simp at hp

/-! ### laying at the ends of the buckets -/
structure PI (n : Nat) (t : Nat → Nat) (s : Nat → Bool) (P : Nat → Bool) (ix : Nat → Nat) (i : Nat) (A : Nat → Int) (bk : Nat → Nat) : Prop where
  sub : ∀ p, p < n → P p = true → lms s p = true
  bkc : ∀ c, bk c + cnt (fun p => P p && decide (t p = c)) n = Bk n t (c + 1)
  fil : ∀ c j, bk c ≤ j → j < Bk n t (c + 1) → ∃ p : Nat, p < n ∧ A j = (p : Int) ∧ P p = true ∧ t p = c
  all : ∀ p, p < n → P p = true → ∃ j, bk (t p) ≤ j ∧ j < Bk n t (t p + 1) ∧ A j = (p : Int)
  ord : ∀ c j j', bk c ≤ j → j < j' → j' < Bk n t (c + 1) → ∀ p q : Nat, A j = (p : Int) → A j' = (q : Int) → ix p < ix q
  low : ∀ c j, bk c ≤ j → j < Bk n t (c + 1) → i ≤ j
  emp : ∀ j, i ≤ j → j < n → (∀ c, ¬ (bk c ≤ j ∧ j < Bk n t (c + 1))) → A j = -1

variable {P : Nat → Bool} {ix : Nat → Nat} {i : Nat} {A : Nat → Int} {bk : Nat → Nat}

theorem PI.start (hP : ∀ p, p < n → P p = false) (hA : ∀ j, i ≤ j → j < n → A j = -1) : PI n t s P ix i A (fun c => Bk n t (c + 1)) := by
  refine ⟨fun p hp h => ?_, fun c => ?_, fun c j h1 h2 => by omega, fun p hp h => ?_, fun c j j' h1 h2 h3 => by omega, fun c j h1 h2 => by omega, fun j h1 h2 _ => hA j h1 h2⟩
  · rw [hP p hp] at h; cases h
  · show Bk n t (c + 1) + _ = _
    rw [cnt_none n (fun p hp => by rw [hP p hp]; rfl)]; rfl
  · rw [hP p hp] at h; cases h

theorem PI.S (h : PI n t s P ix i A bk) (c : Nat) : Bk n t c + Lc n t s c ≤ bk c ∧ bk c ≤ Bk n t (c + 1) := by
  have h1 := h.bkc c
  have h2 : cnt (fun p => P p && decide (t p = c)) n ≤ Sc n t s c := cnt_le n (fun p hp hh => by
    simp at hh
    have := h.sub p hp hh.1
    rw [lms_iff] at this
    simp [hh.2, this.2.1])
  have := Bk_succ n t s c
  omega

theorem PI.room (h : PI n t s P ix i A bk) {p : Nat} (hp : p < n) (hl : lms s p = true) (hn : P p = false) : Bk n t (t p) + Lc n t s (t p) < bk (t p) := by
  have h1 := h.bkc (t p)
  have h2 : cnt (fun x => P x && decide (t x = t p)) n < Sc n t s (t p) := cnt_lt n (fun x hx hh => by
    simp at hh
    have := h.sub x hx hh.1
    rw [lms_iff] at this
    simp [hh.2, this.2.1]) p hp (by rw [lms_iff] at hl; simp [hl.2.1]) (by simp [hn])
  have := Bk_succ n t s (t p)
  omega

theorem PI.push (h : PI n t s P ix i A bk) {p : Nat} (hp : p < n) (hl : lms s p = true) (hn : P p = false) (hix : ∀ q, q < n → P q = true → t q = t p → ix p < ix q) (hlow : i + 1 ≤ bk (t p)) {P' : Nat → Bool} (hP' : ∀ q, q < n → (P' q = true ↔ P q = true ∨ q = p)) :
    PI n t s P' ix i (updF A (bk (t p) - 1) (p : Int)) (updF bk (t p) (bk (t p) - 1)) := by
  have hroom := h.room hp hl hn
  have hS := h.S (t p)
  -- the new cell lies in no laid part
  have hne : ∀ c j, bk c ≤ j → j < Bk n t (c + 1) → j ≠ bk (t p) - 1 := fun c j h1 h2 e => by
    have h3 := h.S c
    have : c = t p := bucket_unique n t (j := j) (by omega) h2 (by omega) (by omega)
    subst this; omega
  have hbk : ∀ c j, updF bk (t p) (bk (t p) - 1) c ≤ j → j < Bk n t (c + 1) → (c = t p ∧ j = bk (t p) - 1) ∨ (bk c ≤ j ∧ j ≠ bk (t p) - 1) := fun c j h1 h2 => by
    by_cases hc : c = t p
    · subst hc
      rw [updF_same] at h1
      rcases Nat.lt_or_ge j (bk (t p)) with h3 | h3
      · exact .inl ⟨rfl, by omega⟩
      · exact .inr ⟨h3, by omega⟩
    · rw [updF_ne _ _ hc] at h1
      exact .inr ⟨h1, hne c j h1 h2⟩
  have hle : ∀ c, updF bk (t p) (bk (t p) - 1) c ≤ bk c := fun c => by
    by_cases hc : c = t p
    · subst hc; rw [updF_same]; omega
    · rw [updF_ne _ _ hc]; omega
  refine ⟨fun q hq hh => ?_, fun c => ?_, fun c j h1 h2 => ?_, fun q hq hh => ?_, fun c j j' h1 h2 h3 q r e e' => ?_, fun c j h1 h2 => ?_, fun j h1 h2 h3 => ?_⟩
  · rcases (hP' q hq).1 hh with hh | hh
    · exact h.sub q hq hh
    · subst hh; exact hl
  · have hb := h.bkc c
    by_cases hc : c = t p
    · subst hc
      have := cnt_change (P := fun x => P x && decide (t x = t p)) (Q := fun x => P' x && decide (t x = t p)) (x := p) n hp (fun x hx hne => by
        rw [Bool.eq_iff_iff]; simp [hP' x hx, hne])
      simp [hn, (hP' p hp).2 (.inr rfl)] at this
      rw [updF_same]
      omega
    · rw [updF_ne _ _ hc, ← hb]
      congr 1
      refine cnt_congr n (fun x hx => ?_)
      rw [Bool.eq_iff_iff]
      simp only [Bool.and_eq_true, decide_eq_true_eq, hP' x hx]
      constructor
      · rintro ⟨h1 | h1, h2⟩
        · exact ⟨h1, h2⟩
        · subst h1; exact absurd h2.symm hc
      · rintro ⟨h1, h2⟩; exact ⟨.inl h1, h2⟩
  · rcases hbk c j h1 h2 with ⟨hc, hj⟩ | ⟨hc, hj⟩
    · subst hc; subst hj
      exact ⟨p, hp, updF_same _ _ _, (hP' p hp).2 (.inr rfl), rfl⟩
    · obtain ⟨q, g1, g2, g3, g4⟩ := h.fil c j hc h2
      exact ⟨q, g1, by rw [updF_ne _ _ hj]; exact g2, (hP' q g1).2 (.inl g3), g4⟩
  · rcases (hP' q hq).1 hh with hh | hh
    · obtain ⟨j, g1, g2, g3⟩ := h.all q hq hh
      exact ⟨j, by have := hle (t q); omega, g2, by rw [updF_ne _ _ (hne _ j g1 g2)]; exact g3⟩
    · subst hh
      exact ⟨bk (t q) - 1, by rw [updF_same]; omega, by omega, updF_same _ _ _⟩
  · rcases hbk c j h1 (by omega) with ⟨hc, hj⟩ | ⟨hc, hj⟩
    · subst hc; subst hj
      rw [updF_same] at e
      have : q = p := by omega
      subst this
      obtain ⟨r', g1, g2, g3, g4⟩ := h.fil (t q) j' (by omega) h3
      rw [updF_ne _ _ (by omega), g2] at e'
      have : r' = r := by omega
      subst this
      exact hix r' g1 g3 g4
    · rw [updF_ne _ _ hj] at e
      rw [updF_ne _ _ (hne c j' (by omega) h3)] at e'
      exact h.ord c j j' hc h2 h3 q r e e'
  · rcases hbk c j h1 h2 with ⟨hc, hj⟩ | ⟨hc, hj⟩
    · omega
    · exact h.low c j hc h2
  · have : j ≠ bk (t p) - 1 := fun e => h3 (t p) ⟨by rw [updF_same]; omega, by omega⟩
    rw [updF_ne _ _ this]
    exact h.emp j h1 h2 (fun c ⟨g1, g2⟩ => h3 c ⟨by have := hle c; omega, g2⟩)

/-- A cell below those laid is cleared. -/
theorem PI.down (h : PI n t s P ix (i + 1) A bk) : PI n t s P ix i (updF A i (-1)) bk := by
  have hne : ∀ c j, bk c ≤ j → j < Bk n t (c + 1) → j ≠ i := fun c j h1 h2 => by have := h.low c j h1 h2; omega
  refine ⟨h.sub, h.bkc, fun c j h1 h2 => ?_, fun p hp hh => ?_, fun c j j' h1 h2 h3 q r e e' => ?_, fun c j h1 h2 => ?_, fun j h1 h2 h3 => ?_⟩
  · rw [updF_ne _ _ (hne c j h1 h2)]; exact h.fil c j h1 h2
  · obtain ⟨j, g1, g2, g3⟩ := h.all p hp hh
    exact ⟨j, g1, g2, by rw [updF_ne _ _ (hne _ j g1 g2)]; exact g3⟩
  · rw [updF_ne _ _ (hne c j h1 (by omega))] at e
    rw [updF_ne _ _ (hne c j' (by omega) h3)] at e'
    exact h.ord c j j' h1 h2 h3 q r e e'
  · have := h.low c j h1 h2; omega
  · by_cases hj : j = i
    · subst hj; exact updF_same _ _ _
    · rw [updF_ne _ _ hj]; exact h.emp j (by omega) h2 h3

theorem PI.ini (h : PI n t s P ix 0 A bk) (hP : ∀ p, p < n → lms s p = true → P p = true) : Ini n t s A := by
  have hcell : ∀ j, j < n → A j = -1 ∨ ∃ c, bk c ≤ j ∧ j < Bk n t (c + 1) := fun j hj => by
    by_cases hx : ∃ c, bk c ≤ j ∧ j < Bk n t (c + 1)
    · exact .inr hx
    · exact .inl (h.emp j (Nat.zero_le _) hj (fun c hc => hx ⟨c, hc⟩))
  have hfil : ∀ j p : Nat, j < n → A j = (p : Int) → p < n ∧ P p = true ∧ bk (t p) ≤ j ∧ j < Bk n t (t p + 1) := fun j p hj e => by
    rcases hcell j hj with h1 | ⟨c, h1, h2⟩
    · omega
    · obtain ⟨q, g1, g2, g3, g4⟩ := h.fil c j h1 h2
      have : q = p := by omega
      subst this
      subst g4
      exact ⟨g1, g3, h1, h2⟩
  refine ⟨fun j hj => ?_, fun j p hj e => ?_, fun j j' hj hj' h0 e => ?_, fun p hp hl => ?_⟩
  · rcases hcell j hj with h1 | ⟨c, h1, h2⟩
    · omega
    · obtain ⟨q, g1, g2, _⟩ := h.fil c j h1 h2
      omega
  · obtain ⟨h1, h2, h3, h4⟩ := hfil j p hj e
    have := (h.S (t p)).1
    exact ⟨h.sub p h1 h2, by omega, h4⟩
  · obtain ⟨p, hp⟩ : ∃ p : Nat, A j = (p : Int) := ⟨(A j).toNat, by omega⟩
    obtain ⟨h1, h2, h3, h4⟩ := hfil j p hj hp
    obtain ⟨g1, g2, g3, g4⟩ := hfil j' p hj' (by omega)
    rcases Nat.lt_trichotomy j j' with h5 | h5 | h5
    · have := h.ord (t p) j j' h3 h5 g4 p p hp (by omega); omega
    · exact h5
    · have := h.ord (t p) j' j g3 h5 h4 p p (by omega) hp; omega
  · obtain ⟨j, h1, h2, h3⟩ := h.all p hp (hP p hp hl)
    have := Bk_le n t (t p + 1)
    exact ⟨j, by omega, h3⟩

theorem Dif.le {p q d : Nat} (h : Dif n t s d p q) (hp : p < n) (hq : q < n) : t p ≤ t q := by
  rcases Nat.eq_zero_or_pos d with hd | hd
  · subst hd
    rcases KLt.lt (by simpa using hp) (by simpa using hq) h.2 with h1 | h1
    · simp only [Nat.add_zero] at h1; omega
    · simp only [Nat.add_zero] at h1; omega
  · have := (h.1 0 hd).2.2.1
    simp only [Nat.add_zero] at this
    omega

theorem PI.sorted (h : PI n t s P ix 0 A bk) (hix : ∀ d p q : Nat, p < n → q < n → lms s p = true → lms s q = true → Dif n t s d p q → ix p < ix q) : Sorted0 n t s A := by
  have hfil : ∀ j p : Nat, j < n → A j = (p : Int) → p < n ∧ P p = true ∧ bk (t p) ≤ j ∧ j < Bk n t (t p + 1) := fun j p hj e => by
    by_cases hx : ∃ c, bk c ≤ j ∧ j < Bk n t (c + 1)
    · obtain ⟨c, h1, h2⟩ := hx
      obtain ⟨q, g1, g2, g3, g4⟩ := h.fil c j h1 h2
      have : q = p := by omega
      subst this
      subst g4
      exact ⟨g1, g3, h1, h2⟩
    · have := h.emp j (Nat.zero_le _) hj (fun c hc => hx ⟨c, hc⟩)
      omega
  intro d p q j j' hj hj' e e' hD
  obtain ⟨h1, h2, h3, h4⟩ := hfil j p hj e
  obtain ⟨g1, g2, g3, g4⟩ := hfil j' q hj' e'
  have hle := hD.le h1 g1
  rcases Nat.lt_or_ge (t p) (t q) with h5 | h5
  · have := Bk_mono n t (show t p + 1 ≤ t q from h5)
    have := (h.S (t q)).1
    omega
  · have ht : t p = t q := by omega
    have hx := hix d p q h1 g1 (h.sub p h1 h2) (h.sub q g1 g2) hD
    rcases Nat.lt_trichotomy j j' with h6 | h6 | h6
    · exact h6
    · subst h6
      have : p = q := by omega
      exact absurd this hD.ne
    · have := h.ord (t q) j' j g3 h6 (by rw [← ht]; exact h4) q p e' e
      omega

/-! ### gathering -/
/-- The first sort's LMS positions, gathered. -/
theorem gat_of {A0 AL : Nat → Int} {k : Nat} {bk0 : Nat → Nat} (hT : Ty n t s) (hI : Ini n t s A0) (hk : ∀ x, x < n → t x < k) (h0 : LI n t s A0 true n AL bk0) (h : SP n t s AL 0 A bk)
    {F : Nat → Bool} (hF : ∀ j p : Nat, j < n → A j = (p : Int) → F j = lms s p) {g : Nat → Nat} (hg : ∀ y, y < n → F y = true → A y = ((g (cnt F y) : Nat) : Int)) : Gat n t s (cnt F n) g ∧ cnt F n = cnt (lms s) n := by
  obtain ⟨p1, p2, p3⟩ := permA hT hI hk h0 h
  have hon := cnt_onto (P := F) n
  have hG : Gat n t s (cnt F n) g := by
    refine ⟨fun j hj => ?_, fun j j' hj hj' e => ?_, fun p hp hl => ?_, fun j j' hj hj' hl => ?_⟩
    · obtain ⟨y, h1, h2, h3⟩ := hon j hj
      obtain ⟨p, h4, h5⟩ := p1 y h1
      have h6 := hg y h1 h2
      rw [h3] at h6
      have : g j = p := by omega
      rw [this, ← hF y p h1 h5]
      exact ⟨h4, h2⟩
    · obtain ⟨y, h1, h2, h3⟩ := hon j hj
      obtain ⟨y', h1', h2', h3'⟩ := hon j' hj'
      have h6 := hg y h1 h2
      have h6' := hg y' h1' h2'
      rw [h3] at h6
      rw [h3'] at h6'
      have := p2 y y' h1 h1' (by omega)
      subst this
      omega
    · obtain ⟨y, h1, h2⟩ := p3 p hp
      have h3 : F y = true := by rw [hF y p h1 h2]; exact hl
      have h4 := hg y h1 h3
      exact ⟨cnt F y, cnt_rank h1 h3, by omega⟩
    · obtain ⟨y, h1, h2, h3⟩ := hon j hj
      obtain ⟨y', h1', h2', h3'⟩ := hon j' hj'
      have h6 := hg y h1 h2
      have h6' := hg y' h1' h2'
      rw [h3] at h6
      rw [h3'] at h6'
      obtain ⟨d, hd, hc⟩ := hl
      have := orderA hT hI hk h0 h (ex := false) (fun h => by cases h) d _ _ y y' h1 h1' h6 h6' hd (.inr hc)
      have := cnt_rank this h2
      omega
  refine ⟨hG, ?_⟩
  apply Nat.le_antisymm
  · exact pig (cnt F n) (lms s) g hG.lms hG.inj
  · exact cnt_surj (cnt F n) (lms s) g (fun x hx hl => hG.all x hx hl)

/-! ### names by recursion -/
theorem names_ex (n : Nat) (t : Nat → Nat) (s : Nat → Bool) (g : Nat → Nat) : ∃ nm : Nat → Nat, ∀ m, Names n t s m g nm := by
  have hdec : ∃ D : Nat → Bool, ∀ j, D j = true ↔ Eq2 n t s (g j) (g (j + 1)) := by
    have : ∀ j, ∃ b : Bool, b = true ↔ Eq2 n t s (g j) (g (j + 1)) := fun j => by
      by_cases h : Eq2 n t s (g j) (g (j + 1))
      · exact ⟨true, by simp [h]⟩
      · exact ⟨false, by simp [h]⟩
    exact Classical.axiomOfChoice this
  obtain ⟨D, hD⟩ := hdec
  refine ⟨fun j => cnt (fun x => !D x) j, fun m => ⟨rfl, fun j _ he => ?_, fun j _ he => ?_⟩⟩
  · show cnt _ (j + 1) = cnt _ j
    rw [cnt_succ, (hD j).2 he]; rfl
  · show cnt _ (j + 1) = cnt _ j + 1
    rw [cnt_succ]
    have : D j = false := by
      cases h : D j with
      | false => rfl
      | true => exact absurd ((hD j).1 h) he
    rw [this]; rfl

/-- The string of names. -/
theorem red_of (hT : Ty n t s) {m : Nat} {g nm : Nat → Nat} (hm : m = cnt (lms s) n) (hg : Gat n t s m g) (hn : Names n t s m g nm) {L u : Nat → Nat}
    (hL : ∀ x, x < m → L x < n ∧ lms s (L x) = true ∧ cnt (lms s) (L x) = x) (hu : ∀ j, j < m → u (cnt (lms s) (g j)) = nm j) : Red n t s m L u := by
  have hidx : ∀ x, x < m → ∃ j, j < m ∧ g j = L x ∧ u x = nm j := fun x hx => by
    obtain ⟨h1, h2, h3⟩ := hL x hx
    obtain ⟨j, h4, h5⟩ := hg.all _ h1 h2
    refine ⟨j, h4, h5, ?_⟩
    rw [← hu j h4, h5, h3]
  refine ⟨fun x hx => ⟨(hL x hx).1, (hL x hx).2.1⟩, fun x y hxy hy => ?_, fun p hp hl => ?_, fun x y hx hy hh => ?_, fun x y hx hy hh => ?_⟩
  · obtain ⟨a1, a2, a3⟩ := hL x (by omega)
    obtain ⟨b1, b2, b3⟩ := hL y hy
    rcases Nat.lt_or_ge (L x) (L y) with h | h
    · exact h
    · have := cnt_le_of (P := lms s) h; omega
  · have h1 : cnt (lms s) p < m := by rw [hm]; exact cnt_rank hp hl
    obtain ⟨a1, a2, a3⟩ := hL _ h1
    exact ⟨_, h1, cnt_rank_inj a2 hl a3⟩
  · obtain ⟨i, i1, i2, i3⟩ := hidx x hx
    obtain ⟨j, j1, j2, j3⟩ := hidx y hy
    rw [i3, j3]
    exact hn.lt hg i1 j1 (by rw [i2, j2]; exact hh)
  · obtain ⟨i, i1, i2, i3⟩ := hidx x hx
    obtain ⟨j, j1, j2, j3⟩ := hidx y hy
    rw [i3, j3]
    exact hn.eq hT hg i1 j1 (by rw [i2, j2]; exact hh)

/-- The sorted LMS positions. -/
structure LS (n : Nat) (t : Nat → Nat) (s : Nat → Bool) (m : Nat) (q : Nat → Nat) : Prop where
  lms : ∀ i, i < m → q i < n ∧ lms s (q i) = true
  inj : ∀ i j, i < m → j < m → q i = q j → i = j
  all : ∀ p, p < n → Sa.lms s p = true → ∃ i, i < m ∧ q i = p
  ord : ∀ d i j, i < m → j < m → Dif n t s d (q i) (q j) → i < j

theorem ls_of {m : Nat} {L u : Nat → Nat} (h : Red n t s m L u) {B : Nat → Nat} (hB : IsSA m u (fun i => (B i : Int))) : LS n t s m (fun i => L (B i)) := by
  have hb : ∀ i, i < m → B i < m := fun i hi => by
    obtain ⟨p, h1, h2⟩ := hB.rng i hi
    have : B i = p := by exact_mod_cast h2
    omega
  have hinj : ∀ x y, x < m → y < m → L x = L y → x = y := fun x y hx hy e => by
    rcases Nat.lt_trichotomy x y with h1 | h1 | h1
    · have := h.mono x y h1 hy; omega
    · exact h1
    · have := h.mono y x h1 hx; omega
  refine ⟨fun i hi => h.lms _ (hb i hi), fun i j hi hj e => ?_, fun p hp hl => ?_, fun d i j hi hj hD => ?_⟩
  · have := hinj _ _ (hb i hi) (hb j hj) e
    exact hB.inj i j hi hj (by show (B i : Int) = (B j : Int); rw [this])
  · obtain ⟨x, h1, h2⟩ := h.all p hp hl
    obtain ⟨i, h3, h4⟩ := hB.all x h1
    have h4 : (B i : Int) = (x : Int) := h4
    have : B i = x := by omega
    exact ⟨i, h3, by show L (B i) = p; rw [this]; exact h2⟩
  · exact hB.ord i j (B i) (B j) hi hj rfl rfl (h.slt d _ _ (hb i hi) (hb j hj) hD)

theorem LS.tmono {m : Nat} {q : Nat → Nat} (h : LS n t s m q) {i j : Nat} (hij : i ≤ j) (hj : j < m) : t (q i) ≤ t (q j) := by
  rcases Nat.lt_or_ge (t (q j)) (t (q i)) with h1 | h1
  · have h2 := (h.lms i (by omega)).1
    have h3 := (h.lms j hj).1
    have := h.ord 0 j i hj (by omega) ⟨fun e he => by omega, .inl (by rw [TT_lt (by omega), TT_lt (by omega)]; simpa using h1)⟩
    omega
  · exact h1

theorem LS.index {m : Nat} {q : Nat → Nat} (h : LS n t s m q) : ∃ ix : Nat → Nat, ∀ i, i < m → ix (q i) = i := by
  have : ∀ p, ∃ y, ∀ i, i < m → q i = p → y = i := fun p => by
    by_cases hx : ∃ i, i < m ∧ q i = p
    · obtain ⟨i, h1, h2⟩ := hx
      exact ⟨i, fun j h3 h4 => h.inj i j h1 h3 (by rw [h2, h4])⟩
    · exact ⟨0, fun j h3 h4 => absurd ⟨j, h3, h4⟩ hx⟩
  obtain ⟨ix, hix⟩ := Classical.axiomOfChoice this
  exact ⟨ix, fun i hi => hix (q i) i hi rfl⟩

/-- The i-th sorted LMS position finds its place no lower than i. -/
theorem LS.place {m : Nat} {q ix : Nat → Nat} (h : LS n t s m q) (hix : ∀ i, i < m → ix (q i) = i) {i : Nat} (hi : i < m) {A : Nat → Int} {bk : Nat → Nat}
    (hp : PI n t s (fun p => Sa.lms s p && decide (i + 1 ≤ ix p)) ix (i + 1) A bk) : i + 1 ≤ bk (t (q i)) := by
  have hb := hp.bkc (t (q i))
  rw [Bk_eq] at hb
  have h1 : i + 1 + cnt (fun p => (Sa.lms s p && decide (i + 1 ≤ ix p)) && decide (t p = t (q i))) n ≤ cnt (fun p => decide (t p < t (q i) + 1)) n := by
    have h2 : i + 1 ≤ cnt (fun p => Sa.lms s p && decide (ix p < i + 1)) n := pig (i + 1) _ q (fun j hj => by
      have := h.lms j (by omega)
      refine ⟨this.1, ?_⟩
      rw [this.2, hix j (by omega)]; simp; omega) (fun j j' hj hj' e => h.inj j j' (by omega) (by omega) e)
    have h3 := cnt_or (P := fun p => Sa.lms s p && decide (ix p < i + 1)) (Q := fun p => (Sa.lms s p && decide (i + 1 ≤ ix p)) && decide (t p = t (q i))) n (fun p hp hh => by simp at hh; omega)
    have h4 : cnt (fun p => (Sa.lms s p && decide (ix p < i + 1)) || ((Sa.lms s p && decide (i + 1 ≤ ix p)) && decide (t p = t (q i)))) n ≤ cnt (fun p => decide (t p < t (q i) + 1)) n := cnt_le n (fun p hp hh => by
      simp only [Bool.or_eq_true, Bool.and_eq_true, decide_eq_true_eq] at hh ⊢
      rcases hh with ⟨h5, h6⟩ | ⟨_, h6⟩
      · obtain ⟨j, h7, h8⟩ := h.all p hp h5
        have h9 := hix j h7
        rw [h8] at h9
        have := h.tmono (show j ≤ i from by omega) hi
        rw [h8] at this; omega
      · omega)
    omega
  omega

/-- One item laid, and its own cell cleared. -/
theorem LS.step {m : Nat} {q ix : Nat → Nat} (h : LS n t s m q) (hix : ∀ i, i < m → ix (q i) = i) {i : Nat} (hi : i < m) {A : Nat → Int} {bk : Nat → Nat}
    (hp : PI n t s (fun p => Sa.lms s p && decide (i + 1 ≤ ix p)) ix (i + 1) A bk) :
    0 < bk (t (q i)) ∧ bk (t (q i)) ≤ n ∧ i ≤ bk (t (q i)) - 1 ∧
    PI n t s (fun p => Sa.lms s p && decide (i ≤ ix p)) ix i (updF (updF A i (-1)) (bk (t (q i)) - 1) (q i : Int)) (updF bk (t (q i)) (bk (t (q i)) - 1)) := by
  have h1 := h.place hix hi hp
  have h2 := (hp.S (t (q i))).2
  have h3 := Bk_le n t (t (q i) + 1)
  have hl := h.lms i hi
  refine ⟨by omega, by omega, by omega, hp.down.push hl.1 hl.2 (by simp [hix i hi]) (fun x hx hP ht => ?_) (by omega) (fun x hx => ?_)⟩
  · simp at hP
    rw [hix i hi]; omega
  · simp only [Bool.and_eq_true, decide_eq_true_eq]
    constructor
    · rintro ⟨h4, h5⟩
      rcases Nat.lt_or_ge i (ix x) with h6 | h6
      · exact .inl ⟨h4, h6⟩
      · right
        obtain ⟨j, h7, h8⟩ := h.all x hx h4
        have h9 := hix j h7
        rw [h8] at h9
        rw [← h8, show j = i from by omega]
    · rintro (⟨h4, h5⟩ | h4)
      · exact ⟨h4, by omega⟩
      · subst h4
        exact ⟨hl.2, by rw [hix i hi]; exact Nat.le_refl _⟩
theorem LS.begin {m : Nat} {q ix : Nat → Nat} (h : LS n t s m q) (hix : ∀ i, i < m → ix (q i) = i) {A : Nat → Int} (hA : ∀ j, m ≤ j → j < n → A j = -1) :
    PI n t s (fun p => Sa.lms s p && decide (m ≤ ix p)) ix m A (fun c => Bk n t (c + 1)) := by
  refine PI.start (fun p hp => ?_) hA
  cases hl : Sa.lms s p with
  | false => rfl
  | true =>
    obtain ⟨i, h1, h2⟩ := h.all p hp hl
    have := hix i h1
    rw [h2] at this
    simp; omega
theorem LS.done {m : Nat} {q ix : Nat → Nat} (h : LS n t s m q) (hix : ∀ i, i < m → ix (q i) = i) {A : Nat → Int} {bk : Nat → Nat}
    (hp : PI n t s (fun p => Sa.lms s p && decide (0 ≤ ix p)) ix 0 A bk) : Ini n t s A ∧ Sorted0 n t s A := by
  refine ⟨hp.ini (fun p hp hl => by simp [hl]), hp.sorted (fun d x y hx hy hlx hly hD => ?_)⟩
  obtain ⟨i, h1, h2⟩ := h.all x hx hlx
  obtain ⟨j, h3, h4⟩ := h.all y hy hly
  have h5 := hix i h1
  have h6 := hix j h3
  rw [h2] at h5
  rw [h4] at h6
  rw [h5, h6]
  exact h.ord d i j h1 h3 (by rw [h2, h4]; exact hD)

/-! ### the first laying, in the order of the text -/
theorem lay_begin {A : Nat → Int} (hA : ∀ j, j < n → A j = -1) : PI n t s (fun p => lms s p && decide (p < 1)) (fun p => n - p) 0 A (fun c => Bk n t (c + 1)) :=
  PI.start (fun p hp => by
    cases hl : lms s p with
    | false => rfl
    | true => rw [lms_iff] at hl; simp; omega) (fun j _ hj => hA j hj)
theorem lay_pass {i : Nat} (h : PI n t s (fun p => lms s p && decide (p < i)) (fun p => n - p) 0 A bk) (hl : lms s i = false) : PI n t s (fun p => lms s p && decide (p < i + 1)) (fun p => n - p) 0 A bk := by
  have : (fun p => lms s p && decide (p < i + 1)) = fun p => lms s p && decide (p < i) := funext fun p => by
    rw [Bool.eq_iff_iff]
    simp only [Bool.and_eq_true, decide_eq_true_eq]
    constructor
    · rintro ⟨h1, h2⟩
      refine ⟨h1, ?_⟩
      rcases Nat.lt_or_ge p i with h3 | h3
      · exact h3
      · have : p = i := by omega
        subst this; rw [hl] at h1; cases h1
    · rintro ⟨h1, h2⟩; exact ⟨h1, by omega⟩
  rw [this]; exact h
theorem lay_push {i : Nat} (h : PI n t s (fun p => lms s p && decide (p < i)) (fun p => n - p) 0 A bk) (hi : i < n) (hl : lms s i = true) :
    0 < bk (t i) ∧ bk (t i) ≤ n ∧ PI n t s (fun p => lms s p && decide (p < i + 1)) (fun p => n - p) 0 (updF A (bk (t i) - 1) (i : Int)) (updF bk (t i) (bk (t i) - 1)) := by
  have h1 := h.room hi hl (by simp)
  have h2 := (h.S (t i)).2
  have h3 := Bk_le n t (t i + 1)
  refine ⟨by omega, by omega, h.push hi hl (by simp) (fun q hq hP _ => ?_) (by omega) (fun q hq => ?_)⟩
  · simp at hP
    show n - i < n - q
    omega
  · simp only [Bool.and_eq_true, decide_eq_true_eq]
    constructor
    · rintro ⟨h4, h5⟩
      rcases Nat.lt_or_ge q i with h6 | h6
      · exact .inl ⟨h4, h6⟩
      · exact .inr (by omega)
    · rintro (⟨h4, h5⟩ | h4)
      · exact ⟨h4, by omega⟩
      · subst h4; exact ⟨hl, by omega⟩
theorem lay_done (h : PI n t s (fun p => lms s p && decide (p < n)) (fun p => n - p) 0 A bk) : Ini n t s A := h.ini (fun p hp hl => by simp [hl, hp])
end

end Go.Proofs.Qxb6602663a.Sa
