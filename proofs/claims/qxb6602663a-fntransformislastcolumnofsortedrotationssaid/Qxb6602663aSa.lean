/-
  Plain mathematics of induced sorting: no Go in sight. Types, buckets, the L pass.
-/
import Derived.Test.Qxb6602663aRec
namespace Go.Proofs.Qxb6602663a.Sa
open Go.Proofs.Qxb6602663a.Sym (cnt cnt_congr cnt_le cnt_lt cnt_change cnt_or)
set_option linter.unusedVariables false

def updF {α : Type} (f : Nat → α) (i : Nat) (v : α) : Nat → α := fun j => if j = i then v else f j
theorem updF_same {α : Type} (f : Nat → α) (i : Nat) (v : α) : updF f i v i = v := by simp [updF]
theorem updF_ne {α : Type} (f : Nat → α) {i j : Nat} (v : α) (h : j ≠ i) : updF f i v j = f j := by simp [updF, h]

/-! ### counting -/
theorem pig {n : Nat} : ∀ (m : Nat) (P : Nat → Bool) (f : Nat → Nat), (∀ j, j < m → f j < n ∧ P (f j) = true) → (∀ j j', j < m → j' < m → f j = f j' → j = j') → m ≤ cnt P n
  | 0, _, _, _, _ => Nat.zero_le _
  | m + 1, P, f, h, hi => by
    have hx := h m (by omega)
    have hc := cnt_change (P := P) (Q := fun x => P x && !(x == f m)) (x := f m) n hx.1 (fun i _ hne => by simp [hne])
    simp [hx.2] at hc
    have ih := pig m (fun x => P x && !(x == f m)) f (fun j hj => by
      refine ⟨(h j (by omega)).1, ?_⟩
      have : f j ≠ f m := fun e => by have := hi j m (by omega) (by omega) e; omega
      simp [(h j (by omega)).2, this]) (fun j j' hj hj' => hi j j' (by omega) (by omega))
    omega

theorem pig_strict {n m : Nat} {P : Nat → Bool} {f : Nat → Nat} (h : ∀ j, j < m → f j < n ∧ P (f j) = true) (hi : ∀ j j', j < m → j' < m → f j = f j' → j = j') {x : Nat} (hx : x < n) (hP : P x = true) (hn : ∀ j, j < m → f j ≠ x) : m < cnt P n := by
  refine pig (m + 1) P (fun j => if j < m then f j else x) (fun j hj => ?_) (fun j j' hj hj' e => ?_)
  · show (if j < m then f j else x) < n ∧ P (if j < m then f j else x) = true
    split
    · rename_i h'; exact h j h'
    · exact ⟨hx, hP⟩
  · have e : (if j < m then f j else x) = (if j' < m then f j' else x) := e
    split at e <;> split at e
    · rename_i h1 h2; exact hi j j' h1 h2 e
    · rename_i h1 h2; exact absurd e (hn j h1)
    · rename_i h1 h2; exact absurd e.symm (hn j' h2)
    · omega

theorem pig_onto {n m : Nat} {P : Nat → Bool} {f : Nat → Nat} (h : ∀ j, j < m → f j < n ∧ P (f j) = true) (hi : ∀ j j', j < m → j' < m → f j = f j' → j = j') (hm : cnt P n ≤ m) {x : Nat} (hx : x < n) (hP : P x = true) : ∃ j, j < m ∧ f j = x := by
  by_cases hn : ∃ j, j < m ∧ f j = x
  · exact hn
  · have := pig_strict h hi hx hP (fun j hj e => hn ⟨j, hj, e⟩)
    omega

theorem cnt_surj {n : Nat} : ∀ (m : Nat) (P : Nat → Bool) (f : Nat → Nat), (∀ x, x < n → P x = true → ∃ j, j < m ∧ f j = x) → cnt P n ≤ m
  | 0, P, f, h => by
    have : ∀ k, k ≤ n → cnt P k = 0 := by
      intro k
      induction k with
      | zero => intro _; rfl
      | succ k ih =>
        intro hk
        simp only [cnt]
        rw [ih (by omega), if_neg]
        intro hp
        obtain ⟨j, hj, _⟩ := h k (by omega) hp
        omega
    rw [this n (Nat.le_refl _)]
    exact Nat.le_refl _
  | m + 1, P, f, h => by
    by_cases hx : f m < n
    · have hc := cnt_change (P := P) (Q := fun x => P x && !(x == f m)) (x := f m) n hx (fun i _ hne => by simp [hne])
      have ih := cnt_surj m (fun x => P x && !(x == f m)) f (fun x hx' hp => by
        simp at hp
        obtain ⟨j, hj, e⟩ := h x hx' hp.1
        refine ⟨j, ?_, e⟩
        have : j ≠ m := fun e' => hp.2 (by rw [← e, e'])
        omega)
      simp at hc
      split at hc <;> omega
    · have ih := cnt_surj m P f (fun x hx' hp => by
        obtain ⟨j, hj, e⟩ := h x hx' hp
        refine ⟨j, ?_, e⟩
        have : j ≠ m := fun e' => hx (by rw [← e', e]; exact hx')
        omega)
      omega

theorem cnt_le_n (P : Nat → Bool) : ∀ n, cnt P n ≤ n
  | 0 => Nat.le_refl _
  | n + 1 => by
    have := cnt_le_n P n
    simp only [cnt]
    split <;> omega

/-! ### types and buckets -/
structure Ty (n : Nat) (t : Nat → Nat) (s : Nat → Bool) : Prop where
  last : 0 < n → s (n - 1) = false
  step : ∀ i, i + 1 < n → (s i = true ↔ t i < t (i + 1) ∨ (t i = t (i + 1) ∧ s (i + 1) = true))

def lms (s : Nat → Bool) (i : Nat) : Bool := decide (0 < i) && s i && !s (i - 1)

def Nc (n : Nat) (t : Nat → Nat) (c : Nat) : Nat := cnt (fun i => decide (t i = c)) n
def Lc (n : Nat) (t : Nat → Nat) (s : Nat → Bool) (c : Nat) : Nat := cnt (fun i => decide (t i = c) && !s i) n
def Sc (n : Nat) (t : Nat → Nat) (s : Nat → Bool) (c : Nat) : Nat := cnt (fun i => decide (t i = c) && s i) n
def Bk (n : Nat) (t : Nat → Nat) : Nat → Nat
  | 0 => 0
  | c + 1 => Bk n t c + Nc n t c

theorem Nc_eq (n : Nat) (t : Nat → Nat) (s : Nat → Bool) (c : Nat) : Nc n t c = Lc n t s c + Sc n t s c := by
  unfold Nc Lc Sc
  rw [← cnt_or n (fun i _ h => by simp at h; simp [h.1.2] at h)]
  refine cnt_congr n (fun i _ => ?_)
  cases s i <;> simp

theorem Bk_succ (n : Nat) (t : Nat → Nat) (s : Nat → Bool) (c : Nat) : Bk n t (c + 1) = Bk n t c + Lc n t s c + Sc n t s c := by
  show Bk n t c + Nc n t c = _
  rw [Nc_eq n t s c]; omega

theorem Bk_eq (n : Nat) (t : Nat → Nat) : ∀ c, Bk n t c = cnt (fun i => decide (t i < c)) n
  | 0 => by
    have : ∀ k, cnt (fun i => decide (t i < 0)) k = 0 := by
      intro k
      induction k with
      | zero => rfl
      | succ k ih => simp only [cnt]; rw [ih]; simp
    exact (this n).symm
  | c + 1 => by
    show Bk n t c + Nc n t c = _
    rw [Bk_eq n t c]
    unfold Nc
    rw [← cnt_or n (fun i _ h => by simp at h; omega)]
    refine cnt_congr n (fun i _ => ?_)
    rw [Bool.eq_iff_iff]
    simp
    omega

theorem Bk_mono (n : Nat) (t : Nat → Nat) {c c' : Nat} (h : c ≤ c') : Bk n t c ≤ Bk n t c' := by
  rw [Bk_eq, Bk_eq]
  exact cnt_le n (fun i _ hi => by simp at hi ⊢; omega)

theorem Bk_le (n : Nat) (t : Nat → Nat) (c : Nat) : Bk n t c ≤ n := by rw [Bk_eq]; exact cnt_le_n _ _

theorem Lc_le (n : Nat) (t : Nat → Nat) (s : Nat → Bool) (c : Nat) : Bk n t c + Lc n t s c ≤ Bk n t (c + 1) := by rw [Bk_succ n t s]; omega

theorem lms_iff {s : Nat → Bool} {i : Nat} : lms s i = true ↔ 0 < i ∧ s i = true ∧ s (i - 1) = false := by
  simp [lms, and_assoc]

/-- The successor of an L-type position that is no LMS is L-type; characters fall. -/
theorem Ty.le_of_L {n : Nat} {t : Nat → Nat} {s : Nat → Bool} (h : Ty n t s) {p : Nat} (hp : p + 1 < n) (hs : s p = false) : t (p + 1) ≤ t p ∧ (t (p + 1) = t p → s (p + 1) = false) := by
  have := h.step p hp
  rw [hs] at this
  simp at this
  refine ⟨by omega, fun e => this.2 e.symm⟩

theorem Ty.le_of_S {n : Nat} {t : Nat → Nat} {s : Nat → Bool} (h : Ty n t s) {p : Nat} (hp : p < n) (hs : s p = true) : p + 1 < n ∧ t p ≤ t (p + 1) ∧ (t p = t (p + 1) → s (p + 1) = true) := by
  have h1 : p + 1 < n := by
    rcases Nat.lt_or_ge (p + 1) n with h' | h'
    · exact h'
    · have : p = n - 1 := by omega
      rw [this, h.last (by omega)] at hs
      cases hs
  have h2 := (h.step p h1).1 hs
  refine ⟨h1, by omega, fun e => ?_⟩
  rcases h2 with h2 | h2
  · omega
  · exact h2.2

theorem lms_succ {s : Nat → Bool} {p : Nat} (h1 : s p = false) (h2 : s (p + 1) = true) : lms s (p + 1) = true := by
  rw [lms_iff]
  exact ⟨by omega, h2, by simpa using h1⟩

/-! ### where the LMS positions lie at first -/
structure Ini (n : Nat) (t : Nat → Nat) (s : Nat → Bool) (A0 : Nat → Int) : Prop where
  rng : ∀ j, j < n → -1 ≤ A0 j ∧ A0 j < n
  lms : ∀ j p : Nat, j < n → A0 j = (p : Int) → lms s p = true ∧ Bk n t (t p) + Lc n t s (t p) ≤ j ∧ j < Bk n t (t p + 1)
  inj : ∀ j j', j < n → j' < n → 0 ≤ A0 j → A0 j = A0 j' → j = j'
  all : ∀ p, p < n → Sa.lms s p = true → ∃ j, j < n ∧ A0 j = (p : Int)

/-! ### the L pass -/
structure LI (n : Nat) (t : Nat → Nat) (s : Nat → Bool) (A0 : Nat → Int) (fl : Bool) (i : Nat) (A : Nat → Int) (bk : Nat → Nat) : Prop where
  rng : ∀ j, j < n → -1 ≤ A j ∧ A j < n
  sS : ∀ j p : Nat, j < n → A j = (p : Int) → s p = true → A0 j = (p : Int)
  keep : ∀ j, j < n → 0 ≤ A0 j → A j = A0 j
  sL : ∀ j p : Nat, j < n → A j = (p : Int) → s p = false → Bk n t (t p) ≤ j ∧ j < bk (t p)
  fil : ∀ c j, Bk n t c ≤ j → j < bk c → ∃ p : Nat, p < n ∧ A j = (p : Int) ∧ s p = false ∧ t p = c
  bkb : ∀ c, Bk n t c ≤ bk c ∧ bk c ≤ Bk n t c + Lc n t s c
  inj : ∀ j j', j < n → j' < n → 0 ≤ A j → A j = A j' → j = j'
  psh : ∀ p : Nat, p < n → s p = false → ((∃ j, j < n ∧ A j = (p : Int)) ↔ ((fl = true ∧ p + 1 = n) ∨ ∃ j, j < i ∧ j < n ∧ A j = (p : Int) + 1))
  ord : ∀ c j j', Bk n t c ≤ j → j < j' → j' < bk c → A j + 1 = n ∨ ∃ a a', a < a' ∧ a' < i ∧ a' < n ∧ A a = A j + 1 ∧ A a' = A j' + 1

section
variable {n : Nat} {t : Nat → Nat} {s : Nat → Bool} {A0 A : Nat → Int} {fl : Bool} {i : Nat} {bk : Nat → Nat}

/-- A position of the L part that is not filled holds -1. -/
theorem LI.free (h : LI n t s A0 fl i A bk) (hI : Ini n t s A0) {c j : Nat} (hj : bk c ≤ j) (hj' : j < Bk n t c + Lc n t s c) : A j = -1 := by
  have hb := h.bkb c
  have hjn : j < n := by have := Lc_le n t s c; have := Bk_le n t (c + 1); omega
  have hr := h.rng j hjn
  by_cases h0 : A j < 0
  · omega
  · exfalso
    obtain ⟨p, hp⟩ : ∃ p : Nat, A j = (p : Int) := ⟨(A j).toNat, by omega⟩
    have hlc := Lc_le n t s c
    have key : ∀ c', Bk n t c' ≤ j → j < Bk n t (c' + 1) → c' = c := fun c' h1 h2 => by
      rcases Nat.lt_trichotomy c' c with h3 | h3 | h3
      · have := Bk_mono n t (show c' + 1 ≤ c from h3); omega
      · exact h3
      · have := Bk_mono n t (show c + 1 ≤ c' from h3); omega
    by_cases hs : s p = true
    · have := hI.lms j p hjn (h.sS j p hjn hp hs)
      have := key (t p) (by omega) (by omega)
      subst this
      omega
    · have hs' : s p = false := by simpa using hs
      have h1 := h.sL j p hjn hp hs'
      have h2 := h.bkb (t p)
      have h3 := Lc_le n t s (t p)
      have := key (t p) (by omega) (by omega)
      subst this
      omega

/-- A new entry has room. -/
theorem LI.room (h : LI n t s A0 fl i A bk) {p : Nat} (hp : p < n) (hs : s p = false) (hn : ∀ j, j < n → A j ≠ (p : Int)) : bk (t p) < Bk n t (t p) + Lc n t s (t p) := by
  have hb := h.bkb (t p)
  have hlc := Lc_le n t s (t p)
  have hle := Bk_le n t (t p + 1)
  have hget : ∀ j, j < bk (t p) - Bk n t (t p) → ∃ q : Nat, q < n ∧ A (Bk n t (t p) + j) = (q : Int) ∧ s q = false ∧ t q = t p := fun j hj => h.fil (t p) _ (by omega) (by omega)
  have := pig_strict (n := n) (m := bk (t p) - Bk n t (t p)) (P := fun i => decide (t i = t p) && !s i) (f := fun j => (A (Bk n t (t p) + j)).toNat)
    (fun j hj => by
      obtain ⟨q, h1, h2, h3, h4⟩ := hget j hj
      simp only [h2, Int.toNat_natCast]
      exact ⟨h1, by simp [h3, h4]⟩)
    (fun j j' hj hj' e => by
      obtain ⟨q, h1, h2, h3, h4⟩ := hget j hj
      obtain ⟨q', h1', h2', h3', h4'⟩ := hget j' hj'
      simp only [h2, h2', Int.toNat_natCast] at e
      have := h.inj (Bk n t (t p) + j) (Bk n t (t p) + j') (by omega) (by omega) (by rw [h2]; omega) (by rw [h2, h2', e])
      omega) hp (by simp [hs]) (fun j hj e => by
      obtain ⟨q, h1, h2, h3, h4⟩ := hget j hj
      simp only [h2, Int.toNat_natCast] at e
      exact hn (Bk n t (t p) + j) (by omega) (by rw [h2, e]))
  have e : cnt (fun i => decide (t i = t p) && !s i) n = Lc n t s (t p) := rfl
  omega

/-- The step that both kinds of placing share. 'x': where the scan stands behind it. -/
theorem LI.place (h : LI n t s A0 fl i A bk) (hI : Ini n t s A0) {p i' : Nat} {fl' : Bool} (hfl : fl = true → fl' = true) (hfl' : fl' = true → fl = true ∨ p + 1 = n) (hp : p < n) (hs : s p = false) (hn : ∀ j, j < n → A j ≠ (p : Int)) (hii : i ≤ i') (hgt : i' ≤ bk (t p))
    (hsrc : (fl' = true ∧ p + 1 = n) ∨ ∃ j, j < i' ∧ j < n ∧ A j = (p : Int) + 1) (hnew : ∀ q : Nat, q < n → s q = false → q ≠ p → (∃ j, j < i' ∧ j < n ∧ A j = (q : Int) + 1) → ∃ j, j < i ∧ j < n ∧ A j = (q : Int) + 1)
    (hord : ∀ j, Bk n t (t p) ≤ j → j < bk (t p) → A j + 1 = n ∨ ∃ a a', a < a' ∧ a' < i' ∧ a' < n ∧ A a = A j + 1 ∧ A a' = (p : Int) + 1) :
    LI n t s A0 fl' i' (updF A (bk (t p)) (p : Int)) (updF bk (t p) (bk (t p) + 1)) ∧ bk (t p) < n := by
  have hroom := h.room hp hs hn
  have hlc := Lc_le n t s (t p)
  have hle := Bk_le n t (t p + 1)
  have hb := h.bkb (t p)
  have hxn : bk (t p) < n := by omega
  have hfree := h.free hI (c := t p) (j := bk (t p)) (Nat.le_refl _) hroom
  have hA0 : ¬ 0 ≤ A0 (bk (t p)) := fun h0 => by
    have := h.keep _ hxn h0
    omega
  have hcell : ∀ j, j < i' → updF A (bk (t p)) (p : Int) j = A j := fun j hj => updF_ne _ _ (by omega)
  refine ⟨⟨fun j hj => ?_, fun j q hj e hq => ?_, fun j hj h0 => ?_, fun j q hj e hq => ?_, fun c j h1 h2 => ?_, fun c => ?_, fun j j' hj hj' h0 e => ?_, fun q hq hqs => ?_, fun c j j' h1 h2 h3 => ?_⟩, hxn⟩
  · by_cases e : j = bk (t p)
    · subst e; rw [updF_same]; omega
    · rw [updF_ne _ _ e]; exact h.rng j hj
  · by_cases e' : j = bk (t p)
    · subst e'
      rw [updF_same] at e
      have : q = p := by omega
      subst this
      rw [hs] at hq; cases hq
    · rw [updF_ne _ _ e'] at e; exact h.sS j q hj e hq
  · have : j ≠ bk (t p) := fun e => hA0 (by rw [← e]; exact h0)
    rw [updF_ne _ _ this]; exact h.keep j hj h0
  · by_cases e' : j = bk (t p)
    · subst e'
      rw [updF_same] at e
      have : q = p := by omega
      subst this
      rw [updF_same]
      omega
    · rw [updF_ne _ _ e'] at e
      have := h.sL j q hj e hq
      by_cases ec : t q = t p
      · rw [ec] at this ⊢; rw [updF_same]; omega
      · rw [updF_ne _ _ ec]; exact this
  · by_cases ec : c = t p
    · subst ec
      rw [updF_same] at h2
      by_cases e' : j = bk (t p)
      · subst e'; exact ⟨p, hp, updF_same _ _ _, hs, rfl⟩
      · rw [updF_ne _ _ e']; exact h.fil (t p) j h1 (by omega)
    · rw [updF_ne _ _ ec] at h2
      have : j ≠ bk (t p) := fun e => by
        subst e
        obtain ⟨q, _, h4, _⟩ := h.fil c _ h1 h2
        omega
      rw [updF_ne _ _ this]; exact h.fil c j h1 h2
  · by_cases ec : c = t p
    · subst ec; rw [updF_same]; omega
    · rw [updF_ne _ _ ec]; exact h.bkb c
  · by_cases e1 : j = bk (t p)
    · by_cases e2 : j' = bk (t p)
      · omega
      · rw [e1, updF_same, updF_ne _ _ e2] at e
        exact absurd e.symm (hn j' hj')
    · by_cases e2 : j' = bk (t p)
      · rw [e2, updF_same, updF_ne _ _ e1] at e
        exact absurd e (hn j hj)
      · rw [updF_ne _ _ e1] at h0 e
        rw [updF_ne _ _ e2] at e
        exact h.inj j j' hj hj' h0 e
  · have hold := h.psh q hq hqs
    constructor
    · rintro ⟨j, hj, e⟩
      by_cases e1 : j = bk (t p)
      · subst e1
        rw [updF_same] at e
        have : q = p := by omega
        subst this
        rcases hsrc with h1 | ⟨a, h1, h2, h3⟩
        · exact .inl h1
        · exact .inr ⟨a, h1, h2, by rw [hcell a h1]; exact h3⟩
      · rw [updF_ne _ _ e1] at e
        rcases hold.1 ⟨j, hj, e⟩ with h1 | ⟨a, h1, h2, h3⟩
        · exact .inl ⟨hfl h1.1, h1.2⟩
        · exact .inr ⟨a, by omega, h2, by rw [hcell a (by omega)]; exact h3⟩
    · intro hr
      by_cases eq : q = p
      · subst eq; exact ⟨bk (t q), hxn, updF_same _ _ _⟩
      · have : ∃ j, j < n ∧ A j = (q : Int) := by
          refine hold.2 ?_
          rcases hr with h1 | ⟨a, h1, h2, h3⟩
          · rcases hfl' h1.1 with h4 | h4
            · exact .inl ⟨h4, h1.2⟩
            · omega
          · rw [hcell a h1] at h3
            exact .inr (hnew q hq hqs eq ⟨a, h1, h2, h3⟩)
        obtain ⟨j, hj, e⟩ := this
        refine ⟨j, hj, ?_⟩
        have : j ≠ bk (t p) := fun e' => by rw [e', hfree] at e; omega
        rw [updF_ne _ _ this]; exact e
  · have lift : ∀ j j', j ≠ bk (t p) → j' ≠ bk (t p) → (A j + 1 = n ∨ ∃ a a', a < a' ∧ a' < i ∧ a' < n ∧ A a = A j + 1 ∧ A a' = A j' + 1) →
        (updF A (bk (t p)) (p : Int) j + 1 = n ∨ ∃ a a', a < a' ∧ a' < i' ∧ a' < n ∧ updF A (bk (t p)) (p : Int) a = updF A (bk (t p)) (p : Int) j + 1 ∧ updF A (bk (t p)) (p : Int) a' = updF A (bk (t p)) (p : Int) j' + 1) := by
      intro j j' e1 e2 hh
      rw [updF_ne _ _ e1, updF_ne _ _ e2]
      rcases hh with hh | ⟨a, a', g1, g2, g3, g4, g5⟩
      · exact .inl hh
      · exact .inr ⟨a, a', g1, by omega, g3, by rw [hcell a (by omega)]; exact g4, by rw [hcell a' (by omega)]; exact g5⟩
    by_cases ec : c = t p
    · subst ec
      rw [updF_same] at h3
      by_cases e2 : j' = bk (t p)
      · subst e2
        rw [updF_same, updF_ne _ _ (by omega)]
        rcases hord j h1 (by omega) with hh | ⟨a, a', g1, g2, g3, g4, g5⟩
        · exact .inl hh
        · exact .inr ⟨a, a', g1, g2, g3, by rw [hcell a (by omega)]; exact g4, by rw [hcell a' (by omega)]; exact g5⟩
      · exact lift j j' (by omega) e2 (h.ord (t p) j j' h1 h2 (by omega))
    · rw [updF_ne _ _ ec] at h3
      have ne : ∀ x, Bk n t c ≤ x → x < bk c → x ≠ bk (t p) := fun x g1 g2 e => by
        subst e
        obtain ⟨q, _, g4, _⟩ := h.fil c _ g1 g2
        omega
      exact lift j j' (ne j h1 (by omega)) (ne j' (by omega) h3) (h.ord c j j' h1 h2 h3)

/-- Before the first placing. -/
theorem LI.zero (hI : Ini n t s A0) : LI n t s A0 false 0 A0 (Bk n t) := by
  have hno : ∀ j p : Nat, j < n → A0 j = (p : Int) → s p = false → False := fun j p hj e hs => by
    have := (lms_iff.1 (hI.lms j p hj e).1).2.1
    rw [hs] at this; cases this
  refine ⟨hI.rng, fun j p _ e _ => e, fun j _ _ => rfl, fun j p hj e hs => (hno j p hj e hs).elim, fun c j h1 h2 => by omega, fun c => ⟨Nat.le_refl _, by omega⟩, hI.inj, fun p hp hs => ?_, fun c j j' h1 h2 h3 => by omega⟩
  constructor
  · rintro ⟨j, hj, e⟩; exact (hno j p hj e hs).elim
  · rintro (h | ⟨j, hj, _⟩)
    · exact absurd h.1 (by simp)
    · omega

/-- The last suffix comes first of all. -/
theorem LI.start (hT : Ty n t s) (hn : 0 < n) (hI : Ini n t s A0) : LI n t s A0 true 0 (updF A0 (Bk n t (t (n - 1))) ((n - 1 : Nat) : Int)) (updF (Bk n t) (t (n - 1)) (Bk n t (t (n - 1)) + 1)) ∧ Bk n t (t (n - 1)) < n := by
  have hz := LI.zero hI
  have hs := hT.last hn
  have hno : ∀ j, j < n → A0 j ≠ ((n - 1 : Nat) : Int) := fun j hj e => by
    have := (lms_iff.1 (hI.lms j (n - 1) hj e).1).2.1
    rw [hs] at this; cases this
  exact hz.place hI (fun h => by cases h) (fun _ => .inr (by omega)) (by omega) hs hno (Nat.le_refl _) (Nat.zero_le _) (.inl ⟨rfl, by omega⟩)
    (fun q _ _ _ ⟨j, hj, _⟩ => by omega) (fun j h1 h2 => by omega)

/-- The scan meets an entry whose predecessor is L-type. -/
theorem LI.push (hT : Ty n t s) (hI : Ini n t s A0) (h : LI n t s A0 true i A bk) (hi : i < n) {p : Nat} (hA : A i = (p : Int) + 1) (hs : s p = false) :
    LI n t s A0 true (i + 1) (updF A (bk (t p)) (p : Int)) (updF bk (t p) (bk (t p) + 1)) ∧ bk (t p) < n := by
  have hr := h.rng i hi
  have hp : p + 1 < n := by omega
  have hA' : A i = ((p + 1 : Nat) : Int) := by omega
  have hle := hT.le_of_L hp hs
  have hb := h.bkb (t p)
  -- it is not there yet
  have hno : ∀ j, j < n → A j ≠ (p : Int) := fun j hj e => by
    rcases (h.psh p (by omega) hs).1 ⟨j, hj, e⟩ with h1 | ⟨a, h1, h2, h3⟩
    · omega
    · have := h.inj a i h2 hi (by omega) (by omega)
      omega
  -- its place lies behind the scan
  have hgt : i + 1 ≤ bk (t p) := by
    by_cases hq : s (p + 1) = true
    · have h1 := hI.lms i (p + 1) hi (h.sS i (p + 1) hi hA' hq)
      have : t (p + 1) ≠ t p := fun e => by rw [hle.2 e] at hq; cases hq
      have := Bk_mono n t (show t (p + 1) + 1 ≤ t p from by omega)
      omega
    · have hq' : s (p + 1) = false := by simpa using hq
      have h1 := h.sL i (p + 1) hi hA' hq'
      by_cases e : t (p + 1) = t p
      · rw [e] at h1; omega
      · have h2 := h.bkb (t (p + 1))
        have h3 := Lc_le n t s (t (p + 1))
        have := Bk_mono n t (show t (p + 1) + 1 ≤ t p from by omega)
        omega
  refine h.place hI (fun h => h) (fun h => .inl h) (by omega) hs hno (by omega) hgt (.inr ⟨i, by omega, hi, hA⟩) (fun q hq hqs hne ⟨j, h1, h2, h3⟩ => ?_) (fun j h1 h2 => ?_)
  · by_cases e : j = i
    · subst e; omega
    · exact ⟨j, by omega, h2, h3⟩
  · obtain ⟨q, g1, g2, g3, g4⟩ := h.fil (t p) j h1 h2
    rcases (h.psh q g1 g3).1 ⟨j, by have := Lc_le n t s (t p); have := Bk_le n t (t p + 1); omega, g2⟩ with h5 | ⟨a, h5, h6, h7⟩
    · exact .inl (by omega)
    · exact .inr ⟨a, i, h5, by omega, hi, by rw [g2]; exact h7, hA⟩

/-- The scan meets any other entry. -/
theorem LI.pass (h : LI n t s A0 true i A bk) (hi : i < n) (hA : ∀ p : Nat, A i = (p : Int) + 1 → s p = true) : LI n t s A0 true (i + 1) A bk := by
  refine ⟨h.rng, h.sS, h.keep, h.sL, h.fil, h.bkb, h.inj, fun p hp hs => ?_, fun c j j' h1 h2 h3 => ?_⟩
  · rw [h.psh p hp hs]
    constructor
    · rintro (h1 | ⟨j, h1, h2, h3⟩)
      · exact .inl h1
      · exact .inr ⟨j, by omega, h2, h3⟩
    · rintro (h1 | ⟨j, h1, h2, h3⟩)
      · exact .inl h1
      · by_cases e : j = i
        · subst e
          have := hA p h3
          rw [hs] at this; cases this
        · exact .inr ⟨j, by omega, h2, h3⟩
  · rcases h.ord c j j' h1 h2 h3 with hh | ⟨a, a', g1, g2, g3, g4, g5⟩
    · exact .inl hh
    · exact .inr ⟨a, a', g1, by omega, g3, g4, g5⟩

/-- Behind the scan every L-type position has its place. -/
theorem LI.allL (hT : Ty n t s) (hI : Ini n t s A0) (h : LI n t s A0 true n A bk) : ∀ d p, p + d + 1 = n → s p = false → ∃ j, j < n ∧ A j = (p : Int)
  | 0, p, hp, hs => (h.psh p (by omega) hs).2 (.inl ⟨rfl, by omega⟩)
  | d + 1, p, hp, hs => by
    refine (h.psh p (by omega) hs).2 (.inr ?_)
    have key : ∃ j, j < n ∧ A j = ((p + 1 : Nat) : Int) := by
      by_cases hq : s (p + 1) = true
      · obtain ⟨j, hj, e⟩ := hI.all (p + 1) (by omega) (lms_succ hs hq)
        exact ⟨j, hj, by rw [h.keep j hj (by omega)]; exact e⟩
      · exact LI.allL hT hI h d (p + 1) (by omega) (by simpa using hq)
    obtain ⟨j, hj, e⟩ := key
    exact ⟨j, hj, hj, by omega⟩

theorem LI.full (hT : Ty n t s) (hI : Ini n t s A0) (h : LI n t s A0 true n A bk) (c : Nat) : bk c = Bk n t c + Lc n t s c := by
  have hb := h.bkb c
  have : cnt (fun i => decide (t i = c) && !s i) n ≤ bk c - Bk n t c := by
    refine cnt_surj _ _ (fun j => (A (Bk n t c + j)).toNat) (fun x hx hp => ?_)
    simp at hp
    obtain ⟨j, hj, e⟩ := LI.allL hT hI h (n - 1 - x) x (by omega) hp.2
    have h1 := h.sL j x hj e hp.2
    rw [hp.1] at h1
    refine ⟨j - Bk n t c, by omega, ?_⟩
    rw [show Bk n t c + (j - Bk n t c) = j from by omega, e]
    simp
  have e : cnt (fun i => decide (t i = c) && !s i) n = Lc n t s c := rfl
  omega
end
end Go.Proofs.Qxb6602663a.Sa
