/-
  Plain mathematics of induced sorting: the rows that suffixArray keeps inside the suffix array.
-/
import Derived.Test.Qxb6602663aSa4
namespace Go.Proofs.Qxb6602663a.Sa
open Go.Proofs.Qxb6602663a.Sym (cnt cnt_congr cnt_le cnt_lt cnt_change cnt_or cnt_restrict)
set_option linter.unusedVariables false

section
variable {n : Nat} {t : Nat → Nat} {s : Nat → Bool} {m : Nat} {g nm : Nat → Nat} {A B O cur : Nat → Int} {F : Nat → Bool}

/-! ### gathering in place -/
structure GI (n : Nat) (F : Nat → Bool) (A : Nat → Int) (x : Nat) (cur : Nat → Int) : Prop where
  done : ∀ y, y < x → F y = true → cur (cnt F y) = A y
  rest : ∀ y, x ≤ y → y < n → cur y = A y
theorem GI.start : GI n F A 0 A := ⟨fun y hy => by omega, fun y _ _ => rfl⟩
theorem GI.push {x : Nat} (h : GI n F A x cur) (hF : F x = true) : cnt F x ≤ x ∧ cnt F (x + 1) = cnt F x + 1 ∧ GI n F A (x + 1) (updF cur (cnt F x) (A x)) := by
  have hle := cnt_le_n F x
  refine ⟨hle, by rw [cnt_succ, if_pos hF], fun y hy hFy => ?_, fun y hy hyn => ?_⟩
  · by_cases e : y = x
    · subst e; exact updF_same _ _ _
    · have := cnt_rank (show y < x from by omega) hFy
      rw [updF_ne _ _ (by omega)]; exact h.done y (by omega) hFy
  · rw [updF_ne _ _ (by omega)]; exact h.rest y (by omega) hyn
theorem GI.pass {x : Nat} (h : GI n F A x cur) (hF : F x = false) : cnt F (x + 1) = cnt F x ∧ GI n F A (x + 1) cur := by
  refine ⟨by rw [cnt_succ, hF]; rfl, fun y hy hFy => ?_, fun y hy hyn => h.rest y (by omega) hyn⟩
  by_cases e : y = x
  · subst e; rw [hF] at hFy; cases hFy
  · exact h.done y (by omega) hFy

/-! ### the names laid by position -/
structure NI (n m : Nat) (g nm : Nat → Nat) (j : Nat) (cur : Nat → Int) : Prop where
  lo : ∀ i, i < m → cur i = (g i : Int)
  hit : ∀ i, i < j → cur (m + g i / 2) = (nm i : Int)
  mis : ∀ x, m ≤ x → x < n → (∀ i, i < j → x ≠ m + g i / 2) → cur x = -1

theorem NI.start (hl : ∀ i, i < m → cur i = (g i : Int)) (hc : ∀ x, m ≤ x → x < n → cur x = -1) : NI n m g nm 0 cur := ⟨hl, fun i hi => by omega, fun x h1 h2 _ => hc x h1 h2⟩

theorem Gat.half (hg : Gat n t s m g) {i j : Nat} (hi : i < m) (hj : j < m) (e : g i / 2 = g j / 2) : i = j :=
  hg.inj i j hi hj (lms_apart (hg.lms i hi).2 (hg.lms j hj).2 e)

theorem Gat.room (hT : Ty n t s) (hm : m = cnt (Sa.lms s) n) (hg : Gat n t s m g) {j : Nat} (hj : j < m) : m + g j / 2 < n := by
  have h1 := lms_count hT
  have h2 := (hg.lms j hj).1
  omega

theorem NI.push (hg : Gat n t s m g) {j : Nat} (h : NI n m g nm j cur) (hj : j < m) : NI n m g nm (j + 1) (updF cur (m + g j / 2) (nm j : Int)) := by
  refine ⟨fun i hi => ?_, fun i hi => ?_, fun x h1 h2 h3 => ?_⟩
  · rw [updF_ne _ _ (by omega)]; exact h.lo i hi
  · by_cases e : i = j
    · subst e; exact updF_same _ _ _
    · have : g i / 2 ≠ g j / 2 := fun e' => e (hg.half (by omega) hj e')
      rw [updF_ne _ _ (by omega)]; exact h.hit i (by omega)
  · rw [updF_ne _ _ (h3 j (by omega))]
    exact h.mis x h1 h2 (fun i hi => h3 i (by omega))

/-! ### the names moved to the end -/
def below (s : Nat → Bool) (m x : Nat) : Nat → Bool := fun p => lms s p && decide (m + p / 2 < x)

theorem below_hit {q : Nat} (hq : lms s q = true) (hn : q < n) : cnt (below s m (m + q / 2)) n = cnt (lms s) q ∧ cnt (below s m (m + q / 2 + 1)) n = cnt (lms s) q + 1 := by
  constructor
  · rw [← cnt_restrict (P := lms s) (x := q) n (by omega)]
    refine cnt_congr n (fun p hp => ?_)
    rw [Bool.eq_iff_iff]
    simp only [below, Bool.and_eq_true, decide_eq_true_eq]
    constructor
    · rintro ⟨h1, h2⟩; exact ⟨h1, by omega⟩
    · rintro ⟨h1, h2⟩
      refine ⟨h1, ?_⟩
      have : p / 2 ≠ q / 2 := fun e => by have := lms_apart h1 hq e; omega
      omega
  · have : cnt (lms s) (q + 1) = cnt (lms s) q + 1 := by rw [cnt_succ, if_pos hq]
    rw [← this, ← cnt_restrict (P := lms s) (x := q + 1) n (by omega)]
    refine cnt_congr n (fun p hp => ?_)
    rw [Bool.eq_iff_iff]
    simp only [below, Bool.and_eq_true, decide_eq_true_eq]
    constructor
    · rintro ⟨h1, h2⟩
      refine ⟨h1, ?_⟩
      rcases Nat.lt_or_ge p (q + 1) with h3 | h3
      · exact h3
      · have := lms_apart h1 hq (by omega); omega
    · rintro ⟨h1, h2⟩; exact ⟨h1, by omega⟩

theorem below_mis {x : Nat} (h : ∀ p, p < n → lms s p = true → m + p / 2 ≠ x) : cnt (below s m (x + 1)) n = cnt (below s m x) n := by
  refine cnt_congr n (fun p hp => ?_)
  rw [Bool.eq_iff_iff]
  simp only [below, Bool.and_eq_true, decide_eq_true_eq]
  constructor
  · rintro ⟨h1, h2⟩
    have := h p hp h1
    exact ⟨h1, by omega⟩
  · rintro ⟨h1, h2⟩; exact ⟨h1, by omega⟩

structure CI (n : Nat) (s : Nat → Bool) (m : Nat) (g nm : Nat → Nat) (O : Nat → Int) (x J : Nat) (cur : Nat → Int) : Prop where
  le : m ≤ x ∧ x ≤ J ∧ J ≤ n
  cn : J = n - m + cnt (below s m x) n
  old : ∀ y, y < x → cur y = O y
  new : ∀ j, j < m → x ≤ m + g j / 2 → cur (n - m + cnt (lms s) (g j)) = (nm j : Int)

theorem CI.start (hT : Ty n t s) (hm : m = cnt (lms s) n) (hg : Gat n t s m g) : CI n s m g nm O n n O := by
  have hc := lms_count hT
  have h1 : cnt (below s m n) n = cnt (lms s) n := cnt_congr n (fun p hp => by
    cases hl : lms s p with
    | false => simp [below, hl]
    | true =>
      have := lms_last hT hp hl
      simp [below, hl]; omega)
  refine ⟨⟨by omega, Nat.le_refl _, Nat.le_refl _⟩, by rw [h1]; omega, fun y _ => rfl, fun j hj h => ?_⟩
  have := hg.room hT hm hj
  omega

theorem CI.push (hm : m = cnt (lms s) n) (hg : Gat n t s m g) (hO : NI n m g nm m O) {x J : Nat} (h : CI n s m g nm O (x + 1) J cur) (hx : m ≤ x) (h0 : 0 ≤ O x) :
    0 < J ∧ x ≤ J - 1 ∧ CI n s m g nm O x (J - 1) (updF cur (J - 1) (O x)) := by
  have hle := h.le
  have : ∃ j, j < m ∧ x = m + g j / 2 := by
    apply Classical.byContradiction
    intro hn
    have := hO.mis x hx (by omega) (fun i hi e => hn ⟨i, hi, e⟩)
    omega
  obtain ⟨j, hj, e⟩ := this
  have hl := hg.lms j hj
  obtain ⟨b1, b2⟩ := below_hit (m := m) hl.2 hl.1
  have hcn := h.cn
  rw [e, b2] at hcn
  have hJ : J - 1 = n - m + cnt (lms s) (g j) := by omega
  refine ⟨by omega, by omega, ⟨by omega, by omega, by omega⟩, by rw [hJ, e, b1], fun y hy => ?_, fun i hi hxi => ?_⟩
  · rw [updF_ne _ _ (by omega)]; exact h.old y (by omega)
  · by_cases ei : i = j
    · subst ei
      rw [hJ, updF_same, e, hO.hit i hj]
    · have hne : cnt (lms s) (g i) ≠ cnt (lms s) (g j) := fun e' => ei (hg.inj i j hi hj (cnt_rank_inj (hg.lms i hi).2 hl.2 e'))
      rw [hJ, updF_ne _ _ (by omega)]
      refine h.new i hi ?_
      have : g i / 2 ≠ g j / 2 := fun e' => ei (hg.half hi hj e')
      omega

theorem CI.pass (hg : Gat n t s m g) (hO : NI n m g nm m O) {x J : Nat} (h : CI n s m g nm O (x + 1) J cur) (hx : m ≤ x) (h0 : O x < 0) : CI n s m g nm O x J cur := by
  have hle := h.le
  have hno : ∀ j, j < m → m + g j / 2 ≠ x := fun j hj e => by
    have := hO.hit j hj
    rw [e] at this; omega
  refine ⟨⟨hx, by omega, by omega⟩, ?_, fun y hy => h.old y (by omega), fun j hj hxj => h.new j hj (by have := hno j hj; omega)⟩
  rw [h.cn, below_mis]
  intro p hp hl e
  obtain ⟨j, hj, e'⟩ := hg.all p hp hl
  exact hno j hj (by rw [e']; exact e)

/-- What stands at the end: the string of the names. -/
theorem CI.done (hT : Ty n t s) (hm : m = cnt (lms s) n) (hg : Gat n t s m g) (hn : Names n t s m g nm) {J : Nat} (h : CI n s m g nm O m J cur) :
    ∃ u L : Nat → Nat, (∀ x, x < m → cur (n - m + x) = (u x : Int)) ∧ (∀ x, x < m → L x < n ∧ lms s (L x) = true ∧ cnt (lms s) (L x) = x) ∧ Red n t s m L u ∧
      (∀ x, x < m → u x ≤ nm (m - 1)) ∧ (m ≤ nm (m - 1) + 1 → (∀ x, x < m → u x < m) ∧ ∀ x y, x < m → y < m → u x = u y → x = y) := by
  have hu : ∀ j, j < m → (cur (n - m + cnt (lms s) (g j))).toNat = nm j := fun j hj => by
    rw [h.new j hj (by omega)]; simp
  obtain ⟨L, hL⟩ := cnt_sel (lms s) n
  rw [← hm] at hL
  have hidx : ∀ x, x < m → ∃ j, j < m ∧ cnt (lms s) (g j) = x := fun x hx => by
    obtain ⟨h1, h2, h3⟩ := hL x hx
    obtain ⟨j, h4, h5⟩ := hg.all _ h1 h2
    exact ⟨j, h4, by rw [h5, h3]⟩
  have hmono : ∀ j, j < m → nm j ≤ nm (m - 1) ∧ nm (m - 1) ≤ nm j + (m - 1 - j) ∧ nm j ≤ j := fun j hj => by
    have h1 := hn.mono (m - 1 - j) j (by omega)
    have h2 := hn.mono j 0 (by omega)
    rw [show j + (m - 1 - j) = m - 1 from by omega] at h1
    rw [hn.zero, Nat.zero_add] at h2
    omega
  refine ⟨fun x => (cur (n - m + x)).toNat, L, fun x hx => ?_, hL, red_of hT hm hg hn hL hu, fun x hx => ?_, fun hall => ⟨fun x hx => ?_, fun x y hx hy e => ?_⟩⟩
  · obtain ⟨j, hj, e⟩ := hidx x hx
    show _ = (((cur (n - m + x)).toNat : Nat) : Int)
    rw [← e, h.new j hj (by omega)]; simp
  · obtain ⟨j, hj, e⟩ := hidx x hx
    show (cur (n - m + x)).toNat ≤ _
    rw [← e, hu j hj]; exact (hmono j hj).1
  · obtain ⟨j, hj, e⟩ := hidx x hx
    show (cur (n - m + x)).toNat < m
    rw [← e, hu j hj]
    have := hmono j hj
    omega
  · obtain ⟨i, hi, e1⟩ := hidx x hx
    obtain ⟨j, hj, e2⟩ := hidx y hy
    have e : (cur (n - m + x)).toNat = (cur (n - m + y)).toNat := e
    rw [← e1, ← e2, hu i hi, hu j hj] at e
    have h1 := hmono i hi
    have h2 := hmono j hj
    have : i = j := by omega
    rw [← e1, ← e2, this]

theorem IsSA.nat {u : Nat → Nat} (h : IsSA m u B) : ∃ B' : Nat → Nat, (∀ i, i < m → B i = (B' i : Int) ∧ B' i < m) ∧ IsSA m u (fun i => (B' i : Int)) := by
  have hb : ∀ i, i < m → B i = ((B i).toNat : Int) ∧ (B i).toNat < m := fun i hi => by
    obtain ⟨p, h1, h2⟩ := h.rng i hi
    omega
  refine ⟨fun i => (B i).toNat, hb, fun j hj => ?_, fun j j' hj hj' e => ?_, fun p hp => ?_, fun j j' p q hj hj' e e' hl => ?_⟩
  · exact ⟨_, (hb j hj).2, rfl⟩
  · have h1 := hb j hj
    have h2 := hb j' hj'
    exact h.inj j j' hj hj' (by simp only at e; omega)
  · obtain ⟨j, h1, h2⟩ := h.all p hp
    exact ⟨j, h1, by have := hb j h1; simp only; omega⟩
  · have h1 := hb j hj
    have h2 := hb j' hj'
    simp only at e e'
    exact h.ord j j' p q hj hj' (by omega) (by omega) hl

/-! ### the positions behind the sorted names -/
structure RI (n : Nat) (s : Nat → Bool) (m : Nat) (B : Nat → Nat) (i : Nat) (cur : Nat → Int) : Prop where
  pos : ∀ p, p < i → lms s p = true → cur (n - m + cnt (lms s) p) = (p : Int)
  low : ∀ x, x < m → cur x = (B x : Int)
theorem RI.push {i : Nat} {B : Nat → Nat} (hmm : m ≤ n - m) (h : RI n s m B i cur) (hl : lms s i = true) : cnt (lms s) (i + 1) = cnt (lms s) i + 1 ∧ RI n s m B (i + 1) (updF cur (n - m + cnt (lms s) i) (i : Int)) := by
  refine ⟨by rw [cnt_succ, if_pos hl], fun p hp hlp => ?_, fun x hx => ?_⟩
  · by_cases e : p = i
    · subst e; exact updF_same _ _ _
    · have := cnt_rank (show p < i from by omega) hlp
      rw [updF_ne _ _ (by omega)]; exact h.pos p (by omega) hlp
  · rw [updF_ne _ _ (by omega)]; exact h.low x hx
theorem RI.pass {i : Nat} {B : Nat → Nat} (h : RI n s m B i cur) (hl : lms s i = false) : cnt (lms s) (i + 1) = cnt (lms s) i ∧ RI n s m B (i + 1) cur := by
  refine ⟨by rw [cnt_succ, hl]; rfl, fun p hp hlp => ?_, h.low⟩
  by_cases e : p = i
  · subst e; rw [hl] at hlp; cases hlp
  · exact h.pos p (by omega) hlp

structure QI (n m : Nat) (L B : Nat → Nat) (x : Nat) (cur : Nat → Int) : Prop where
  done : ∀ y, y < x → cur y = (L (B y) : Int)
  rest : ∀ y, x ≤ y → y < m → cur y = (B y : Int)
  pos : ∀ y, y < m → cur (n - m + y) = (L y : Int)
theorem QI.start {L B : Nat → Nat} (hL : ∀ x, x < m → L x < n ∧ lms s (L x) = true ∧ cnt (lms s) (L x) = x) (h : RI n s m B n cur) : QI n m L B 0 cur := by
  refine ⟨fun y hy => by omega, fun y _ hy => h.low y hy, fun y hy => ?_⟩
  obtain ⟨h1, h2, h3⟩ := hL y hy
  have := h.pos _ h1 h2
  rw [h3] at this; exact this
theorem QI.push {L B : Nat → Nat} {x : Nat} (hmm : m ≤ n - m) (h : QI n m L B x cur) (hx : x < m) : QI n m L B (x + 1) (updF cur x (L (B x) : Int)) := by
  refine ⟨fun y hy => ?_, fun y hy hm => ?_, fun y hy => ?_⟩
  · by_cases e : y = x
    · subst e; exact updF_same _ _ _
    · rw [updF_ne _ _ e]; exact h.done y (by omega)
  · rw [updF_ne _ _ (by omega)]; exact h.rest y (by omega) hm
  · rw [updF_ne _ _ (by omega)]; exact h.pos y hy
end

end Go.Proofs.Qxb6602663a.Sa
