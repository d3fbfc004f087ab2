/-
  Plain mathematics: counting sorts, ranks by doubling, two sorted arrangements.
-/
import Derived.Test.Qxb6602663aLf
namespace Go.Proofs.Qxb6602663a.Rk
open Go.Proofs.Qxb6602663a.Sym (cnt cnt_congr cnt_le cnt_lt cnt_change cnt_or cnt_restrict)
open Go.Proofs.Qxb6602663a.Sa (Nc Bk Bk_eq Bk_le cnt_le_n cnt_succ cnt_le_of pig pig_onto updF updF_same updF_ne)
open Go.Proofs.Qxb6602663a.Rot (Lt Same Bad Per)
open Go.Proofs.Qxb6602663a.Lf (Rows cnt_map)
set_option linter.unusedVariables false

/-! ### the place of an item in a stable counting sort -/
def pos (n : Nat) (κ : Nat → Nat) (i : Nat) : Nat := cnt (fun x => decide (κ x < κ i) || (decide (κ x = κ i) && decide (x < i))) n

theorem pos_lt {n : Nat} {κ : Nat → Nat} {i : Nat} (hi : i < n) : pos n κ i < n := by
  unfold pos
  have h1 := cnt_lt (P := fun x => decide (κ x < κ i) || (decide (κ x = κ i) && decide (x < i))) (Q := fun _ => true) n (fun _ _ _ => rfl) i hi rfl (by simp)
  have h2 := cnt_le_n (fun _ => true) n
  omega
theorem pos_eq {n : Nat} {κ : Nat → Nat} {i : Nat} (hi : i < n) : pos n κ i = Bk n κ (κ i) + Nc i κ (κ i) := by
  unfold pos
  rw [cnt_or n (fun x _ h => by simp at h; omega), cnt_restrict (P := fun x => decide (κ x = κ i)) (x := i) n (by omega), Bk_eq]
  rfl
theorem pos_mono {n : Nat} {κ : Nat → Nat} {i j : Nat} (hi : i < n) (hj : j < n) (h : κ i < κ j ∨ (κ i = κ j ∧ i < j)) : pos n κ i < pos n κ j := by
  unfold pos
  refine cnt_lt n (fun x hx hh => ?_) i hi ?_ (by simp)
  · simp only [Bool.or_eq_true, Bool.and_eq_true, decide_eq_true_eq] at hh ⊢
    omega
  · simp only [Bool.or_eq_true, Bool.and_eq_true, decide_eq_true_eq]
    exact h
theorem pos_inj {n : Nat} {κ : Nat → Nat} {i j : Nat} (hi : i < n) (hj : j < n) (h : pos n κ i = pos n κ j) : i = j := by
  rcases Nat.lt_trichotomy (κ i) (κ j) with h1 | h1 | h1
  · have := pos_mono hi hj (.inl h1); omega
  · rcases Nat.lt_trichotomy i j with h2 | h2 | h2
    · have := pos_mono hi hj (.inr ⟨h1, h2⟩); omega
    · exact h2
    · have := pos_mono hj hi (.inr ⟨h1.symm, h2⟩); omega
  · have := pos_mono hj hi (.inl h1); omega
theorem pos_onto {n : Nat} {κ : Nat → Nat} {y : Nat} (hy : y < n) : ∃ i, i < n ∧ pos n κ i = y :=
  pig_onto (P := fun _ => true) (fun k hk => ⟨pos_lt hk, rfl⟩) (fun i j hi hj e => pos_inj hi hj e) (cnt_le_n _ _) hy rfl
/-- The order of places is the order of keys, then of items. -/
theorem pos_rev {n : Nat} {κ : Nat → Nat} {i j : Nat} (hi : i < n) (hj : j < n) (h : pos n κ i < pos n κ j) : κ i < κ j ∨ (κ i = κ j ∧ i < j) := by
  apply Classical.byContradiction
  intro hn
  have : i ≠ j := fun e => by subst e; omega
  have := pos_mono (κ := κ) hj hi (by omega)
  omega

/-- Where the next item of a key goes. -/
theorem place_eq {n : Nat} {κ key : Nat → Nat} (hb : ∀ v, Bk n key v = Bk n κ v) {i : Nat} (hi : i < n) : Bk n key (κ i) + Nc i κ (κ i) = pos n κ i := by rw [hb, pos_eq hi]

/-- Sorting the items 'it', one-to-one, by 'key': starts are the same. -/
theorem bk_map {n : Nat} {it key : Nat → Nat} (h : ∀ k, k < n → it k < n) (hi : ∀ k k', k < n → k' < n → it k = it k' → k = k') (v : Nat) : Bk n key v = Bk n (fun i => key (it i)) v := by
  rw [Bk_eq, Bk_eq]
  exact (cnt_map h hi (fun p => decide (key p < v))).symm

/-! ### two sorted arrangements of the rotations -/
theorem sorted_same {n : Nat} {g x y : Nat → Nat} (hx : Rows n g x) (hy : Rows n g y) {k : Nat} (hk : k < n) : Same n g (x k) (y k) := by
  have hdec : ∀ P : Nat → Prop, ∃ Q : Nat → Bool, ∀ p, Q p = true ↔ P p := fun P => by
    have : ∀ p, ∃ b : Bool, b = true ↔ P p := fun p => by
      by_cases h : P p
      · exact ⟨true, by simp [h]⟩
      · exact ⟨false, by simp [h]⟩
    exact Classical.axiomOfChoice this
  have main : ∀ x y : Nat → Nat, Rows n g x → Rows n g y → ¬ Lt n g (x k) (y k) := fun x y hx hy h => by
    obtain ⟨Q, hQ⟩ := hdec (fun p => ¬ Lt n g (x k) p)
    have c1 := cnt_map hx.lt hx.inj Q
    have c2 := cnt_map hy.lt hy.inj Q
    have c3 : cnt (fun z => decide (z < k + 1)) n ≤ cnt (fun z => Q (x z)) n := cnt_le n (fun z hz hh => by
      simp only [decide_eq_true_eq] at hh
      refine (hQ _).2 (fun hl => ?_)
      rcases Nat.lt_or_ge z k with h5 | h5
      · exact hx.ord z k h5 hk hl
      · rw [show z = k from by omega] at hl; exact hl.irrefl)
    have c4 : cnt (fun z => Q (y z)) n ≤ cnt (fun z => decide (z < k)) n := cnt_le n (fun z hz hh => by
      have hh' := (hQ _).1 hh
      simp only [decide_eq_true_eq]
      apply Classical.byContradiction
      intro hge
      apply hh'
      rcases Nat.lt_or_ge k z with h5 | h5
      · have h7 := hy.ord k z h5 hz
        rcases Rot.tri n g (y k) (y z) with h8 | h8 | h8
        · exact h.trans h8
        · exact h.same_right h8
        · exact absurd h8 h7
      · rw [show z = k from by omega]; exact h)
    rw [Sym.cnt_lt_self n _ (by omega)] at c3 c4
    omega
  rcases Rot.tri n g (x k) (y k) with h | h | h
  · exact absurd h (main x y hx hy)
  · exact h
  · exact absurd h (main y x hy hx)

/-! ### windows twice as long -/
theorem same_dbl {g : Nat → Nat} {s p q : Nat} : Same (s + s) g p q ↔ Same s g p q ∧ Same s g (p + s) (q + s) := by
  constructor
  · intro h
    refine ⟨fun d hd => h d (by omega), fun d hd => ?_⟩
    have := h (s + d) (by omega)
    rw [Nat.add_assoc, Nat.add_assoc]; exact this
  · rintro ⟨h1, h2⟩ d hd
    rcases Nat.lt_or_ge d s with h | h
    · exact h1 d h
    · have := h2 (d - s) (by omega)
      rw [show p + s + (d - s) = p + d from by omega, show q + s + (d - s) = q + d from by omega] at this
      exact this
theorem lt_dbl {g : Nat → Nat} {s p q : Nat} (h : Lt (s + s) g p q) : Lt s g p q ∨ (Same s g p q ∧ Lt s g (p + s) (q + s)) := by
  obtain ⟨k, hk, h1, h2⟩ := h
  rcases Nat.lt_or_ge k s with h3 | h3
  · exact .inl ⟨k, h3, h1, h2⟩
  · refine .inr ⟨fun d hd => h1 d (by omega), k - s, by omega, fun d hd => ?_, ?_⟩
    · have := h1 (s + d) (by omega)
      rw [Nat.add_assoc, Nat.add_assoc]; exact this
    · rw [show p + s + (k - s) = p + k from by omega, show q + s + (k - s) = q + k from by omega]; exact h2

/-- The ranks order the windows of length s. -/
structure RK (n s : Nat) (g rank : Nat → Nat) : Prop where
  lt : ∀ p q, p < n → q < n → Lt s g p q → rank p < rank q
  eq : ∀ p q, p < n → q < n → Same s g p q → rank p = rank q

theorem RK.same {n s : Nat} {g rank : Nat → Nat} (h : RK n s g rank) {p q : Nat} (hp : p < n) (hq : q < n) (e : rank p = rank q) : Same s g p q := by
  rcases Rot.tri s g p q with h1 | h1 | h1
  · have := h.lt p q hp hq h1; omega
  · exact h1
  · have := h.lt q p hq hp h1; omega
theorem RK.rev {n s : Nat} {g rank : Nat → Nat} (h : RK n s g rank) {p q : Nat} (hp : p < n) (hq : q < n) (e : rank p < rank q) : Lt s g p q := by
  rcases Rot.tri s g p q with h1 | h1 | h1
  · exact h1
  · have := h.eq p q hp hq h1; omega
  · have := h.lt q p hq hp h1; omega

theorem lt_mod {n s : Nat} {g : Nat → Nat} (hp : Per n g) {p q : Nat} : Lt s g (p % n) (q % n) ↔ Lt s g p q := by
  unfold Lt
  constructor <;> rintro ⟨k, h1, h2, h3⟩ <;> refine ⟨k, h1, fun d hd => ?_, ?_⟩
  · have := h2 d hd; rw [Rot.per_mod hp, Rot.per_mod hp] at this; exact this
  · rw [Rot.per_mod hp, Rot.per_mod hp] at h3; exact h3
  · rw [Rot.per_mod hp, Rot.per_mod hp]; exact h2 d hd
  · rw [Rot.per_mod hp, Rot.per_mod hp]; exact h3
theorem same_modm {n s : Nat} {g : Nat → Nat} (hp : Per n g) {p q : Nat} : Same s g (p % n) (q % n) ↔ Same s g p q := by
  unfold Same
  constructor <;> intro h d hd
  · have := h d hd; rw [Rot.per_mod hp, Rot.per_mod hp] at this; exact this
  · rw [Rot.per_mod hp, Rot.per_mod hp]; exact h d hd

/-- Behind the two counting sorts: the rows by the windows twice as long. -/
structure Srt (n s : Nat) (g rank rows : Nat → Nat) : Prop where
  lt : ∀ y, y < n → rows y < n
  inj : ∀ y y', y < n → y' < n → rows y = rows y' → y = y'
  ord : ∀ y y', y < y' → y' < n → rank (rows y) < rank (rows y') ∨ (rank (rows y) = rank (rows y') ∧ rank ((rows y + s) % n) ≤ rank ((rows y' + s) % n))

theorem srt_of {n s : Nat} {g rank bs rows : Nat → Nat} (h1 : ∀ p, p < n → bs (pos n (fun p => rank ((p + s) % n)) p) = p) (h2 : ∀ i, i < n → rows (pos n (fun i => rank (bs i)) i) = bs i) :
    ((∀ i, i < n → bs i < n) ∧ ∀ i j, i < n → j < n → bs i = bs j → i = j) ∧ Srt n s g rank rows := by
  have hb : ∀ i, i < n → bs i < n ∧ pos n (fun p => rank ((p + s) % n)) (bs i) = i := fun i hi => by
    obtain ⟨p, hp, e⟩ := pos_onto (κ := fun p => rank ((p + s) % n)) hi
    have := h1 p hp
    rw [e] at this
    rw [this]
    exact ⟨hp, e⟩
  have hbi : ∀ i j, i < n → j < n → bs i = bs j → i = j := fun i j hi hj e => by
    rw [← (hb i hi).2, ← (hb j hj).2, e]
  have hr : ∀ y, y < n → ∃ i, i < n ∧ rows y = bs i ∧ pos n (fun i => rank (bs i)) i = y := fun y hy => by
    obtain ⟨i, hi, e⟩ := pos_onto (κ := fun i => rank (bs i)) hy
    have := h2 i hi
    rw [e] at this
    exact ⟨i, hi, this, e⟩
  refine ⟨⟨fun i hi => (hb i hi).1, hbi⟩, fun y hy => ?_, fun y y' hy hy' e => ?_, fun y y' hyy hy' => ?_⟩
  · obtain ⟨i, hi, e, _⟩ := hr y hy
    rw [e]; exact (hb i hi).1
  · obtain ⟨i, hi, e1, e2⟩ := hr y hy
    obtain ⟨j, hj, e3, e4⟩ := hr y' hy'
    have := hbi i j hi hj (by rw [← e1, ← e3]; exact e)
    rw [← e2, ← e4, this]
  · obtain ⟨i, hi, e1, e2⟩ := hr y (by omega)
    obtain ⟨j, hj, e3, e4⟩ := hr y' hy'
    rw [e1, e3]
    rcases pos_rev hi hj (by omega : pos n (fun i => rank (bs i)) i < pos n (fun i => rank (bs i)) j) with h | ⟨h, hij⟩
    · exact .inl h
    · refine .inr ⟨h, ?_⟩
      have a1 := hb i hi
      have a2 := hb j hj
      rcases pos_rev a1.1 a2.1 (by rw [a1.2, a2.2]; exact hij) with h3 | ⟨h3, _⟩
      · exact Nat.le_of_lt h3
      · exact Nat.le_of_eq h3

/-- nr i counts the rows up to i that differ from the one before. -/
structure NR (n s : Nat) (rank rows nr : Nat → Nat) : Prop where
  zero : nr 0 = 0
  same : ∀ i, i + 1 < n → rank (rows i) = rank (rows (i + 1)) → rank ((rows i + s) % n) = rank ((rows (i + 1) + s) % n) → nr (i + 1) = nr i
  more : ∀ i, i + 1 < n → ¬ (rank (rows i) = rank (rows (i + 1)) ∧ rank ((rows i + s) % n) = rank ((rows (i + 1) + s) % n)) → nr (i + 1) = nr i + 1

theorem nr_ex (n s : Nat) (rank rows : Nat → Nat) : ∃ nr, NR n s rank rows nr ∧ ∀ i, nr i ≤ i := by
  refine ⟨fun i => cnt (fun x => !(decide (rank (rows x) = rank (rows (x + 1))) && decide (rank ((rows x + s) % n) = rank ((rows (x + 1) + s) % n)))) i, ⟨rfl, fun i _ h1 h2 => ?_, fun i _ h => ?_⟩, fun i => cnt_le_n _ _⟩
  · show cnt _ (i + 1) = cnt _ i
    rw [cnt_succ]; simp [h1, h2]
  · show cnt _ (i + 1) = cnt _ i + 1
    rw [cnt_succ]
    by_cases h1 : rank (rows i) = rank (rows (i + 1))
    · by_cases h2 : rank ((rows i + s) % n) = rank ((rows (i + 1) + s) % n)
      · exact absurd ⟨h1, h2⟩ h
      · simp [h2]
    · simp [h1]

theorem NR.mono {n s : Nat} {rank rows nr : Nat → Nat} (h : NR n s rank rows nr) : ∀ d i, i + d < n → nr i ≤ nr (i + d) := by
  intro d
  induction d with
  | zero => intro i _; exact Nat.le_refl _
  | succ d ih =>
    intro i hi
    have h1 := ih i (by omega)
    rw [show i + (d + 1) = i + d + 1 from by omega]
    by_cases hd : rank (rows (i + d)) = rank (rows (i + d + 1)) ∧ rank ((rows (i + d) + s) % n) = rank ((rows (i + d + 1) + s) % n)
    · rw [h.same (i + d) (by omega) hd.1 hd.2]; exact h1
    · rw [h.more (i + d) (by omega) hd]; omega

/-- The new ranks. -/
theorem rk_dbl {n s : Nat} {g rank rows nr next : Nat → Nat} (hp : Per n g) (hn : 0 < n) (hR : RK n s g rank) (hS : Srt n s g rank rows) (hN : NR n s rank rows nr) (hnx : ∀ i, i < n → next (rows i) = nr i) : RK n (s + s) g next := by
  have hmod : ∀ p, (p + s) % n < n := fun p => Nat.mod_lt _ hn
  have hidx : ∀ p, p < n → ∃ y, y < n ∧ rows y = p := fun p hpn => pig_onto (P := fun _ => true) (fun k hk => ⟨hS.lt k hk, rfl⟩) hS.inj (cnt_le_n _ _) hpn rfl
  -- keys and windows
  have hsame : ∀ p q, p < n → q < n → (Same (s + s) g p q ↔ (rank p = rank q ∧ rank ((p + s) % n) = rank ((q + s) % n))) := fun p q h1 h2 => by
    rw [same_dbl]
    constructor
    · rintro ⟨e1, e2⟩
      exact ⟨hR.eq p q h1 h2 e1, hR.eq _ _ (hmod p) (hmod q) ((same_modm hp).2 e2)⟩
    · rintro ⟨e1, e2⟩
      exact ⟨hR.same h1 h2 e1, (same_modm hp).1 (hR.same (hmod p) (hmod q) e2)⟩
  have hlt : ∀ p q, p < n → q < n → Lt (s + s) g p q → rank p < rank q ∨ (rank p = rank q ∧ rank ((p + s) % n) < rank ((q + s) % n)) := fun p q h1 h2 h => by
    rcases lt_dbl h with h3 | ⟨h3, h4⟩
    · exact .inl (hR.lt p q h1 h2 h3)
    · exact .inr ⟨hR.eq p q h1 h2 h3, hR.lt _ _ (hmod p) (hmod q) ((lt_mod hp).2 h4)⟩
  have hord : ∀ y y', y ≤ y' → y' < n → rank (rows y) < rank (rows y') ∨ (rank (rows y) = rank (rows y') ∧ rank ((rows y + s) % n) ≤ rank ((rows y' + s) % n)) := fun y y' h1 h2 => by
    rcases Nat.lt_or_ge y y' with h3 | h3
    · exact hS.ord y y' h3 h2
    · rw [show y = y' from by omega]; exact .inr ⟨rfl, Nat.le_refl _⟩
  -- equal keys along the way give equal numbers, and back
  have hrun : ∀ d y, y + d < n → rank (rows y) = rank (rows (y + d)) → rank ((rows y + s) % n) = rank ((rows (y + d) + s) % n) → nr y = nr (y + d) := by
    intro d
    induction d with
    | zero => intro y _ _ _; rfl
    | succ d ih =>
      intro y hy e1 e2
      rw [show y + (d + 1) = y + d + 1 from by omega] at e1 e2 ⊢
      have o1 := hord y (y + d) (by omega) (by omega)
      have o2 := hord (y + d) (y + d + 1) (by omega) (by omega)
      have k1 : rank (rows y) = rank (rows (y + d)) := by omega
      have k2 : rank ((rows y + s) % n) = rank ((rows (y + d) + s) % n) := by omega
      rw [ih y (by omega) k1 k2, hN.same (y + d) (by omega) (by omega) (by omega)]
  have hback : ∀ d y, y + d < n → nr y = nr (y + d) → rank (rows y) = rank (rows (y + d)) ∧ rank ((rows y + s) % n) = rank ((rows (y + d) + s) % n) := by
    intro d
    induction d with
    | zero => intro y _ _; exact ⟨rfl, rfl⟩
    | succ d ih =>
      intro y hy e
      rw [show y + (d + 1) = y + d + 1 from by omega] at e ⊢
      have m1 := hN.mono d y (by omega)
      have m2 := hN.mono 1 (y + d) (by omega)
      obtain ⟨k1, k2⟩ := ih y (by omega) (by omega)
      by_cases hd : rank (rows (y + d)) = rank (rows (y + d + 1)) ∧ rank ((rows (y + d) + s) % n) = rank ((rows (y + d + 1) + s) % n)
      · exact ⟨k1.trans hd.1, k2.trans hd.2⟩
      · have := hN.more (y + d) (by omega) hd
        omega
  refine ⟨fun p q h1 h2 hl => ?_, fun p q h1 h2 hs => ?_⟩
  · obtain ⟨y, hy, rfl⟩ := hidx p h1
    obtain ⟨y', hy', rfl⟩ := hidx q h2
    have hk := hlt _ _ h1 h2 hl
    have hyy : y < y' := by
      apply Classical.byContradiction
      intro hn'
      have := hord y' y (by omega) hy
      omega
    rw [hnx y hy, hnx y' hy']
    have m1 := hN.mono (y' - y) y (by omega)
    rw [show y + (y' - y) = y' from by omega] at m1
    rcases Nat.lt_or_ge (nr y) (nr y') with h3 | h3
    · exact h3
    · have := hback (y' - y) y (by omega) (by rw [show y + (y' - y) = y' from by omega]; omega)
      rw [show y + (y' - y) = y' from by omega] at this
      omega
  · obtain ⟨y, hy, rfl⟩ := hidx p h1
    obtain ⟨y', hy', rfl⟩ := hidx q h2
    obtain ⟨k1, k2⟩ := (hsame _ _ h1 h2).1 hs
    rw [hnx y hy, hnx y' hy']
    rcases Nat.le_total y y' with h3 | h3
    · have := hrun (y' - y) y (by omega) (by rw [show y + (y' - y) = y' from by omega]; exact k1) (by rw [show y + (y' - y) = y' from by omega]; exact k2)
      rw [show y + (y' - y) = y' from by omega] at this; exact this
    · have := hrun (y - y') y' (by omega) (by rw [show y' + (y - y') = y from by omega]; exact k1.symm) (by rw [show y' + (y - y') = y from by omega]; exact k2.symm)
      rw [show y' + (y - y') = y from by omega] at this; exact this.symm

theorem rk_one {n : Nat} {g f : Nat → Nat} (h : ∀ i, i < n → g i = f i) : RK n 1 g f := by
  refine ⟨fun p q hp hq hl => ?_, fun p q hp hq hs => ?_⟩
  · obtain ⟨k, hk, _, h2⟩ := hl
    rw [show k = 0 from by omega] at h2
    simp only [Nat.add_zero] at h2
    rw [h p hp, h q hq] at h2; exact h2
  · have := hs 0 (by omega)
    simp only [Nat.add_zero] at this
    rw [h p hp, h q hq] at this; exact this

/-- Windows of n or more are whole rotations. -/
theorem rk_whole {n s : Nat} {g rank : Nat → Nat} (hp : Per n g) (hn : 0 < n) (hs : n ≤ s) (h : RK n s g rank) : RK n n g rank := by
  refine ⟨fun p q h1 h2 hl => h.lt p q h1 h2 ?_, fun p q h1 h2 hs' => h.eq p q h1 h2 (fun d hd => ?_)⟩
  · obtain ⟨k, hk, h3⟩ := hl
    exact ⟨k, by omega, h3⟩
  · rcases Nat.le_total p q with h3 | h3
    · exact Rot.per_of_same hp hn h3 hs' d
    · exact (Rot.per_of_same hp hn h3 hs'.symm d).symm

/-- The positions listed by rank are sorted rotations. -/
theorem rows_by_rank {n : Nat} {g rank rows : Nat → Nat} (hR : RK n n g rank) (h : ∀ p, p < n → rows (pos n rank p) = p) : Rows n g rows := by
  have hr : ∀ y, y < n → rows y < n ∧ pos n rank (rows y) = y := fun y hy => by
    obtain ⟨p, hp, e⟩ := pos_onto (κ := rank) hy
    have := h p hp
    rw [e] at this
    rw [this]; exact ⟨hp, e⟩
  refine ⟨fun y hy => (hr y hy).1, fun y y' hy hy' e => by rw [← (hr y hy).2, ← (hr y' hy').2, e], fun y y' hyy hy' hl => ?_⟩
  have a := hr y (by omega)
  have b := hr y' hy'
  have := hR.lt _ _ b.1 a.1 hl
  have h3 := pos_rev a.1 b.1 (by rw [a.2, b.2]; exact hyy)
  omega

/-- The sorted suffixes of the turned text, as positions of the text. -/
theorem rows_turn {n r : Nat} {f a : Nat → Nat} (hn : 0 < n) (hr : r < n) (h : Rows n (fun i => f ((r + i) % n)) a) : Rows n (fun i => f (i % n)) (fun k => (r + a k) % n) := by
  have hp : Per n (fun i => f (i % n)) := fun x => by show f ((x + n) % n) = f (x % n); rw [Nat.add_mod_right]
  refine ⟨fun k hk => Nat.mod_lt _ hn, fun k k' hk hk' e => h.inj k k' hk hk' ?_, fun k k' hkk hk' hl => h.ord k k' hkk hk' ?_⟩
  · have h1 := h.lt k hk
    have h2 := h.lt k' hk'
    have e : (r + a k) % n = (r + a k') % n := e
    have key : ∀ x, x < n → (r + x) % n = if r + x < n then r + x else r + x - n := fun x hx => by
      split
      · rename_i h3; exact Nat.mod_eq_of_lt h3
      · rename_i h3; rw [Nat.mod_eq_sub_mod (by omega), Nat.mod_eq_of_lt (by omega)]
    rw [key _ h1, key _ h2] at e
    split at e <;> split at e <;> omega
  · rw [lt_mod hp] at hl
    obtain ⟨k0, e1, e2, e3⟩ := hl
    refine ⟨k0, e1, fun d hd => ?_, ?_⟩
    · have := e2 d hd
      show f ((r + (a k' + d)) % n) = f ((r + (a k + d)) % n)
      rw [← Nat.add_assoc, ← Nat.add_assoc]; exact this
    · show f ((r + (a k' + k0)) % n) < f ((r + (a k + k0)) % n)
      rw [← Nat.add_assoc, ← Nat.add_assoc]; exact e3

end Go.Proofs.Qxb6602663a.Rk
