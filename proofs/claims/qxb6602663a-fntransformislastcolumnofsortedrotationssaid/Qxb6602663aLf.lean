/-
  Plain mathematics: the suffix array of the least rotation orders the rotations; the last-to-first map.
-/
import Derived.Test.Qxb6602663aSa5
import Derived.Test.Qxb6602663aRot
namespace Go.Proofs.Qxb6602663a.Lf
open Go.Proofs.Qxb6602663a.Sym (cnt cnt_congr cnt_le cnt_lt cnt_change cnt_or cnt_restrict)
open Go.Proofs.Qxb6602663a.Sa (IsSA SLt TT TT_lt TT_ge pig cnt_surj cnt_sel cnt_rank cnt_rank_inj cnt_le_n cnt_onto)
open Go.Proofs.Qxb6602663a.Rot (Lt Same Bad Per)
set_option linter.unusedVariables false

/-- Counting through a one-to-one map of the places. -/
theorem cnt_map {n : Nat} {x : Nat → Nat} (hx : ∀ k, k < n → x k < n) (hi : ∀ k k', k < n → k' < n → x k = x k' → k = k') (Q : Nat → Bool) : cnt (fun k => Q (x k)) n = cnt Q n := by
  obtain ⟨L, hL⟩ := cnt_sel (fun k => Q (x k)) n
  have honto : ∀ p, p < n → ∃ k, k < n ∧ x k = p := fun p hp =>
    Sa.pig_onto (P := fun _ => true) (fun k hk => ⟨hx k hk, rfl⟩) hi (cnt_le_n _ _) hp rfl
  apply Nat.le_antisymm
  · refine pig _ Q (fun j => x (L j)) (fun j hj => ?_) (fun j j' hj hj' e => ?_)
    · obtain ⟨h1, h2, _⟩ := hL j hj
      exact ⟨hx _ h1, h2⟩
    · obtain ⟨h1, _, h3⟩ := hL j hj
      obtain ⟨h1', _, h3'⟩ := hL j' hj'
      have := hi _ _ h1 h1' e
      rw [← h3, ← h3', this]
  · refine cnt_surj _ Q (fun j => x (L j)) (fun p hp hQ => ?_)
    obtain ⟨k, hk, e⟩ := honto p hp
    have hQk : (fun k => Q (x k)) k = true := by show Q (x k) = true; rw [e]; exact hQ
    have hj := cnt_rank (P := fun k => Q (x k)) hk hQk
    refine ⟨_, hj, ?_⟩
    obtain ⟨h1, h2, h3⟩ := hL _ hj
    show x (L _) = p
    rw [← e]
    congr 1
    exact cnt_rank_inj (P := fun k => Q (x k)) h2 hQk h3

section
variable {n : Nat} {G : Nat → Nat}

/-- Of the least rotation, a lesser rotation starts a lesser suffix. -/
theorem slt_of_lt (hp : Per n G) (h0 : ¬ Bad n G 0) {p q : Nat} (hpn : p < n) (hqn : q < n) (h : Lt n G p q) : SLt n G p q := by
  obtain ⟨k, hk, he, hl⟩ := h
  rcases Nat.lt_trichotomy p q with hpq | hpq | hpq
  · by_cases hq : q + k < n
    · refine ⟨k, fun e hek => ?_, ?_⟩
      · rw [TT_lt (by omega), TT_lt (by omega), he e hek]
      · rw [TT_lt (by omega), TT_lt (by omega)]; omega
    · exfalso
      refine h0 ⟨p + (n - q), k - (n - q), by omega, fun d hd => ?_, ?_⟩
      · have := he (n - q + d) (by omega)
        rw [show p + (n - q) + d = p + (n - q + d) from by omega, this, show q + (n - q + d) = d + n from by omega, hp, Nat.zero_add]
      · rw [show p + (n - q) + (k - (n - q)) = p + k from by omega]
        rw [show q + k = (k - (n - q)) + n from by omega, hp] at hl
        rw [Nat.zero_add]; exact hl
  · subst hpq; omega
  · by_cases hq : p + k < n
    · refine ⟨k, fun e hek => ?_, ?_⟩
      · rw [TT_lt (by omega), TT_lt (by omega), he e hek]
      · rw [TT_lt (by omega), TT_lt (by omega)]; omega
    · refine ⟨n - p, fun e hek => ?_, ?_⟩
      · rw [TT_lt (by omega), TT_lt (by omega), he e (by omega)]
      · rw [TT_ge (by omega), TT_lt (by omega)]; omega

/-- The rows: positions in the order of their rotations. -/
structure Rows (n : Nat) (G : Nat → Nat) (a : Nat → Nat) : Prop where
  lt : ∀ k, k < n → a k < n
  inj : ∀ k k', k < n → k' < n → a k = a k' → k = k'
  ord : ∀ k k', k < k' → k' < n → ¬ Lt n G (a k') (a k)

theorem rows_of {A : Nat → Int} {W : Nat → Nat} (hp : Per n G) (h0 : ¬ Bad n G 0) (hW : ∀ i, i < n → W i = G i) (h : IsSA n W A) : Rows n G (fun k => (A k).toNat) ∧ ∀ k, k < n → A k = (((A k).toNat : Nat) : Int) := by
  have hb : ∀ k, k < n → A k = (((A k).toNat : Nat) : Int) ∧ (A k).toNat < n := fun k hk => by
    obtain ⟨p, h1, h2⟩ := h.rng k hk
    omega
  refine ⟨⟨fun k hk => (hb k hk).2, fun k k' hk hk' e => h.inj k k' hk hk' (by
    have h1 := (hb k hk).1
    have h2 := (hb k' hk').1
    have e : (A k).toNat = (A k').toNat := e
    omega), fun k k' hkk hk' hl => ?_⟩, fun k hk => (hb k hk).1⟩
  have h1 := hb k (by omega)
  have h2 := hb k' hk'
  obtain ⟨d, e1, e2⟩ := slt_of_lt hp h0 h2.2 h1.2 hl
  have hTT : ∀ x, TT n W x = TT n G x := fun x => by
    by_cases hx : x < n
    · rw [TT_lt hx, TT_lt hx, hW x hx]
    · rw [TT_ge (by omega), TT_ge (by omega)]
  have := h.ord k' k _ _ hk' (by omega) h2.1 h1.1 ⟨d, fun e he => by rw [hTT, hTT]; exact e1 e he, by rw [hTT, hTT]; exact e2⟩
  omega

/-- The position before. -/
def prv (n p : Nat) : Nat := (p + (n - 1)) % n

theorem prv_lt (hn : 0 < n) (p : Nat) : prv n p < n := Nat.mod_lt _ hn
theorem prv_succ (hp : Per n G) (hn : 0 < n) (p d : Nat) : G (prv n p + (d + 1)) = G (p + d) := by
  unfold prv
  rw [Rot.per_mod hp, show p + (n - 1) + (d + 1) = p + d + n from by omega, hp]

theorem prv_inj {p q : Nat} (hp : p < n) (hq : q < n) (h : prv n p = prv n q) : p = q := by
  unfold prv at h
  have key : ∀ x, x < n → (x + (n - 1)) % n = if x = 0 then n - 1 else x - 1 := fun x hx => by
    by_cases h0 : x = 0
    · rw [if_pos h0, h0, Nat.zero_add, Nat.mod_eq_of_lt (by omega)]
    · rw [if_neg h0, show x + (n - 1) = x - 1 + n from by omega, Nat.add_mod_right, Nat.mod_eq_of_lt (by omega)]
  rw [key p hp, key q hq] at h
  split at h <;> split at h <;> omega

/-- The last column. -/
def Lc (n : Nat) (G a : Nat → Nat) (k : Nat) : Nat := G (prv n (a k))
/-- The last-to-first map. -/
def lf (n : Nat) (G a : Nat → Nat) (k : Nat) : Nat := cnt (fun x => decide (Lc n G a x < Lc n G a k) || (decide (Lc n G a x = Lc n G a k) && decide (x < k))) n

theorem lf_lt {a : Nat → Nat} {k : Nat} (hk : k < n) : lf n G a k < n := by
  unfold lf
  have h1 := cnt_lt (P := fun x => decide (Lc n G a x < Lc n G a k) || (decide (Lc n G a x = Lc n G a k) && decide (x < k))) (Q := fun _ => true) n (fun _ _ _ => rfl) k hk rfl (by simp)
  have h2 := cnt_le_n (fun _ => true) n
  omega

theorem lf_eq {a : Nat → Nat} {k : Nat} (hk : k < n) : lf n G a k = cnt (fun x => decide (Lc n G a x < Lc n G a k)) n + cnt (fun x => decide (Lc n G a x = Lc n G a k)) k := by
  unfold lf
  rw [cnt_or n (fun i _ h => by simp at h; omega), cnt_restrict (P := fun x => decide (Lc n G a x = Lc n G a k)) (x := k) n (by omega)]

/-- With equal symbols before them, rotations compare as before. -/
theorem lt_of_prv (hp : Per n G) (hn : 0 < n) {p q : Nat} (he : G (prv n p) = G (prv n q)) (h : Lt n G (prv n p) (prv n q)) : Lt n G p q := by
  obtain ⟨k, hk, h1, h2⟩ := h
  rcases Nat.eq_zero_or_pos k with h0 | h0
  · subst h0
    simp only [Nat.add_zero] at h2
    omega
  · refine ⟨k - 1, by omega, fun d hd => ?_, ?_⟩
    · have := h1 (d + 1) (by omega)
      rw [prv_succ hp hn, prv_succ hp hn] at this
      exact this
    · rw [show k = k - 1 + 1 from by omega, prv_succ hp hn, prv_succ hp hn] at h2
      exact h2

theorem lt_of_first {p q : Nat} (hn : 0 < n) (h : G p < G q) : Lt n G p q := ⟨0, hn, fun d hd => by omega, by simpa using h⟩

/-- THE LAST-TO-FIRST MAP: row 'lf k' is the rotation before that of row k. -/
theorem lf_same {a : Nat → Nat} (hp : Per n G) (hn : 0 < n) (ha : Rows n G a) {k : Nat} (hk : k < n) : Same n G (a (lf n G a k)) (prv n (a k)) := by
  have hlf := lf_lt (G := G) (a := a) hk
  have hx : ∀ x, x < n → prv n (a x) < n := fun x _ => prv_lt hn _
  have hxi : ∀ x x', x < n → x' < n → prv n (a x) = prv n (a x') → x = x' := fun x x' h1 h2 e => ha.inj x x' h1 h2 (prv_inj (ha.lt x h1) (ha.lt x' h2) e)
  -- rows by key keep the order
  have hkey : ∀ x x', x < n → x' < n → (Lc n G a x < Lc n G a x' ∨ (Lc n G a x = Lc n G a x' ∧ x ≤ x')) → ¬ Lt n G (prv n (a x')) (prv n (a x)) := fun x x' h1 h2 h hl => by
    rcases h with h | ⟨h, h3⟩
    · exact ((lt_of_first (G := G) (p := prv n (a x)) (q := prv n (a x')) hn h).trans hl).irrefl
    · have h4 := lt_of_prv hp hn h.symm hl
      rcases Nat.lt_or_ge x x' with h5 | h5
      · exact ha.ord x x' h5 h2 h4
      · have : x = x' := by omega
        subst this
        exact h4.irrefl
  have hdec : ∀ P : Nat → Prop, ∃ Q : Nat → Bool, ∀ p, Q p = true ↔ P p := fun P => by
    have : ∀ p, ∃ b : Bool, b = true ↔ P p := fun p => by
      by_cases h : P p
      · exact ⟨true, by simp [h]⟩
      · exact ⟨false, by simp [h]⟩
    exact Classical.axiomOfChoice this
  rcases Rot.tri n G (a (lf n G a k)) (prv n (a k)) with h | h | h
  · exfalso
    obtain ⟨Q, hQ⟩ := hdec (fun p => ¬ Lt n G (a (lf n G a k)) p)
    have c1 := cnt_map hx hxi Q
    have c2 : lf n G a k + 1 ≤ cnt Q n := pig _ Q a (fun z hz => ⟨ha.lt z (by omega), (hQ _).2 (fun hl => by
      rcases Nat.lt_or_ge z (lf n G a k) with h5 | h5
      · exact ha.ord z _ h5 hlf hl
      · have : z = lf n G a k := by omega
        subst this
        exact hl.irrefl)⟩) (fun z z' hz hz' e => ha.inj z z' (by omega) (by omega) e)
    have c3 : cnt (fun x => Q (prv n (a x))) n ≤ lf n G a k := by
      refine cnt_le n (fun x hx' hq => ?_)
      have hq' := (hQ _).1 hq
      simp only [Bool.or_eq_true, Bool.and_eq_true, decide_eq_true_eq]
      apply Classical.byContradiction
      intro hne
      have h6 : Lc n G a k < Lc n G a x ∨ (Lc n G a k = Lc n G a x ∧ k ≤ x) := by omega
      have h7 := hkey k x hk hx' h6
      -- k's is not greater than x's; so x's is greater than the row
      rcases Rot.tri n G (prv n (a k)) (prv n (a x)) with h8 | h8 | h8
      · exact hq' (h.trans h8)
      · exact hq' (h.same_right h8)
      · exact h7 h8
    omega
  · exact h
  · exfalso
    obtain ⟨Q, hQ⟩ := hdec (fun p => ¬ Lt n G (prv n (a k)) p)
    have c1 := cnt_map hx hxi Q
    have c2 := cnt_map ha.lt ha.inj Q
    have c3 : lf n G a k < cnt (fun x => Q (prv n (a x))) n := by
      refine cnt_lt n (fun x hx' hh => ?_) k hk ((hQ _).2 (fun hl => hl.irrefl)) (by simp)
      simp only [Bool.or_eq_true, Bool.and_eq_true, decide_eq_true_eq] at hh
      exact (hQ _).2 (hkey x k hx' hk (by omega))
    have c4 : cnt (fun z => Q (a z)) n ≤ lf n G a k := by
      have h9 : cnt (fun z => Q (a z)) n ≤ cnt (fun z => decide (z < lf n G a k)) n := cnt_le n (fun z hz hq => by
        have hq' := (hQ _).1 hq
        simp only [decide_eq_true_eq]
        rcases Nat.lt_or_ge z (lf n G a k) with h5 | h5
        · exact h5
        · exfalso
          apply hq'
          rcases Nat.lt_or_ge (lf n G a k) z with h6 | h6
          · have h7 := ha.ord _ z h6 hz
            rcases Rot.tri n G (a (lf n G a k)) (a z) with h8 | h8 | h8
            · exact h.trans h8
            · exact h.same_right h8
            · exact absurd h8 h7
          · have : z = lf n G a k := by omega
            rw [this]; exact h)
      rw [Sym.cnt_lt_self n _ (by omega)] at h9
      exact h9
    omega

theorem same_prv (hp : Per n G) (hn : 0 < n) {p y : Nat} (h : Same n G p (y + 1)) : Same n G (prv n p) y := by
  intro d hd
  rcases Nat.eq_zero_or_pos d with h0 | h0
  · subst h0
    unfold prv
    rw [Rot.per_mod hp, show p + (n - 1) + 0 = p + (n - 1) from rfl, h (n - 1) (by omega), show y + 1 + (n - 1) = y + 0 + n from by omega, hp]
  · rw [show d = d - 1 + 1 from by omega, prv_succ hp hn, h (d - 1) (by omega)]
    congr 1
    omega

/-- The symbol before a rotation that starts as the whole does at y + 1. -/
theorem prv_sym (hp : Per n G) (hn : 0 < n) {p y : Nat} (h : Same n G p (y + 1)) : G (prv n p) = G y := by
  have := same_prv hp hn h 0 hn
  simpa using this
end

/-- The text turned so that its least rotation comes first. -/
theorem turned {n r : Nat} {f : Nat → Nat} (hn : 0 < n) (h : Rot.First n (fun i => f (i % n)) r) : Per n (fun i => f ((r + i) % n)) ∧ ¬ Bad n (fun i => f ((r + i) % n)) 0 := by
  constructor
  · intro x
    show f ((r + (x + n)) % n) = f ((r + x) % n)
    rw [show r + (x + n) = r + x + n from by omega, Nat.add_mod_right]
  · rintro ⟨q, k, hk, h1, h2⟩
    refine h.2.1 ⟨r + q, k, hk, fun d hd => ?_, ?_⟩
    · have := h1 d hd
      show f ((r + q + d) % n) = f ((r + d) % n)
      rw [Nat.zero_add] at this
      rw [Nat.add_assoc]; exact this
    · show f ((r + q + k) % n) < f ((r + k) % n)
      rw [Nat.zero_add] at h2
      rw [Nat.add_assoc]; exact h2

theorem turned_back {n r : Nat} {f : Nat → Nat} (hn : 0 < n) (hr : r < n) {i : Nat} (hi : i < n) : (fun i => f ((r + i) % n)) ((n - r) % n + i) = f i := by
  show f ((r + ((n - r) % n + i)) % n) = f i
  congr 1
  rcases Nat.eq_zero_or_pos r with h | h
  · subst h
    rw [Nat.sub_zero, Nat.mod_self, Nat.zero_add, Nat.zero_add, Nat.mod_eq_of_lt hi]
  · rw [Nat.mod_eq_of_lt (show n - r < n from by omega), show r + (n - r + i) = i + n from by omega, Nat.add_mod_right, Nat.mod_eq_of_lt hi]

end Go.Proofs.Qxb6602663a.Lf
