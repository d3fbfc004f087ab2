/-
  Plain mathematics: the place in the move-to-front list, by recency.
-/
import Derived.Test.Qxb6602663aSym
namespace Go.Proofs.Qxb6602663a.Sym
set_option linter.unusedVariables false

def cnt (P : Nat → Bool) : Nat → Nat
  | 0 => 0
  | n + 1 => cnt P n + (if P n then 1 else 0)

theorem cnt_congr {P Q : Nat → Bool} : ∀ n, (∀ i, i < n → P i = Q i) → cnt P n = cnt Q n
  | 0, _ => rfl
  | n + 1, h => by simp only [cnt]; rw [cnt_congr n (fun i hi => h i (by omega)), h n (by omega)]

theorem cnt_le {P Q : Nat → Bool} : ∀ n, (∀ i, i < n → P i = true → Q i = true) → cnt P n ≤ cnt Q n
  | 0, _ => Nat.le_refl _
  | n + 1, h => by
    have ih := cnt_le n (fun i hi => h i (by omega))
    have hn := h n (by omega)
    simp only [cnt]
    by_cases hp : P n = true
    · rw [if_pos hp, if_pos (hn hp)]; omega
    · rw [if_neg hp]; omega

theorem cnt_lt {P Q : Nat → Bool} : ∀ n, (∀ i, i < n → P i = true → Q i = true) → ∀ x, x < n → Q x = true → P x = false → cnt P n < cnt Q n
  | 0, _, x, hx, _, _ => by omega
  | n + 1, h, x, hx, hq, hp => by
    have hle := cnt_le n (fun i hi => h i (by omega))
    have hn := h n (by omega)
    simp only [cnt]
    by_cases e : x = n
    · subst e
      rw [if_pos hq, if_neg (by rw [hp]; simp)]
      omega
    · have ih := cnt_lt n (fun i hi => h i (by omega)) x (by omega) hq hp
      by_cases hp' : P n = true
      · rw [if_pos hp', if_pos (hn hp')]; omega
      · rw [if_neg hp']; omega

theorem cnt_change {P Q : Nat → Bool} {x : Nat} : ∀ n, x < n → (∀ i, i < n → i ≠ x → P i = Q i) → cnt Q n + (if P x then 1 else 0) = cnt P n + (if Q x then 1 else 0)
  | 0, hx, _ => by omega
  | n + 1, hx, h => by
    simp only [cnt]
    by_cases e : x = n
    · subst e
      rw [cnt_congr (P := P) (Q := Q) x (fun i hi => h i (by omega) (by omega))]
      omega
    · have ih := cnt_change (P := P) (Q := Q) n (by omega) (fun i hi hne => h i (by omega) hne)
      rw [h n (by omega) (fun h' => e h'.symm)]
      omega

theorem cnt_or {P Q : Nat → Bool} : ∀ n, (∀ i, i < n → ¬ (P i = true ∧ Q i = true)) → cnt (fun i => P i || Q i) n = cnt P n + cnt Q n
  | 0, _ => rfl
  | n + 1, h => by
    have ih := cnt_or n (fun i hi => h i (by omega))
    have hn := h n (by omega)
    simp only [cnt, ih]
    by_cases hp : P n = true <;> by_cases hq : Q n = true
    · exact absurd ⟨hp, hq⟩ hn
    · simp only [hp, hq, Bool.true_or, if_true, Bool.false_eq_true, if_false]; omega
    · simp only [hp, hq, Bool.or_true, if_true, if_false, Bool.false_eq_true]; omega
    · simp only [hp, hq, Bool.or_self, if_false, Bool.false_eq_true]; omega

theorem cnt_restrict {P : Nat → Bool} {x : Nat} : ∀ n, x ≤ n → cnt (fun i => P i && decide (i < x)) n = cnt P x
  | 0, hx => by
    have : x = 0 := by omega
    subst this; rfl
  | n + 1, hx => by
    by_cases e : x = n + 1
    · subst e
      exact cnt_congr _ (fun i hi => by simp [hi])
    · have ih := cnt_restrict (P := P) (x := x) n (by omega)
      simp only [cnt, ih]
      rw [if_neg (by simp; omega)]
      omega

theorem cnt_lt_self : ∀ (n p : Nat), p ≤ n → cnt (fun u => decide (u < p)) n = p
  | 0, p, h => by
    have : p = 0 := by omega
    subst this; rfl
  | n + 1, p, h => by
    by_cases e : p = n + 1
    · subst e
      have : ∀ m k, m ≤ k → cnt (fun u => decide (u < k)) m = m := by
        intro m
        induction m with
        | zero => intro k _; rfl
        | succ m ih =>
          intro k hk
          simp only [cnt]
          rw [ih k (by omega), if_pos (by simp; omega)]
      exact this _ _ (Nat.le_refl _)
    · simp only [cnt]
      rw [cnt_lt_self n p (by omega), if_neg (by simp; omega)]
      omega

/-- u comes before v in the list: met later, or both not met and u below v. -/
def Bef (last : Nat → Int) (u v : Nat) : Bool := decide (last v < last u) || (decide (last u = last v) && decide (u < v))

theorem bef_iff {last : Nat → Int} {u v : Nat} : Bef last u v = true ↔ last v < last u ∨ (last u = last v ∧ u < v) := by
  simp [Bef]

structure Linked (last : Nat → Int) (met : Nat) (ord : Nat → Nat) (t : Nat) : Prop where
  ok : Ok ord
  lo : ∀ v, v < 256 → -1 ≤ last v
  hi : ∀ v, v < 256 → last v < (t : Int)
  inj : ∀ u v, u < 256 → v < 256 → 0 ≤ last u → last u = last v → u = v
  met : met = cnt (fun v => decide (0 ≤ last v)) 256
  pos : ∀ p, p < 256 → cnt (fun u => Bef last u (ord p)) 256 = p

theorem Linked.start : Linked (fun _ => -1) 0 (fun i => i) 0 := by
  refine ⟨⟨fun p hp => hp, fun v hv => ⟨v, hv, rfl⟩⟩, fun v _ => by simp, fun v _ => by simp, fun u v _ _ h _ => by simp at h, ?_, fun p hp => ?_⟩
  · have : ∀ n, cnt (fun v => decide ((0 : Int) ≤ -1)) n = 0 := by
      intro n
      induction n with
      | zero => rfl
      | succ n ih => simp only [cnt]; rw [ih]; simp
    exact (this 256).symm
  · have h1 := cnt_lt_self 256 p (by omega)
    rw [← h1]
    refine cnt_congr 256 (fun i hi => ?_)
    rw [h1]
    simp [Bef]

theorem bef_irrefl {last : Nat → Int} {u : Nat} : Bef last u u = false := by
  rw [Bool.eq_false_iff]
  intro h
  rw [bef_iff] at h
  omega

theorem bef_trans {last : Nat → Int} {u v x : Nat} (h : Bef last u v = true) (h' : Bef last v x = true) : Bef last u x = true := by
  rw [bef_iff] at *
  omega

theorem Linked.total {last : Nat → Int} {met : Nat} {ord : Nat → Nat} {t : Nat} (h : Linked last met ord t) {u v : Nat} (hu : u < 256) (hv : v < 256) (hne : u ≠ v) : Bef last u v = true ∨ Bef last v u = true := by
  have h1 := h.lo u hu
  have h2 := h.lo v hv
  rw [bef_iff, bef_iff]; omega

/-- Positions go with the order. -/
theorem Linked.cnt_lt {last : Nat → Int} {u v : Nat} (hu : u < 256) (h : Bef last u v = true) : cnt (fun x => Bef last x u) 256 < cnt (fun x => Bef last x v) 256 :=
  Sym.cnt_lt 256 (fun i _ hi => bef_trans hi h) u hu h bef_irrefl

theorem Linked.bef_of_lt {last : Nat → Int} {met : Nat} {ord : Nat → Nat} {t : Nat} (h : Linked last met ord t) {p q : Nat} (hp : p < 256) (hq : q < 256) (hlt : p < q) : Bef last (ord p) (ord q) = true := by
  have hp' := h.ok.lt p hp
  have hq' := h.ok.lt q hq
  have e1 := h.pos p hp
  have e2 := h.pos q hq
  have hne : ord p ≠ ord q := fun e => by rw [e] at e1; omega
  rcases h.total hp' hq' hne with h1 | h1
  · exact h1
  · have := Linked.cnt_lt hq' h1
    rw [e1, e2] at this
    omega

/-- The place, by recency. -/
theorem Linked.place_met {last : Nat → Int} {met : Nat} {ord : Nat → Nat} {t : Nat} (h : Linked last met ord t) {p : Nat} (hp : p < 256) (hx : 0 ≤ last (ord p)) : cnt (fun v => decide (last (ord p) < last v)) 256 = p := by
  have e := h.pos p hp
  rw [← e]
  refine cnt_congr 256 (fun i hi => ?_)
  rw [e, Bool.eq_iff_iff, bef_iff]
  simp only [decide_eq_true_eq]
  have hi := h.inj (ord p) i (h.ok.lt p hp) hi hx
  constructor
  · intro h1; exact .inl h1
  · rintro (h1 | ⟨h1, h2⟩)
    · exact h1
    · have := hi h1.symm; omega

theorem Linked.place_unmet {last : Nat → Int} {met : Nat} {ord : Nat → Nat} {t : Nat} (h : Linked last met ord t) {p : Nat} (hp : p < 256) (hx : last (ord p) < 0) : met + cnt (fun v => decide (last v < 0)) (ord p) = p := by
  have e := h.pos p hp
  have hlt := h.ok.lt p hp
  have h1 := h.lo (ord p) hlt
  have e2 : cnt (fun u => Bef last u (ord p)) 256 = cnt (fun u => decide (0 ≤ last u) || (decide (last u < 0) && decide (u < ord p))) 256 := by
    refine cnt_congr 256 (fun i hi => ?_)
    have h2 := h.lo i hi
    rw [Bool.eq_iff_iff, bef_iff]
    simp
    omega
  rw [e] at e2
  rw [cnt_or 256 (fun i hi hh => by simp at hh; omega), cnt_restrict 256 (by omega)] at e2
  rw [h.met]
  omega

def updI (f : Nat → Int) (i : Nat) (v : Int) : Nat → Int := fun j => if j = i then v else f j

theorem Linked.step {last : Nat → Int} {met : Nat} {ord : Nat → Nat} {t : Nat} (h : Linked last met ord t) {p x : Nat} (hp : p < 256) (hx : ord p = x) :
    Linked (updI last x (t : Int)) (met + if last x < 0 then 1 else 0) (mtf ord p x) (t + 1) := by
  have hx' : x < 256 := by rw [← hx]; exact h.ok.lt p hp
  have hlo := h.lo
  have hhi := h.hi
  refine ⟨mtf_ok h.ok hp hx, fun v hv => ?_, fun v hv => ?_, fun u v hu hv h0 he => ?_, ?_, fun i hi => ?_⟩
  · simp only [updI]; split
    · omega
    · exact hlo v hv
  · simp only [updI]; split
    · omega
    · have := hhi v hv; omega
  · simp only [updI] at h0 he
    have hu2 := hhi u hu
    have hv2 := hhi v hv
    by_cases e1 : u = x
    · by_cases e2 : v = x
      · omega
      · rw [if_pos e1, if_neg e2] at he; omega
    · by_cases e2 : v = x
      · rw [if_neg e1, if_pos e2] at he; omega
      · rw [if_neg e1, if_neg e2] at he
        rw [if_neg e1] at h0
        exact h.inj u v hu hv h0 he
  · have hc := cnt_change (P := fun v => decide (0 ≤ last v)) (Q := fun v => decide (0 ≤ updI last x (t : Int) v)) (x := x) 256 hx' (fun i _ hne => by simp [updI, hne])
    simp only [updI, if_true] at hc
    rw [h.met]
    have h1 : (0 : Int) ≤ (t : Int) := by omega
    simp only [h1, decide_true, if_true] at hc
    have h3 : ∀ j, decide (0 ≤ updI last x (t : Int) j) = decide (0 ≤ if j = x then (t : Int) else last j) := fun j => rfl
    simp only [updI]
    by_cases hl : last x < 0
    · have h2 : ¬ (0 : Int) ≤ last x := by omega
      simp only [h2, decide_false, if_false, Bool.false_eq_true] at hc
      rw [if_pos hl]
      omega
    · have h2 : (0 : Int) ≤ last x := by omega
      simp only [h2, decide_true, if_true] at hc
      rw [if_neg hl]
      omega
  · -- the positions
    have hne : ∀ u v, u ≠ x → v ≠ x → Bef (updI last x (t : Int)) u v = Bef last u v := fun u v h1 h2 => by simp [Bef, updI, h1, h2]
    have hbx : ∀ v, v < 256 → v ≠ x → Bef (updI last x (t : Int)) x v = true := fun v hv h1 => by
      rw [bef_iff]
      simp only [updI, if_true]
      rw [if_neg h1]
      exact .inl (hhi v hv)
    -- a value other than x: its count grows by one if it was before x
    have key : ∀ v, v < 256 → v ≠ x → cnt (fun u => Bef (updI last x (t : Int)) u v) 256 + (if Bef last x v then 1 else 0) = cnt (fun u => Bef last u v) 256 + 1 := fun v hv hvx => by
      have hc := cnt_change (P := fun u => Bef last u v) (Q := fun u => Bef (updI last x (t : Int)) u v) (x := x) 256 hx' (fun i _ hi' => (hne i v hi' hvx).symm)
      simp only [hbx v hv hvx, if_true] at hc
      exact hc
    simp only [mtf]
    by_cases e0 : i = 0
    · rw [if_pos e0]
      have : ∀ n, n ≤ 256 → cnt (fun u => Bef (updI last x (t : Int)) u x) n = 0 := by
        intro n
        induction n with
        | zero => intro _; rfl
        | succ n ih =>
          intro hn
          simp only [cnt]
          rw [ih (by omega), if_neg]
          rw [bef_iff]
          have := hhi n (by omega)
          simp only [updI, if_true]
          split <;> omega
      rw [this 256 (Nat.le_refl _), e0]
    · rw [if_neg e0]
      by_cases e1 : i ≤ p
      · rw [if_pos e1]
        have hb : Bef last (ord (i - 1)) x = true := by rw [← hx]; exact h.bef_of_lt (by omega) hp (by omega)
        have hvx : ord (i - 1) ≠ x := fun e => by rw [e, bef_irrefl] at hb; cases hb
        have hnb : Bef last x (ord (i - 1)) = false := by
          rw [Bool.eq_false_iff]
          intro hb'
          have := bef_trans hb hb'
          rw [bef_irrefl] at this
          cases this
        have hk := key (ord (i - 1)) (h.ok.lt _ (by omega)) hvx
        rw [hnb, h.pos (i - 1) (by omega)] at hk
        simp at hk
        omega
      · rw [if_neg e1]
        have hb : Bef last x (ord i) = true := by rw [← hx]; exact h.bef_of_lt hp hi (by omega)
        have hvx : ord i ≠ x := fun e => by rw [e, bef_irrefl] at hb; cases hb
        have hk := key (ord i) (h.ok.lt _ hi) hvx
        rw [hb, h.pos i hi] at hk
        simp at hk
        omega

theorem mtf_zero {ord : Nat → Nat} {x : Nat} (h : ord 0 = x) : mtf ord 0 x = ord := by
  funext i
  simp only [mtf]
  by_cases e : i = 0
  · rw [if_pos e, e, h]
  · rw [if_neg e, if_neg (by omega)]

/-- One step of the encoder, by the place. -/
theorem stp_place (s : St) (x : Nat) (hx : s.ord (place s.ord x) = x) :
    stp s x = if place s.ord x = 0 then { ord := mtf s.ord (place s.ord x) x, z := s.z + 1, out := s.out } else { ord := mtf s.ord (place s.ord x) x, z := 0, out := s.out ++ zdig s.z ++ [((place s.ord x : Nat) : Int) + 1] } := by
  by_cases e : s.ord 0 = x
  · have hp : place s.ord x = 0 := by
      have := (place_spec (q := 0) (by omega) e).2.1
      omega
    unfold stp
    rw [if_pos e, if_pos hp, hp, mtf_zero e]
  · have hp : place s.ord x ≠ 0 := fun h => by rw [h] at hx; exact e hx
    unfold stp
    rw [if_neg e, if_neg hp]

end Go.Proofs.Qxb6602663a.Sym
