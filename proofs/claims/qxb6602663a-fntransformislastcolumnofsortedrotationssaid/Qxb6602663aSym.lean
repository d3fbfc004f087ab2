/-
  Plain mathematics of the move-to-front symbols: no Go in sight.
-/
namespace Go.Proofs.Qxb6602663a.Sym
set_option linter.unusedVariables false

/-! ### a run's digits -/
def zdigF : Nat → Nat → List Int
  | 0, _ => []
  | f + 1, n => if n = 0 then [] else (if n % 2 = 1 then 0 else 1) :: zdigF f ((n - 1) / 2)
def zdig (n : Nat) : List Int := zdigF n n

theorem zdigF_eq : ∀ f g n, n ≤ f → n ≤ g → zdigF f n = zdigF g n
  | 0, 0, _, _, _ => rfl
  | 0, g + 1, n, h, _ => by
    have : n = 0 := by omega
    subst this
    simp [zdigF]
  | f + 1, 0, n, _, h => by
    have : n = 0 := by omega
    subst this
    simp [zdigF]
  | f + 1, g + 1, n, h, h' => by
    by_cases e : n = 0
    · simp [zdigF, e]
    · simp only [zdigF, e, if_false]
      rw [zdigF_eq f g _ (by omega) (by omega)]

theorem zdig_zero : zdig 0 = [] := rfl
theorem zdig_pos {n : Nat} (h : 0 < n) : zdig n = (if n % 2 = 1 then 0 else 1) :: zdig ((n - 1) / 2) := by
  obtain ⟨m, rfl⟩ : ∃ m, n = m + 1 := ⟨n - 1, by omega⟩
  unfold zdig
  simp only [zdigF]
  rw [if_neg (by omega), zdigF_eq m _ _ (by omega) (Nat.le_refl _)]

theorem zdig_len (n : Nat) : (zdig n).length ≤ n := by
  induction n using Nat.strongRecOn with
  | _ n ih =>
    rcases Nat.eq_zero_or_pos n with e | e
    · subst e; simp [zdig_zero]
    · rw [zdig_pos e]
      have := ih ((n - 1) / 2) (by omega)
      simp only [List.length_cons]
      omega

theorem zdig_mem (n : Nat) : ∀ d ∈ zdig n, d = 0 ∨ d = 1 := by
  induction n using Nat.strongRecOn with
  | _ n ih =>
    rcases Nat.eq_zero_or_pos n with e | e
    · subst e; simp [zdig_zero]
    · rw [zdig_pos e]
      intro d hd
      rw [List.mem_cons] at hd
      rcases hd with hd | hd
      · subst hd; split <;> simp
      · exact ih ((n - 1) / 2) (by omega) d hd

/-! ### move to front -/
def mtf (ord : Nat → Nat) (p x : Nat) : Nat → Nat := fun i => if i = 0 then x else if i ≤ p then ord (i - 1) else ord i

def findF (ord : Nat → Nat) (x : Nat) : Nat → Nat → Nat
  | 0, p => p
  | f + 1, p => if ord p = x then p else findF ord x f (p + 1)
def place (ord : Nat → Nat) (x : Nat) : Nat := findF ord x 256 0

theorem findF_spec (ord : Nat → Nat) (x : Nat) : ∀ f p q, p ≤ q → q < p + f → ord q = x → ord (findF ord x f p) = x ∧ findF ord x f p ≤ q ∧ p ≤ findF ord x f p ∧ ∀ r, p ≤ r → r < findF ord x f p → ord r ≠ x
  | 0, p, q, h, h', _ => by omega
  | f + 1, p, q, h, h', hq => by
    simp only [findF]
    by_cases e : ord p = x
    · rw [if_pos e]
      exact ⟨e, h, Nat.le_refl _, fun r h1 h2 => by omega⟩
    · rw [if_neg e]
      have hpq : p ≠ q := fun e' => e (by rw [e']; exact hq)
      obtain ⟨h1, h2, h3, h4⟩ := findF_spec ord x f (p + 1) q (by omega) (by omega) hq
      refine ⟨h1, h2, by omega, fun r hr1 hr2 => ?_⟩
      by_cases e2 : r = p
      · subst e2; exact e
      · exact h4 r (by omega) hr2

theorem place_spec {ord : Nat → Nat} {x q : Nat} (hq : q < 256) (h : ord q = x) : ord (place ord x) = x ∧ place ord x ≤ q ∧ ∀ r, r < place ord x → ord r ≠ x := by
  obtain ⟨h1, h2, _, h4⟩ := findF_spec ord x 256 0 q (Nat.zero_le _) (by omega) h
  exact ⟨h1, h2, fun r hr => h4 r (Nat.zero_le _) hr⟩

structure St where
  ord : Nat → Nat
  z : Nat
  out : List Int

def stp (s : St) (x : Nat) : St :=
  if s.ord 0 = x then { s with z := s.z + 1 }
  else { ord := mtf s.ord (place s.ord x) x, z := 0, out := s.out ++ zdig s.z ++ [((place s.ord x : Nat) : Int) + 1] }

def run (X : Nat → Nat) : Nat → St
  | 0 => { ord := fun i => i, z := 0, out := [] }
  | t + 1 => stp (run X t) (X t)

/-- What 'symbols' answers: nU: the last symbol. -/
def syms (X : Nat → Nat) (n : Nat) (nU : Int) : List Int := (run X n).out ++ zdig (run X n).z ++ [nU]

structure Ok (ord : Nat → Nat) : Prop where
  lt : ∀ p, p < 256 → ord p < 256
  onto : ∀ v, v < 256 → ∃ p, p < 256 ∧ ord p = v

theorem mtf_ok {ord : Nat → Nat} (h : Ok ord) {p x : Nat} (hp : p < 256) (hx : ord p = x) : Ok (mtf ord p x) := by
  constructor
  · intro i hi
    unfold mtf
    split
    · rw [← hx]; exact h.lt p hp
    · split
      · exact h.lt _ (by omega)
      · exact h.lt _ hi
  · intro v hv
    obtain ⟨q, hq, e⟩ := h.onto v hv
    by_cases hqp : q = p
    · exact ⟨0, by omega, by simp [mtf]; rw [← hx, ← hqp]; exact e⟩
    · by_cases hlt : q < p
      · refine ⟨q + 1, by omega, ?_⟩
        simp only [mtf]
        rw [if_neg (by omega), if_pos (by omega), Nat.add_sub_cancel]
        exact e
      · refine ⟨q, hq, ?_⟩
        simp only [mtf]
        rw [if_neg (by omega), if_neg (by omega)]
        exact e

theorem run_ok {X : Nat → Nat} (hX : ∀ t, X t < 256) : ∀ t, Ok (run X t).ord
  | 0 => ⟨fun p hp => hp, fun v hv => ⟨v, hv, rfl⟩⟩
  | t + 1 => by
    have ih := run_ok hX t
    simp only [run, stp]
    split
    · exact ih
    · obtain ⟨q, hq, e⟩ := ih.onto (X t) (hX t)
      obtain ⟨h1, h2, _⟩ := place_spec hq e
      exact mtf_ok ih (by omega) h1

theorem place_lt {X : Nat → Nat} (hX : ∀ t, X t < 256) (t : Nat) {x : Nat} (hx : x < 256) : place (run X t).ord x < 256 ∧ (run X t).ord (place (run X t).ord x) = x ∧ ∀ r, r < place (run X t).ord x → (run X t).ord r ≠ x := by
  obtain ⟨q, hq, e⟩ := (run_ok hX t).onto x hx
  obtain ⟨h1, h2, h3⟩ := place_spec hq e
  exact ⟨by omega, h1, h3⟩

/-- The answer is not too long; the run of the front number. -/
theorem run_len (X : Nat → Nat) : ∀ t, (run X t).out.length + (run X t).z ≤ t
  | 0 => by simp [run]
  | t + 1 => by
    have ih := run_len X t
    have hz := zdig_len (run X t).z
    simp only [run, stp]
    split
    · simp only; omega
    · simp only [List.length_append, List.length_cons, List.length_nil]; omega

theorem run_front (X : Nat → Nat) : ∀ t i, t - (run X t).z ≤ i → i < t → X i = (run X t).ord 0
  | 0, i, _, h => by omega
  | t + 1, i, h1, h2 => by
    have ih := run_front X t
    have hl := run_len X t
    simp only [run, stp] at h1 ⊢
    split
    · rename_i e
      rw [if_pos e] at h1
      simp only at h1 ⊢
      by_cases ei : i = t
      · subst ei; exact e.symm
      · exact ih i (by omega) (by omega)
    · rename_i e
      rw [if_neg e] at h1
      simp only at h1
      have : i = t := by omega
      subst this
      simp [mtf]

theorem syms_len (X : Nat → Nat) (n : Nat) (nU : Int) : (syms X n nU).length ≤ n + 1 ∧ 0 < (syms X n nU).length := by
  have h1 := run_len X n
  have h2 := zdig_len (run X n).z
  simp only [syms, List.length_append, List.length_cons, List.length_nil]
  omega

/-! ### the bound -/
theorem run_below {X : Nat → Nat} {U : Nat} (hU : U ≤ 256) {n : Nat} (hX : ∀ t, t < n → X t < U) (hX' : ∀ t, X t < 256) : ∀ t, t ≤ n →
    (∀ i, U ≤ i → i < 256 → (run X t).ord i = i) ∧ (∀ i, i < U → (run X t).ord i < U) ∧ ∀ c ∈ (run X t).out, 0 ≤ c ∧ c ≤ (U : Int)
  | 0, _ => ⟨fun i _ _ => rfl, fun i h => h, by simp [run]⟩
  | t + 1, ht => by
    obtain ⟨h1, h2, h3⟩ := run_below hU hX hX' t (by omega)
    have hx := hX t (by omega)
    obtain ⟨p1, p2, p3⟩ := place_lt hX' t (hX' t)
    have hpU : place (run X t).ord (X t) < U := by
      rcases Nat.lt_or_ge (place (run X t).ord (X t)) U with h | h
      · exact h
      · have := h1 _ h p1
        rw [p2] at this
        omega
    simp only [run, stp]
    split
    · exact ⟨h1, h2, h3⟩
    · refine ⟨fun i hi hi' => ?_, fun i hi => ?_, fun c hc => ?_⟩
      · simp only [mtf]
        rw [if_neg (by omega), if_neg (by omega)]
        exact h1 i hi hi'
      · simp only [mtf]
        split
        · exact hx
        · split
          · exact h2 _ (by omega)
          · exact h2 _ hi
      · simp only [List.mem_append, List.mem_cons, List.not_mem_nil, or_false] at hc
        rcases hc with (hc | hc) | hc
        · exact h3 c hc
        · have := zdig_mem _ c hc
          omega
        · omega

/-! ### the decoder -/
structure DS where
  list : Nat → Nat
  o : Nat
  r : Nat
  wt : Nat

def DStep (X : Nat → Nat) (n : Nat) (s : DS) (c : Int) (s' : DS) : Prop :=
  ((c = 0 ∨ c = 1) ∧ s' = { list := s.list, o := s.o, r := s.r + (c + 1).toNat * s.wt, wt := s.wt * 2 } ∧ s'.r ≤ n ∧ 0 < s.wt ∧ s.wt ≤ n) ∨
  (∃ p : Nat, 1 ≤ p ∧ p < 256 ∧ c = (p : Int) + 1 ∧ s.o + s.r < n ∧ (∀ i, i < s.r → X (s.o + i) = s.list 0) ∧ X (s.o + s.r) = s.list p ∧
    s' = { list := mtf s.list p (s.list p), o := s.o + s.r + 1, r := 0, wt := 1 })

def DPath (X : Nat → Nat) (n : Nat) : DS → List Int → DS → Prop
  | s, [], s' => s = s'
  | s, c :: l, s' => ∃ m, DStep X n s c m ∧ DPath X n m l s'

theorem DPath.append {X : Nat → Nat} {n : Nat} : ∀ {l l' : List Int} {s m s' : DS}, DPath X n s l m → DPath X n m l' s' → DPath X n s (l ++ l') s'
  | [], l', s, m, s', h, h' => by cases h; exact h'
  | c :: l, l', s, m, s', ⟨k, h1, h2⟩, h' => ⟨k, h1, h2.append h'⟩

theorem dpath_digits {X : Nat → Nat} {n : Nat} (L : Nat → Nat) (o : Nat) : ∀ z r wt, 0 < wt → r + wt * z ≤ n → ∃ wt', DPath X n ⟨L, o, r, wt⟩ (zdig z) ⟨L, o, r + wt * z, wt'⟩ ∧ 0 < wt' ∧ (wt' = wt ∨ wt' ≤ 2 * n) := by
  intro z
  induction z using Nat.strongRecOn with
  | _ z ih =>
    intro r wt hwt hle
    rcases Nat.eq_zero_or_pos z with e | e
    · subst e
      exact ⟨wt, by simp [zdig_zero, DPath], hwt, .inl rfl⟩
    · rw [zdig_pos e]
      have hwn : wt ≤ n := by
        have : wt * 1 ≤ wt * z := Nat.mul_le_mul_left wt e
        omega
      by_cases hodd : z % 2 = 1
      · rw [if_pos hodd]
        have e2 : wt * z = wt + wt * 2 * ((z - 1) / 2) := by
          have : z = 1 + 2 * ((z - 1) / 2) := by omega
          calc wt * z = wt * (1 + 2 * ((z - 1) / 2)) := by rw [← this]
            _ = wt + wt * 2 * ((z - 1) / 2) := by rw [Nat.mul_add, Nat.mul_one, Nat.mul_assoc]
        obtain ⟨wt', h1, h2, h3⟩ := ih ((z - 1) / 2) (by omega) (r + wt) (wt * 2) (by omega) (by omega)
        refine ⟨wt', ⟨⟨L, o, r + wt, wt * 2⟩, .inl ⟨.inl rfl, by simp, by show r + wt ≤ n; omega, hwt, hwn⟩, ?_⟩, h2, .inr ?_⟩
        · rw [show r + wt * z = r + wt + wt * 2 * ((z - 1) / 2) from by omega]
          exact h1
        · rcases h3 with h3 | h3 <;> omega
      · rw [if_neg hodd]
        have e2 : wt * z = 2 * wt + wt * 2 * ((z - 1) / 2) := by
          have : z = 2 + 2 * ((z - 1) / 2) := by omega
          calc wt * z = wt * (2 + 2 * ((z - 1) / 2)) := by rw [← this]
            _ = 2 * wt + wt * 2 * ((z - 1) / 2) := by rw [Nat.mul_add, Nat.mul_comm wt 2, Nat.mul_comm 2 wt, Nat.mul_assoc]
        obtain ⟨wt', h1, h2, h3⟩ := ih ((z - 1) / 2) (by omega) (r + 2 * wt) (wt * 2) (by omega) (by omega)
        refine ⟨wt', ⟨⟨L, o, r + 2 * wt, wt * 2⟩, .inl ⟨.inr rfl, by simp, by show r + 2 * wt ≤ n; omega, hwt, hwn⟩, ?_⟩, h2, .inr ?_⟩
        · rw [show r + wt * z = r + 2 * wt + wt * 2 * ((z - 1) / 2) from by omega]
          exact h1
        · rcases h3 with h3 | h3 <;> omega

theorem dpath_run {X : Nat → Nat} {n : Nat} (hX : ∀ t, X t < 256) : ∀ t, t ≤ n → DPath X n ⟨fun i => i, 0, 0, 1⟩ (run X t).out ⟨(run X t).ord, t - (run X t).z, 0, 1⟩
  | 0, _ => rfl
  | t + 1, ht => by
    have ih := dpath_run (n := n) hX t (by omega)
    have hl := run_len X t
    have hf := run_front X t
    obtain ⟨p1, p2, p3⟩ := place_lt hX t (hX t)
    simp only [run, stp]
    split
    · simp only
      rw [show t + 1 - ((run X t).z + 1) = t - (run X t).z from by omega]
      exact ih
    · rename_i e
      simp only
      obtain ⟨wt', h1, h2, h3⟩ := dpath_digits (X := X) (n := n) (run X t).ord (t - (run X t).z) (run X t).z 0 1 (by omega) (by omega)
      have hp0 : 1 ≤ place (run X t).ord (X t) := by
        rcases Nat.eq_zero_or_pos (place (run X t).ord (X t)) with h | h
        · rw [h] at p2; exact absurd p2 e
        · exact h
      rw [List.append_assoc]
      refine ih.append (h1.append ?_)
      show ∃ m, DStep X n _ _ m ∧ DPath X n m [] _
      refine ⟨_, .inr ⟨place (run X t).ord (X t), hp0, p1, rfl, ?_, ?_, ?_, rfl⟩, ?_⟩
      · simp only; omega
      · intro i hi
        simp only at hi ⊢
        exact hf _ (by omega) (by omega)
      · simp only
        rw [p2, show t - (run X t).z + (0 + 1 * (run X t).z) = t from by omega]
      · simp only [DPath]
        rw [p2]
        congr 1
        omega

/-- THE DECODER'S LAW. -/
theorem dpath_syms {X : Nat → Nat} (hX : ∀ t, X t < 256) (n : Nat) : ∃ s : DS, DPath X n ⟨fun i => i, 0, 0, 1⟩ ((run X n).out ++ zdig (run X n).z) s ∧ s.o + s.r = n ∧ ∀ i, i < s.r → X (s.o + i) = s.list 0 := by
  have hl := run_len X n
  obtain ⟨wt', h1, h2, h3⟩ := dpath_digits (X := X) (n := n) (run X n).ord (n - (run X n).z) (run X n).z 0 1 (by omega) (by omega)
  refine ⟨_, (dpath_run hX n (Nat.le_refl _)).append h1, ?_, fun i hi => ?_⟩
  · simp only; omega
  · simp only at hi ⊢
    exact run_front X n _ (by omega) (by omega)

end Go.Proofs.Qxb6602663a.Sym
