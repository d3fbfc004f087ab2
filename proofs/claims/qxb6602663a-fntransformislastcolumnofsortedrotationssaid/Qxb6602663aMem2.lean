/-
  copy and append over rows.
-/
import Derived.Test.Qxb6602663aMem
import Derived.Laws.IdiomCopy
import Derived.Laws.AppendOwn
namespace Go.Proofs.Qxb6602663a.Vc
open Go.RowKit
set_option linter.unusedVariables false
set_option linter.unusedSimpArgs false

theorem size_setCells' (b : Nat) : ∀ (vs : List Value) (o : Nat) (w : World), (w.setCells b o vs).heap.size = w.heap.size
  | [], _, _ => rfl
  | v :: r, o, w => by rw [World.setCells, size_setCells' b r]; simp

theorem setCells_drewN' (b : Nat) : ∀ (vs : List Value) (o n : Nat) (w : World), (w.drewN n).setCells b o vs = (w.setCells b o vs).drewN n
  | [], _, _, _ => rfl
  | v :: r, o, n, w => by
    rw [World.setCells, World.setCells, ← setCells_drewN' b r (o + 1) n]
    rfl

theorem Touch.setCells (b : Nat) : ∀ (vs : List Value) (o : Nat) (w : World), Touch (fun b' o' => b' = b ∧ o ≤ o' ∧ o' < o + vs.length) w (w.setCells b o vs)
  | [], o, w => Touch.refl _ w
  | v :: r, o, w => (Touch.setCell w b o v).trans (Touch.setCells b r (o + 1) _) (fun b' o' _ h => ⟨h.1, by omega, by simp; omega⟩) (fun b' o' _ h => ⟨h.1, by omega, by simp; omega⟩)

/-- The list of a row's cells. -/
def cellsL {α : Type} (mk : α → Value) (f : Nat → α) (m : Nat) : List Value := (List.range m).map (fun i => mk (f i))

section
variable {α : Type} {mk : α → Value} {w w' : World} {b off n : Nat} {f : Nat → α}

theorem length_cellsL (m : Nat) : (cellsL mk f m).length = m := by simp [cellsL]
theorem get_cellsL {m i : Nat} (h : i < m) : (cellsL mk f m)[i]? = some (mk (f i)) := by simp [cellsL, h]

theorem addr_add (b o i : Nat) : (⟨b, o, none⟩ : Addr).add i = ⟨b, o + i, none⟩ := by unfold Addr.add; split <;> simp_all

theorem SV.src (h : SV mk w b off n f) {m : Nat} (hm : m ≤ n) (q : Nat) : ∀ j v, (cellsL mk f m)[j]? = some v → (w.drewN q).cell? ((⟨b, off, none⟩ : Addr).add j) = some v := by
  intro j v hj
  have hlt : j < m := by
    rcases Nat.lt_or_ge j m with h' | h'
    · exact h'
    · rw [List.getElem?_eq_none (by rw [length_cellsL]; exact h')] at hj; cases hj
  rw [get_cellsL hlt] at hj
  rw [addr_add, World.cell?_drewN, h j (by omega)]
  exact hj

/-- Writing 'mk (f' 0) ..' into a row from place p on. -/
theorem SV.setCells (h : SV mk w b off n f) {p m : Nat} {f' : Nat → α} (hp : p + m ≤ n) :
    SV mk (w.setCells b (off + p) (cellsL mk f' m)) b off n (fun i => if p ≤ i ∧ i < p + m then f' (i - p) else f i) := by
  intro i hi
  by_cases e : p ≤ i ∧ i < p + m
  · have h1 := World.cell?_setCells_in b (cellsL mk f' m) (off + p) w (fun j hj => by
      rw [length_cellsL] at hj
      rw [Nat.add_assoc, h (p + j) (by omega)]
      rfl) (i - p) (by rw [length_cellsL]; omega)
    rw [show off + p + (i - p) = off + i from by omega] at h1
    rw [h1]
    simp [e, cellsL]
  · rw [World.cell?_setCells_out b _ _ _ _ (fun _ _ => by rw [length_cellsL]; show off + i < off + p ∨ off + p + m ≤ off + i; omega), h i hi]
    simp [e]

theorem SV.setCells_ne (h : SV mk w b off n f) {b' o' : Nat} {vs : List Value} (hd : ∀ i, i < n → ¬ (b = b' ∧ o' ≤ off + i ∧ off + i < o' + vs.length)) : SV mk (w.setCells b' o' vs) b off n f :=
  h.touch (Touch.setCells b' vs o' w) hd

theorem WR.setCells (h : WR w b off n) {b' o' : Nat} {vs : List Value} : WR (w.setCells b' o' vs) b off n := by
  intro i hi
  rw [World.frozen?_setCells]
  exact h i hi
end

theorem oneCell_of {α : Type} {mk : α → Value} (hmk : ∀ x, OneV (mk x)) (f : Nat → α) (m : Nat) : ∀ v ∈ cellsL mk f m, v.oneCell' = true := by
  intro v hv
  simp only [cellsL, List.mem_map] at hv
  obtain ⟨i, _, rfl⟩ := hv
  rcases hmk (f i) with ⟨k, n, e⟩ | ⟨b, e⟩ | ⟨a, n, c, e⟩ <;> rw [e] <;> rfl

section
variable {N : Nat} {ops : Array Oper} {rest : List Oper} {E : Env} {w : World} {K : Env → World → Prop} {d : Nat} {ty t e : TypeId} {ps : String} {af : Array Edge} {x y z : Operand}
variable {α : Type} {mk : α → Value}

/-- copy(dst, src): as many cells as both have. -/
theorem RR.copy {b off n cap b' off' m cap' : Nat} {f f' : Nat → α} (hu : Try.prog.underlying t = some (.slice e)) (hs : (Try.prog.info? e).map (·.size) = some 1) (hmk : ∀ x, OneV (mk x))
    (hx : ev E x = some (.slice (some ⟨b, off, none⟩) n cap)) (hy : ev E y = some (.slice (some ⟨b', off', none⟩) m cap')) (hd : SV mk w b off n f) (hw : WR w b off n) (hsrc : SV mk w b' off' m f') (hN : Nat.blt d N = true)
    (hk : RR false N ops rest ((d, .int .i64 ((min m n : Nat) : Int)) :: E) (w.setCells b off (cellsL mk f' (min m n))) K) :
    RR false N ops (⟨some d, .call { callee := .builtin .copy, args := #[x, y], argTypes := #[t, t] }, ty, ps, af, none⟩ :: rest) E w K :=
  RR.act hN fun ρ q hρ => ⟨.int .i64 ((min m n : Nat) : Int), w.setCells b off (cellsL mk f' (min m n)), q, by
    have h := run_copy_cells (P := Try.prog) (w.drewN q) t t ty e b off n cap ⟨b', off', none⟩ m cap' (cellsL mk f' (min m n)) hu hs (length_cellsL _)
      (hsrc.src (by omega) q) (fun j hj => by rw [length_cellsL] at hj; rw [World.cell?_drewN, hd j (by omega)]; rfl) (fun j hj => by rw [length_cellsL] at hj; rw [World.frozen?_drewN]; exact hw j (by omega)) (oneCell_of hmk _ _)
    rw [length_cellsL, setCells_drewN'] at h
    simp [execOp, hρ _ _ hx, hρ _ _ hy, go_sem, h], hk⟩
end

end Go.Proofs.Qxb6602663a.Vc
