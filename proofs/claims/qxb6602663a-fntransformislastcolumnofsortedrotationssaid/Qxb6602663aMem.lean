/-
  Memory as rows whose contents are plain functions; what a piece of code may have touched.
-/
import Derived.Test.Qxb6602663aOps
namespace Go.Proofs.Qxb6602663a.Vc
open Go.RowKit
set_option linter.unusedVariables false
set_option linter.unusedSimpArgs false

theorem st22 : SliceT 22 := .inl rfl
theorem st28 : SliceT 28 := .inr (.inl rfl)
theorem st33 : SliceT 33 := .inr (.inr (.inl rfl))
theorem st36 : SliceT 36 := .inr (.inr (.inr rfl))
theorem at40 : ArrT 40 := .inl rfl
theorem at37 : ArrT 37 := .inr rfl
theorem ct3 : CellT 3 := .inl rfl
theorem ct5 : CellT 5 := .inr (.inl rfl)
theorem ct21 : CellT 21 := .inr (.inr (.inl rfl))
theorem ct4 : CellT 4 := .inr (.inr (.inr (.inl rfl)))
theorem ct22 : CellT 22 := .inr (.inr (.inr (.inr (.inl rfl))))
theorem ct28 : CellT 28 := .inr (.inr (.inr (.inr (.inr rfl))))

def upd {α : Type} (f : Nat → α) (i : Nat) (v : α) : Nat → α := fun j => if j = i then v else f j
theorem upd_same {α : Type} (f : Nat → α) (i : Nat) (v : α) : upd f i v i = v := by simp [upd]
theorem upd_ne {α : Type} (f : Nat → α) {i j : Nat} (v : α) (h : j ≠ i) : upd f i v j = f j := by simp [upd, h]

/-- The row from ⟨b, off⟩: n cells, cell i holds 'mk (f i)'. -/
def SV {α : Type} (mk : α → Value) (w : World) (b off n : Nat) (f : Nat → α) : Prop := ∀ i, i < n → w.cell? ⟨b, off + i, none⟩ = some (mk (f i))
def SI (k : IntKind) (w : World) (b off n : Nat) (f : Nat → Int) : Prop := ∀ i, i < n → w.cell? ⟨b, off + i, none⟩ = some (.int k (f i))
def SN (k : IntKind) (w : World) (b off n : Nat) (f : Nat → Nat) : Prop := ∀ i, i < n → w.cell? ⟨b, off + i, none⟩ = some (.int k (f i : Int))
def SB (w : World) (b off n : Nat) (f : Nat → Bool) : Prop := ∀ i, i < n → w.cell? ⟨b, off + i, none⟩ = some (.bool (f i))
/-- May be written. -/
def WR (w : World) (b off n : Nat) : Prop := ∀ i, i < n → w.frozen? ⟨b, off + i, none⟩ = false

/-- What has been touched lies in S; old blocks stand; nothing is frozen or let go. -/
structure Touch (S : Nat → Nat → Prop) (w w' : World) : Prop where
  os : w'.os = w.os
  tape : w'.tape = w.tape
  output : w'.output = w.output
  size : w.heap.size ≤ w'.heap.size
  cell : ∀ b o, b < w.heap.size → ¬ S b o → w'.cell? ⟨b, o, none⟩ = w.cell? ⟨b, o, none⟩
  frozen : ∀ b o, b < w.heap.size → w'.frozen? ⟨b, o, none⟩ = w.frozen? ⟨b, o, none⟩
  block : ∀ b, b < w.heap.size → (∀ o, ¬ S b o) → w'.heap[b]? = w.heap[b]?

theorem Touch.refl (S : Nat → Nat → Prop) (w : World) : Touch S w w := ⟨rfl, rfl, rfl, Nat.le_refl _, fun _ _ _ _ => rfl, fun _ _ _ => rfl, fun _ _ _ => rfl⟩

theorem Touch.trans {S S' T : Nat → Nat → Prop} {w w1 w2 : World} (h : Touch S w w1) (h' : Touch S' w1 w2) (hS : ∀ b o, b < w.heap.size → S b o → T b o) (hS' : ∀ b o, b < w.heap.size → S' b o → T b o) : Touch T w w2 := by
  refine ⟨h'.os.trans h.os, h'.tape.trans h.tape, h'.output.trans h.output, Nat.le_trans h.size h'.size, fun b o hb hn => ?_, fun b o hb => ?_, fun b hb hn => ?_⟩
  · have := h.size
    rw [h'.cell b o (by omega) (fun hs => hn (hS' b o hb hs)), h.cell b o hb (fun hs => hn (hS b o hb hs))]
  · have := h.size
    rw [h'.frozen b o (by omega), h.frozen b o hb]
  · have := h.size
    rw [h'.block b (by omega) (fun o hs => hn o (hS' b o hb hs)), h.block b hb (fun o hs => hn o (hS b o hb hs))]

theorem Touch.mono {S T : Nat → Nat → Prop} {w w1 : World} (h : Touch S w w1) (hS : ∀ b o, b < w.heap.size → S b o → T b o) : Touch T w w1 :=
  h.trans (Touch.refl T w1) hS (fun _ _ _ h => h)

theorem Touch.setCell (w : World) (b o : Nat) (v : Value) : Touch (fun b' o' => b' = b ∧ o' = o) w (w.setCell ⟨b, o, none⟩ v) := by
  refine ⟨rfl, rfl, rfl, by simp, fun b' o' _ hn => ?_, fun b' o' _ => by simp, fun b' hb hn => ?_⟩
  · refine World.cell?_setCell_other _ _ _ _ ?_
    intro e
    injection e with e1 e2
    exact hn ⟨e1.symm, e2.symm⟩
  · refine Below.heap_setCell _ _ _ _ ?_
    intro e
    exact hn o ⟨e, rfl⟩

theorem Touch.alloc (S : Nat → Nat → Prop) (w : World) (o : Obj) : Touch S w (w.alloc o) := by
  refine ⟨rfl, rfl, rfl, by simp, fun b' o' hb hn => ?_, fun b' o' hb => ?_, fun b' hb hn => ?_⟩
  · exact World.cell?_alloc_old _ _ _ (by show b' ≠ w.heap.size; omega)
  · exact World.frozen?_alloc_old _ _ _ (by show b' ≠ w.heap.size; omega)
  · exact Below.heap_alloc _ _ _ hb

theorem Touch.below {S : Nat → Nat → Prop} {w w' : World} (h : Touch S w w') (hS : ∀ b o, S b o → w.heap.size ≤ b) : Below w.heap.size w w' :=
  ⟨h.os, h.tape, h.output, h.size, fun k hk => h.block k hk (fun o hs => by have := hS k o hs; omega)⟩

theorem lt_of_cell {w : World} {b o : Nat} {v : Value} (h : w.cell? ⟨b, o, none⟩ = some v) : b < w.heap.size := by
  have := block_lt_of_cell h
  simpa using this

section
variable {α : Type} {mk : α → Value} {w w' : World} {b off n : Nat} {f : Nat → α}

theorem SV.lt (h : SV mk w b off n f) (hn : 0 < n) : b < w.heap.size := lt_of_cell (h 0 hn)

theorem SV.touch {S : Nat → Nat → Prop} (h : SV mk w b off n f) (ht : Touch S w w') (hd : ∀ i, i < n → ¬ S b (off + i)) : SV mk w' b off n f := by
  intro i hi
  rw [ht.cell b (off + i) (lt_of_cell (h i hi)) (hd i hi)]
  exact h i hi

theorem WR.touch {S : Nat → Nat → Prop} (h : WR w b off n) (hb : 0 < n → b < w.heap.size) (ht : Touch S w w') : WR w' b off n := by
  intro i hi
  rw [ht.frozen b (off + i) (hb (by omega))]
  exact h i hi

theorem SV.set (h : SV mk w b off n f) {i : Nat} (hi : i < n) (v : α) : SV mk (w.setCell ⟨b, off + i, none⟩ (mk v)) b off n (upd f i v) := by
  intro j hj
  by_cases e : j = i
  · subst e
    rw [World.cell?_setCell_same _ _ _ (h j hj), upd_same]
  · rw [World.cell?_setCell_other _ _ _ _ (by intro e'; injection e' with _ e2; omega), upd_ne _ _ e]
    exact h j hj

theorem SV.set_ne (h : SV mk w b off n f) {b' o' : Nat} {v : Value} (hd : ∀ i, i < n → ¬ (b = b' ∧ off + i = o')) : SV mk (w.setCell ⟨b', o', none⟩ v) b off n f :=
  h.touch (Touch.setCell w b' o' v) hd

theorem WR.set (h : WR w b off n) {ad : Addr} {v : Value} : WR (w.setCell ad v) b off n := by
  intro i hi
  rw [World.frozen?_setCell]
  exact h i hi

theorem SV.alloc (h : SV mk w b off n f) (o : Obj) : SV mk (w.alloc o) b off n f :=
  h.touch (Touch.alloc (fun _ _ => False) w o) (fun _ _ h => h)

theorem WR.alloc (h : WR w b off n) (hb : 0 < n → b < w.heap.size) (o : Obj) : WR (w.alloc o) b off n :=
  h.touch hb (Touch.alloc (fun _ _ => False) w o)

theorem SV.new (w : World) (cs : Array Value) (t : TypeId) (hf : ∀ i, i < n → cs[i]? = some (mk (f i))) : SV mk (w.alloc (.cells cs t)) w.heap.size 0 n f := by
  intro i hi
  rw [World.cell?_alloc_new]
  simpa using hf i hi

theorem WR.new (w : World) (cs : Array Value) (t : TypeId) (off n : Nat) : WR (w.alloc (.cells cs t)) w.heap.size off n := by
  intro i hi
  rw [World.frozen?_alloc_new]

theorem SV.sub (h : SV mk w b off n f) {k m : Nat} (hk : k + m ≤ n) : SV mk w b (off + k) m (fun i => f (k + i)) := by
  intro i hi
  have := h (k + i) (by omega)
  rw [Nat.add_assoc]
  exact this

theorem WR.sub (h : WR w b off n) {k m : Nat} (hk : k + m ≤ n) : WR w b (off + k) m := by
  intro i hi
  have := h (k + i) (by omega)
  rw [Nat.add_assoc]
  exact this

theorem SV.congr {g : Nat → α} (h : SV mk w b off n f) (e : ∀ i, i < n → f i = g i) : SV mk w b off n g := by
  intro i hi
  rw [← e i hi]
  exact h i hi
theorem SV.take (h : SV mk w b off n f) {m : Nat} (hm : m ≤ n) : SV mk w b off m f := fun i hi => h i (by omega)
theorem WR.take (h : WR w b off n) {m : Nat} (hm : m ≤ n) : WR w b off m := fun i hi => h i (by omega)
end

section
variable {k : IntKind} {w w' : World} {b off n : Nat}
theorem SI.v {f : Nat → Int} (h : SI k w b off n f) : SV (Value.int k) w b off n f := h
theorem SN.v {f : Nat → Nat} (h : SN k w b off n f) : SV (fun m : Nat => Value.int k (m : Int)) w b off n f := h
theorem SB.v {f : Nat → Bool} (h : SB w b off n f) : SV Value.bool w b off n f := h
theorem SV.ii {f : Nat → Int} (h : SV (Value.int k) w b off n f) : SI k w b off n f := h
theorem SV.nn {f : Nat → Nat} (h : SV (fun m : Nat => Value.int k (m : Int)) w b off n f) : SN k w b off n f := h
theorem SV.bb {f : Nat → Bool} (h : SV Value.bool w b off n f) : SB w b off n f := h

theorem SN.lt {f : Nat → Nat} (h : SN k w b off n f) (hn : 0 < n) : b < w.heap.size := h.v.lt hn
theorem SI.lt {f : Nat → Int} (h : SI k w b off n f) (hn : 0 < n) : b < w.heap.size := h.v.lt hn
theorem SB.lt {f : Nat → Bool} (h : SB w b off n f) (hn : 0 < n) : b < w.heap.size := h.v.lt hn
theorem SN.touch {f : Nat → Nat} {S : Nat → Nat → Prop} (h : SN k w b off n f) (ht : Touch S w w') (hd : ∀ i, i < n → ¬ S b (off + i)) : SN k w' b off n f := h.v.touch ht hd
theorem SI.touch {f : Nat → Int} {S : Nat → Nat → Prop} (h : SI k w b off n f) (ht : Touch S w w') (hd : ∀ i, i < n → ¬ S b (off + i)) : SI k w' b off n f := h.v.touch ht hd
theorem SB.touch {f : Nat → Bool} {S : Nat → Nat → Prop} (h : SB w b off n f) (ht : Touch S w w') (hd : ∀ i, i < n → ¬ S b (off + i)) : SB w' b off n f := h.v.touch ht hd
theorem SN.set {f : Nat → Nat} (h : SN k w b off n f) {i : Nat} (hi : i < n) (v : Nat) : SN k (w.setCell ⟨b, off + i, none⟩ (.int k (v : Int))) b off n (upd f i v) := h.v.set hi v
theorem SI.set {f : Nat → Int} (h : SI k w b off n f) {i : Nat} (hi : i < n) (v : Int) : SI k (w.setCell ⟨b, off + i, none⟩ (.int k v)) b off n (upd f i v) := h.v.set hi v
theorem SB.set {f : Nat → Bool} (h : SB w b off n f) {i : Nat} (hi : i < n) (v : Bool) : SB (w.setCell ⟨b, off + i, none⟩ (.bool v)) b off n (upd f i v) := h.v.set hi v
theorem SN.set_ne {f : Nat → Nat} (h : SN k w b off n f) {b' o' : Nat} {v : Value} (hd : ∀ i, i < n → ¬ (b = b' ∧ off + i = o')) : SN k (w.setCell ⟨b', o', none⟩ v) b off n f := h.v.set_ne hd
theorem SI.set_ne {f : Nat → Int} (h : SI k w b off n f) {b' o' : Nat} {v : Value} (hd : ∀ i, i < n → ¬ (b = b' ∧ off + i = o')) : SI k (w.setCell ⟨b', o', none⟩ v) b off n f := h.v.set_ne hd
theorem SB.set_ne {f : Nat → Bool} (h : SB w b off n f) {b' o' : Nat} {v : Value} (hd : ∀ i, i < n → ¬ (b = b' ∧ off + i = o')) : SB (w.setCell ⟨b', o', none⟩ v) b off n f := h.v.set_ne hd
theorem SN.alloc {f : Nat → Nat} (h : SN k w b off n f) (o : Obj) : SN k (w.alloc o) b off n f := h.v.alloc o
theorem SI.alloc {f : Nat → Int} (h : SI k w b off n f) (o : Obj) : SI k (w.alloc o) b off n f := h.v.alloc o
theorem SB.alloc {f : Nat → Bool} (h : SB w b off n f) (o : Obj) : SB (w.alloc o) b off n f := h.v.alloc o
theorem SN.new0 (k : IntKind) (w : World) (t : TypeId) (n : Nat) : SN k (w.alloc (.cells (Array.replicate n (.int k 0)) t)) w.heap.size 0 n (fun _ => 0) :=
  (SV.new (mk := fun m : Nat => Value.int k (m : Int)) (f := fun _ => 0) w _ t (fun i hi => by simp [hi]))
theorem SI.new0 (k : IntKind) (w : World) (t : TypeId) (n : Nat) : SI k (w.alloc (.cells (Array.replicate n (.int k 0)) t)) w.heap.size 0 n (fun _ => 0) :=
  (SV.new (mk := Value.int k) (f := fun _ => 0) w _ t (fun i hi => by simp [hi]))
theorem SB.new0 (w : World) (t : TypeId) (n : Nat) : SB (w.alloc (.cells (Array.replicate n (.bool false)) t)) w.heap.size 0 n (fun _ => false) :=
  (SV.new (mk := Value.bool) (f := fun _ => false) w _ t (fun i hi => by simp [hi]))
end

end Go.Proofs.Qxb6602663a.Vc
