/-
  A cut behind a statement: the ways through it meet again.
-/
import Derived.Test.Qxb6602663aMem3
namespace Go.Proofs.Qxb6602663a.Vc
open Go.RowKit
set_option linter.unusedVariables false
set_option linter.unusedSimpArgs false

structure CutQ {γ : Type} (F : γ → Env) (J : γ → World → Prop) (E : Env) (w : World) : Prop where
  out : ∃ g, Sub E (F g) ∧ J g w

theorem CutQ.go {γ : Type} {F : γ → Env} {J : γ → World → Prop} {E : Env} {w : World} (g : γ) (hs : Sub E (F g)) (hj : J g w) : CutQ F J E w := ⟨g, hs, hj⟩

theorem CC.seqCut {N : Nat} {x y : Code} {E : Env} {w : World} {Q : Exit → Env → World → Prop} {γ : Type} (F : γ → Env) (J : γ → World → Prop) (hx : CC N x E w (thenQ (fun E' w' => CutQ F J E' w') Q)) (hy : ∀ g w', J g w' → CC N y (F g) w' Q) :
    CC N (.seq x y) E w Q := by
  refine CC.seq (hx.mono ?_)
  intro e E' w' h
  cases e with
  | normal =>
    obtain ⟨g, h1, h2⟩ := CutQ.out h
    exact CC.keep h1 (hy g w' h2)
  | exit i => exact h
  | goto i => exact h
  | ret => exact h
  | panic c => exact h
  | outgrown => exact h

section
variable {N : Nat} {ops : Array Oper} {rest : List Oper} {E : Env} {w : World} {K : Env → World → Prop} {d : Nat} {ty t t' : TypeId} {ps : String} {af : Array Edge} {x y z : Operand}
/-- make([]int32, 0, n). -/
theorem RR.mk28c {n : Nat} (hy : ev E y = some (.int .i64 n)) (hn : n ≤ 16777216) (hN : Nat.blt d N = true)
    (hk : RR false N ops rest ((d, .slice (some ⟨w.heap.size, 0, none⟩) 0 n) :: E) (w.alloc (.cells (Array.replicate n (.int .i32 0)) 21)) K) :
    RR false N ops (⟨some d, .makeSlice 28 (.const (.int .i64 0)) y, ty, ps, af, none⟩ :: rest) E w K :=
  RR.act hN fun ρ m hρ => ⟨_, _, m, by
    obtain ⟨i, hi, hzz⟩ := Option.map_eq_some_iff.1 info21
    simp only [Prod.mk.injEq] at hzz
    obtain ⟨hz, hs, hb⟩ := hzz
    have h := run_make (P := Try.prog) (w.drewN m) 28 21 i (.int .i32 0) Try.underlying28 hi hz .i64 .i64 0 (n : Int) (by omega) (by omega) (by rw [hb]; omega) (by omega)
    simp only [Int.toNat_zero, Int.toNat_natCast, hs, Nat.mul_one] at h
    have e : madeCells (Value.int IntKind.i32 0).cells n = Array.replicate n (.int .i32 0) := made1 _ _
    rw [e] at h
    simp [execOp, hρ _ _ hy, hρ (.const (.int .i64 0)) _ rfl, go_sem, h]; rfl, hk⟩
end
end Go.Proofs.Qxb6602663a.Vc
