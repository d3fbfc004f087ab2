/-
  The operations' rules that the backoff law needs.
-/
import Derived.Test.Qxb6601973aVc
namespace Go.Proofs.Qxb6601973a.Vc
open Go.RowKit
set_option linter.unusedVariables false
set_option linter.unusedSimpArgs false

theorem wrap64_of {m : Int} (h : -9223372036854775808 ≤ m ∧ m ≤ 9223372036854775807) : IntKind.i64.wrap m = m := by rw [IntKind.wrap_i64]; omega

section
variable {E : Env} {w : World} {d : Option Nat} {ty t t' : TypeId} {ps : String} {af : Array Edge} {g : Option (Nat × Bool)} {x y z : Operand}

theorem pv_to {v v' : Value} {o : Oper} (h : PV o E w v) (e : v = v') : PV o E w v' := e ▸ h
theorem pv_mv {v : Value} (hx : ev E x = some v) : PV ⟨d, .move x, ty, ps, af, g⟩ E w v :=
  ⟨fun ρ n hρ => by simp [execOp, hρ _ _ hx, go_sem]⟩
theorem pv_as {v : Value} (hx : ev E x = some v) : PV ⟨d, .assign x, ty, ps, af, g⟩ E w v :=
  ⟨fun ρ n hρ => by simp [execOp, hρ _ _ hx, go_sem]⟩
theorem pv_pick_t {v : Value} (hc : ev E z = some (.bool true)) (hx : ev E x = some v) : PV ⟨d, .pick z x y, ty, ps, af, g⟩ E w v :=
  ⟨fun ρ n hρ => by simp [execOp, hρ _ _ hx, hρ _ _ hc, go_sem]⟩
theorem pv_pick_f {v : Value} (hc : ev E z = some (.bool false)) (hx : ev E y = some v) : PV ⟨d, .pick z x y, ty, ps, af, g⟩ E w v :=
  ⟨fun ρ n hρ => by simp [execOp, hρ _ _ hx, hρ _ _ hc, go_sem]⟩
theorem pv_add64 {m n : Int} (hx : ev E x = some (.int .i64 m)) (hy : ev E y = some (.int .i64 n)) (h : -9223372036854775808 ≤ m + n ∧ m + n ≤ 9223372036854775807) :
    PV ⟨d, .binOp .add t x y t', ty, ps, af, g⟩ E w (.int .i64 (m + n)) :=
  ⟨fun ρ _ hρ => by simp [execOp, hρ _ _ hx, hρ _ _ hy, go_sem, wrap64_of h]⟩
theorem pv_lss {k : IntKind} {m n : Int} (hx : ev E x = some (.int k m)) (hy : ev E y = some (.int k n)) : PV ⟨d, .binOp .lss t x y t', ty, ps, af, g⟩ E w (.bool (decide (m < n))) :=
  ⟨fun ρ _ hρ => by simp [execOp, hρ _ _ hx, hρ _ _ hy, go_sem]⟩
theorem pv_leq {k : IntKind} {m n : Int} (hx : ev E x = some (.int k m)) (hy : ev E y = some (.int k n)) : PV ⟨d, .binOp .leq t x y t', ty, ps, af, g⟩ E w (.bool (decide (m ≤ n))) :=
  ⟨fun ρ _ hρ => by simp [execOp, hρ _ _ hx, hρ _ _ hy, go_sem]⟩
theorem pv_gtr {k : IntKind} {m n : Int} (hx : ev E x = some (.int k m)) (hy : ev E y = some (.int k n)) : PV ⟨d, .binOp .gtr t x y t', ty, ps, af, g⟩ E w (.bool (decide (n < m))) :=
  ⟨fun ρ _ hρ => by simp [execOp, hρ _ _ hx, hρ _ _ hy, go_sem]⟩
theorem pv_geq {k : IntKind} {m n : Int} (hx : ev E x = some (.int k m)) (hy : ev E y = some (.int k n)) : PV ⟨d, .binOp .geq t x y t', ty, ps, af, g⟩ E w (.bool (decide (n ≤ m))) :=
  ⟨fun ρ _ hρ => by simp [execOp, hρ _ _ hx, hρ _ _ hy, go_sem]⟩
theorem pv_lss_t {k : IntKind} {m n : Int} (hx : ev E x = some (.int k m)) (hy : ev E y = some (.int k n)) (h : m < n) : PV ⟨d, .binOp .lss t x y t', ty, ps, af, g⟩ E w (.bool true) := pv_to (pv_lss hx hy) (by simp [h])
theorem pv_lss_f {k : IntKind} {m n : Int} (hx : ev E x = some (.int k m)) (hy : ev E y = some (.int k n)) (h : n ≤ m) : PV ⟨d, .binOp .lss t x y t', ty, ps, af, g⟩ E w (.bool false) := pv_to (pv_lss hx hy) (by simp; omega)
theorem pv_leq_t {k : IntKind} {m n : Int} (hx : ev E x = some (.int k m)) (hy : ev E y = some (.int k n)) (h : m ≤ n) : PV ⟨d, .binOp .leq t x y t', ty, ps, af, g⟩ E w (.bool true) := pv_to (pv_leq hx hy) (by simp [h])
theorem pv_leq_f {k : IntKind} {m n : Int} (hx : ev E x = some (.int k m)) (hy : ev E y = some (.int k n)) (h : n < m) : PV ⟨d, .binOp .leq t x y t', ty, ps, af, g⟩ E w (.bool false) := pv_to (pv_leq hx hy) (by simp; omega)
theorem pv_gtr_t {k : IntKind} {m n : Int} (hx : ev E x = some (.int k m)) (hy : ev E y = some (.int k n)) (h : n < m) : PV ⟨d, .binOp .gtr t x y t', ty, ps, af, g⟩ E w (.bool true) := pv_to (pv_gtr hx hy) (by simp [h])
theorem pv_gtr_f {k : IntKind} {m n : Int} (hx : ev E x = some (.int k m)) (hy : ev E y = some (.int k n)) (h : m ≤ n) : PV ⟨d, .binOp .gtr t x y t', ty, ps, af, g⟩ E w (.bool false) := pv_to (pv_gtr hx hy) (by simp; omega)
theorem pv_geq_t {k : IntKind} {m n : Int} (hx : ev E x = some (.int k m)) (hy : ev E y = some (.int k n)) (h : n ≤ m) : PV ⟨d, .binOp .geq t x y t', ty, ps, af, g⟩ E w (.bool true) := pv_to (pv_geq hx hy) (by simp [h])
theorem pv_geq_f {k : IntKind} {m n : Int} (hx : ev E x = some (.int k m)) (hy : ev E y = some (.int k n)) (h : m < n) : PV ⟨d, .binOp .geq t x y t', ty, ps, af, g⟩ E w (.bool false) := pv_to (pv_geq hx hy) (by simp; omega)
theorem pv_eqnilp {a : Option Addr} (hx : ev E x = some (.pointer a)) : PV ⟨d, .binOp .eql 22 x (.const (.pointer none)) t', ty, ps, af, g⟩ E w (.bool a.isNone) :=
  ⟨fun ρ _ hρ => by simp [execOp, hρ _ _ hx, hρ (.const (.pointer none)) _ rfl, go_sem]⟩
theorem pv_nilck {a : Addr} (hx : ev E x = some (.pointer (some a))) : PV ⟨d, .nilCheck x, ty, ps, af, g⟩ E w (.pointer (some a)) :=
  ⟨fun ρ _ hρ => by simp [execOp, hρ _ _ hx, go_sem]⟩
theorem pv_min {m n : Int} (hx : ev E x = some (.int .i64 m)) (hy : ev E y = some (.int .i64 n)) (ht : t = 3 ∨ t = 2) : PV ⟨d, .call { callee := .builtin .min, args := #[x, y], argTypes := #[t, t] }, ty, ps, af, g⟩ E w (.int .i64 (if n < m then n else m)) :=
  ⟨fun ρ _ hρ => by rcases ht with rfl | rfl <;> simp [execOp, hρ _ _ hx, hρ _ _ hy, go_sem]⟩
theorem pv_max {m n : Int} (hx : ev E x = some (.int .i64 m)) (hy : ev E y = some (.int .i64 n)) (ht : t = 3 ∨ t = 2) : PV ⟨d, .call { callee := .builtin .max, args := #[x, y], argTypes := #[t, t] }, ty, ps, af, g⟩ E w (.int .i64 (if m < n then n else m)) :=
  ⟨fun ρ _ hρ => by rcases ht with rfl | rfl <;> simp [execOp, hρ _ _ hx, hρ _ _ hy, go_sem]⟩
theorem pv_ld2 {ad : Addr} {v : Value} (hx : ev E x = some (.pointer (some ad))) (hc : w.cell? ad = some v) : PV ⟨d, .load 2 x, ty, ps, af, g⟩ E w v :=
  ⟨fun ρ _ hρ => by simp [execOp, hρ _ _ hx, go_sem, hc]⟩
theorem pv_fa0 {b off : Nat} (hx : ev E x = some (.pointer (some ⟨b, off, none⟩))) : PV ⟨d, .fieldAddr 27 x 0, ty, ps, af, g⟩ E w (.pointer (some ⟨b, off, none⟩)) :=
  ⟨fun ρ _ hρ => by simp [execOp, hρ _ _ hx, go_sem]⟩
theorem pv_fa1 {b off : Nat} (hx : ev E x = some (.pointer (some ⟨b, off, none⟩))) : PV ⟨d, .fieldAddr 27 x 1, ty, ps, af, g⟩ E w (.pointer (some ⟨b, off + 1, none⟩)) :=
  ⟨fun ρ _ hρ => by simp [execOp, hρ _ _ hx, go_sem]⟩
theorem pv_build {m n : Int} (hx : ev E x = some (.int .i64 m)) (hy : ev E y = some (.int .i64 n)) : PV ⟨d, .build 27 #[(0, x), (1, y)], ty, ps, af, g⟩ E w (.agg #[.int .i64 m, .int .i64 n]) :=
  ⟨fun ρ _ hρ => by simp [execOp, hρ _ _ hx, hρ _ _ hy, go_sem]⟩
theorem pv_ld27 {b : Nat} {m n : Int} (hx : ev E x = some (.pointer (some ⟨b, 0, none⟩))) (h0 : w.cell? ⟨b, 0, none⟩ = some (.int .i64 m)) (h1 : w.cell? ⟨b, 1, none⟩ = some (.int .i64 n)) : PV ⟨d, .load 27 x, ty, ps, af, g⟩ E w (.agg #[.int .i64 m, .int .i64 n]) :=
  ⟨fun ρ _ hρ => by simp [execOp, hρ _ _ hx, go_sem, h0, h1]⟩
theorem pv_shl {e : Nat} (hy : ev E y = some (.int .i64 (e : Int))) (he : e ≤ 32) : PV ⟨d, .binOp .shl 2 (.const (.int .i64 1)) y 3, ty, ps, af, g⟩ E w (.int .i64 ((2 ^ e : Nat) : Int)) :=
  ⟨fun ρ _ hρ => by
    have h1 : 2 ^ e ≤ 2 ^ 32 := Nat.pow_le_pow_right (by omega) he
    have h3 : (2 ^ 32 : Nat) = 4294967296 := by decide
    have h2 : ((2 ^ e : Nat) : Int) = (2 : Int) ^ e := by simp
    have h4 := wrap64_of (m := ((2 ^ e : Nat) : Int)) ⟨by have := Int.natCast_nonneg (2 ^ e); omega, by omega⟩
    rw [h2] at h4
    simp [execOp, hρ _ _ hy, hρ (.const (.int .i64 1)) _ rfl, go_sem, h4]⟩
end

section
variable {N : Nat} {ops : Array Oper} {rest : List Oper} {E : Env} {w : World} {K : Env → World → Prop} {d : Nat} {ty t e : TypeId} {ps : String} {af : Array Edge} {x y z : Operand}
theorem RR.box27 {cs : Array Value} (hx : ev E x = some (.agg cs)) (hN : Nat.blt d N = true)
    (hk : RR false N ops rest ((d, .pointer (some ⟨w.heap.size, 0, none⟩)) :: E) (w.alloc (.cells cs 27)) K) :
    RR false N ops (⟨some d, .box 27 x, ty, ps, af, none⟩ :: rest) E w K :=
  RR.act hN fun ρ m hρ => ⟨_, _, m, by simp [execOp, hρ _ _ hx, go_sem]; rfl, hk⟩
theorem RR.al2 (hN : Nat.blt d N = true)
    (hk : RR false N ops rest ((d, .pointer (some ⟨w.heap.size, 0, none⟩)) :: E) (w.alloc (.cells #[.int .i64 0] 2)) K) :
    RR false N ops (⟨some d, .alloc 2, ty, ps, af, none⟩ :: rest) E w K :=
  RR.act hN fun ρ m hρ => ⟨_, _, m, by simp [execOp, go_sem]; rfl, hk⟩
theorem RR.st2 {ad : Addr} {n : Int} {u : Value} (hx : ev E x = some (.pointer (some ad))) (hy : ev E y = some (.int .i64 n)) (hc : w.cell? ad = some u) (hf : w.frozen? ad = false)
    (hk : RR false N ops rest E (w.setCell ad (.int .i64 n)) K) : RR false N ops (⟨none, .store 2 x y, ty, ps, af, none⟩ :: rest) E w K := by
  refine RR.actS (w' := w.setCell ad (.int .i64 n)) (fun ρ n hρ => ?_) hk
  simp [execOp, hρ _ _ hx, hρ _ _ hy, go_sem, hc, hf]; rfl
end

/-- New blocks alone. -/
structure New (w w' : World) : Prop where
  below : Below w.heap.size w w'
  frozen : ∀ a, w'.frozen? a = w.frozen? a

theorem New.refl (w : World) : New w w := ⟨Below.refl _ _, fun _ => rfl⟩
theorem New.trans {a b c : World} (h : New a b) (h' : New b c) : New a c :=
  ⟨h.below.trans (h'.below.mono h.below.size), fun x => (h'.frozen x).trans (h.frozen x)⟩
theorem New.alloc (w : World) (c : Array Value) (t : TypeId) : New w (w.alloc (.cells c t)) := ⟨(Below.refl _ _).alloc (Nat.le_refl _) _, frozen?_alloc_cells w c t⟩
theorem New.set {w : World} {b o : Nat} {v : Value} {w0 : World} (h : New w0 w) (hb : w0.heap.size ≤ b) : New w0 (w.setCell ⟨b, o, none⟩ v) :=
  ⟨h.below.setCell hb v, fun a => by rw [World.frozen?_setCell]; exact h.frozen a⟩
theorem New.cell {w w' : World} (h : New w w') {b o : Nat} {v : Value} (hc : w.cell? ⟨b, o, none⟩ = some v) : w'.cell? ⟨b, o, none⟩ = some v := by
  rw [h.below.cell (p := ⟨b, o, none⟩) (block_lt_of_cell hc)]; exact hc
theorem New.grown {w w' : World} (h : New w w') (m : Nat) : Grown w (w'.drewN m) := ⟨(⟨h.below.os, h.below.tape, h.below.output, h.below.size, h.below.block⟩ : Below w.heap.size w (w'.drewN m)).frame _, h.frozen, h.below.size⟩

end Go.Proofs.Qxb6601973a.Vc
