/-
  One rule an operation kind (Qxb6602663aVc's 'PV', 'RR').
-/
import Derived.Test.Qxb6602663aVc
import Derived.Laws.CopyOwn
import Derived.Deep.OwnRows
import Derived.Lib.LazyBuf
namespace Go.Proofs.Qxb6602663a.Vc
open Go.RowKit
set_option linter.unusedVariables false
set_option linter.unusedSimpArgs false

theorem wrap64_of {m : Int} (h : -9223372036854775808 ≤ m ∧ m ≤ 9223372036854775807) : IntKind.i64.wrap m = m := by rw [IntKind.wrap_i64]; omega
theorem wrap32_of {m : Int} (h : -2147483648 ≤ m ∧ m ≤ 2147483647) : IntKind.i32.wrap m = m := by rw [IntKind.wrap_i32]; omega

section
variable {E : Env} {w : World} {d : Option Nat} {ty t t' : TypeId} {ps : String} {af : Array Edge} {g : Option (Nat × Bool)} {x y z : Operand}

theorem pv_mv {v : Value} (hx : ev E x = some v) : PV ⟨d, .move x, ty, ps, af, g⟩ E w v :=
  ⟨fun ρ n hρ => by simp [execOp, hρ _ _ hx, go_sem]⟩
theorem pv_as {v : Value} (hx : ev E x = some v) : PV ⟨d, .assign x, ty, ps, af, g⟩ E w v :=
  ⟨fun ρ n hρ => by simp [execOp, hρ _ _ hx, go_sem]⟩
theorem pv_pick_t {v : Value} (hc : ev E z = some (.bool true)) (hx : ev E x = some v) : PV ⟨d, .pick z x y, ty, ps, af, g⟩ E w v :=
  ⟨fun ρ n hρ => by simp [execOp, hρ _ _ hx, hρ _ _ hc, go_sem]⟩
theorem pv_pick_f {v : Value} (hc : ev E z = some (.bool false)) (hx : ev E y = some v) : PV ⟨d, .pick z x y, ty, ps, af, g⟩ E w v :=
  ⟨fun ρ n hρ => by simp [execOp, hρ _ _ hx, hρ _ _ hc, go_sem]⟩
theorem pv_not {b : Bool} (hx : ev E x = some (.bool b)) : PV ⟨d, .unOp .not t x, ty, ps, af, g⟩ E w (.bool (!b)) :=
  ⟨fun ρ n hρ => by simp [execOp, hρ _ _ hx, go_sem]⟩
theorem pv_not_t (hx : ev E x = some (.bool false)) : PV ⟨d, .unOp .not t x, ty, ps, af, g⟩ E w (.bool true) := pv_not hx
theorem pv_not_f (hx : ev E x = some (.bool true)) : PV ⟨d, .unOp .not t x, ty, ps, af, g⟩ E w (.bool false) := pv_not hx

/-! ### integers -/
theorem pv_add64 {m n : Int} (hx : ev E x = some (.int .i64 m)) (hy : ev E y = some (.int .i64 n)) (h : -9223372036854775808 ≤ m + n ∧ m + n ≤ 9223372036854775807) :
    PV ⟨d, .binOp .add t x y t', ty, ps, af, g⟩ E w (.int .i64 (m + n)) :=
  ⟨fun ρ _ hρ => by simp [execOp, hρ _ _ hx, hρ _ _ hy, go_sem, wrap64_of h]⟩
theorem pv_sub64 {m n : Int} (hx : ev E x = some (.int .i64 m)) (hy : ev E y = some (.int .i64 n)) (h : -9223372036854775808 ≤ m - n ∧ m - n ≤ 9223372036854775807) :
    PV ⟨d, .binOp .sub t x y t', ty, ps, af, g⟩ E w (.int .i64 (m - n)) :=
  ⟨fun ρ _ hρ => by simp [execOp, hρ _ _ hx, hρ _ _ hy, go_sem, wrap64_of h]⟩
theorem pv_mul64 {m n : Int} (hx : ev E x = some (.int .i64 m)) (hy : ev E y = some (.int .i64 n)) (h : -9223372036854775808 ≤ m * n ∧ m * n ≤ 9223372036854775807) :
    PV ⟨d, .binOp .mul t x y t', ty, ps, af, g⟩ E w (.int .i64 (m * n)) :=
  ⟨fun ρ _ hρ => by simp [execOp, hρ _ _ hx, hρ _ _ hy, go_sem, wrap64_of h]⟩
theorem pv_add32 {m n : Int} (hx : ev E x = some (.int .i32 m)) (hy : ev E y = some (.int .i32 n)) (h : -2147483648 ≤ m + n ∧ m + n ≤ 2147483647) :
    PV ⟨d, .binOp .add t x y t', ty, ps, af, g⟩ E w (.int .i32 (m + n)) :=
  ⟨fun ρ _ hρ => by simp [execOp, hρ _ _ hx, hρ _ _ hy, go_sem, wrap32_of h]⟩
theorem pv_sub32 {m n : Int} (hx : ev E x = some (.int .i32 m)) (hy : ev E y = some (.int .i32 n)) (h : -2147483648 ≤ m - n ∧ m - n ≤ 2147483647) :
    PV ⟨d, .binOp .sub t x y t', ty, ps, af, g⟩ E w (.int .i32 (m - n)) :=
  ⟨fun ρ _ hρ => by simp [execOp, hρ _ _ hx, hρ _ _ hy, go_sem, wrap32_of h]⟩
theorem pv_addN {m n : Nat} (hx : ev E x = some (.int .i64 m)) (hy : ev E y = some (.int .i64 n)) (h : m + n ≤ 9223372036854775807) :
    PV ⟨d, .binOp .add t x y t', ty, ps, af, g⟩ E w (.int .i64 ((m + n : Nat) : Int)) := by
  have := pv_add64 (w := w) (t := t) (t' := t') (d := d) (ty := ty) (ps := ps) (af := af) (g := g) hx hy (by omega)
  simpa using this
theorem pv_subN {m n : Nat} (hx : ev E x = some (.int .i64 m)) (hy : ev E y = some (.int .i64 n)) (h : n ≤ m ∧ m ≤ 9223372036854775807) :
    PV ⟨d, .binOp .sub t x y t', ty, ps, af, g⟩ E w (.int .i64 ((m - n : Nat) : Int)) := by
  have := pv_sub64 (w := w) (t := t) (t' := t') (d := d) (ty := ty) (ps := ps) (af := af) (g := g) hx hy (by omega)
  rw [show ((m : Int) - (n : Int)) = ((m - n : Nat) : Int) from by omega] at this
  exact this
theorem pv_mulN {m n : Nat} (hx : ev E x = some (.int .i64 m)) (hy : ev E y = some (.int .i64 n)) (h : m * n ≤ 9223372036854775807) :
    PV ⟨d, .binOp .mul t x y t', ty, ps, af, g⟩ E w (.int .i64 ((m * n : Nat) : Int)) := by
  have h0 : ((m * n : Nat) : Int) = (m : Int) * (n : Int) := Int.natCast_mul m n
  have := pv_mul64 (w := w) (t := t) (t' := t') (d := d) (ty := ty) (ps := ps) (af := af) (g := g) hx hy (by rw [← h0]; omega)
  rw [← h0] at this
  exact this
theorem pv_quoN {m n : Nat} (hx : ev E x = some (.int .i64 m)) (hy : ev E y = some (.int .i64 n)) (h0 : 0 < n) (h : m ≤ 9223372036854775807) :
    PV ⟨d, .binOp .quo t x y t', ty, ps, af, g⟩ E w (.int .i64 ((m / n : Nat) : Int)) := by
  have e : (m : Int).tdiv (n : Int) = ((m / n : Nat) : Int) := by rw [Int.tdiv_eq_ediv_of_nonneg (by omega)]; rfl
  have hle : m / n ≤ m := Nat.div_le_self m n
  have hn : n ≠ 0 := by omega
  exact ⟨fun ρ _ hρ => by
    have hw := wrap64_of (m := ((m / n : Nat) : Int)) ⟨by have := Int.natCast_nonneg (m / n); omega, by omega⟩
    have hw' : IntKind.i64.wrap ((m : Int) / (n : Int)) = (m : Int) / (n : Int) := by simpa using hw
    simp [execOp, hρ _ _ hx, hρ _ _ hy, go_sem, e, hw, hw', hn, Op.intDiv]⟩
theorem pv_remN {m n : Nat} (hx : ev E x = some (.int .i64 m)) (hy : ev E y = some (.int .i64 n)) (h0 : 0 < n) (h : m ≤ 9223372036854775807) :
    PV ⟨d, .binOp .rem t x y t', ty, ps, af, g⟩ E w (.int .i64 ((m % n : Nat) : Int)) := by
  have e : (m : Int).tmod (n : Int) = ((m % n : Nat) : Int) := by rw [Int.tmod_eq_emod_of_nonneg (by omega)]; rfl
  have hle : m % n ≤ m := Nat.mod_le m n
  have hn : n ≠ 0 := by omega
  exact ⟨fun ρ _ hρ => by
    have hw := wrap64_of (m := ((m % n : Nat) : Int)) ⟨by have := Int.natCast_nonneg (m % n); omega, by omega⟩
    have hw' : IntKind.i64.wrap ((m : Int) % (n : Int)) = (m : Int) % (n : Int) := by simpa using hw
    simp [execOp, hρ _ _ hx, hρ _ _ hy, go_sem, e, hw, hw', hn, Op.intDiv]⟩

theorem pv_lss {k : IntKind} {m n : Int} (hx : ev E x = some (.int k m)) (hy : ev E y = some (.int k n)) : PV ⟨d, .binOp .lss t x y t', ty, ps, af, g⟩ E w (.bool (decide (m < n))) :=
  ⟨fun ρ _ hρ => by simp [execOp, hρ _ _ hx, hρ _ _ hy, go_sem]⟩
theorem pv_leq {k : IntKind} {m n : Int} (hx : ev E x = some (.int k m)) (hy : ev E y = some (.int k n)) : PV ⟨d, .binOp .leq t x y t', ty, ps, af, g⟩ E w (.bool (decide (m ≤ n))) :=
  ⟨fun ρ _ hρ => by simp [execOp, hρ _ _ hx, hρ _ _ hy, go_sem]⟩
theorem pv_gtr {k : IntKind} {m n : Int} (hx : ev E x = some (.int k m)) (hy : ev E y = some (.int k n)) : PV ⟨d, .binOp .gtr t x y t', ty, ps, af, g⟩ E w (.bool (decide (n < m))) :=
  ⟨fun ρ _ hρ => by simp [execOp, hρ _ _ hx, hρ _ _ hy, go_sem]⟩
theorem pv_geq {k : IntKind} {m n : Int} (hx : ev E x = some (.int k m)) (hy : ev E y = some (.int k n)) : PV ⟨d, .binOp .geq t x y t', ty, ps, af, g⟩ E w (.bool (decide (n ≤ m))) :=
  ⟨fun ρ _ hρ => by simp [execOp, hρ _ _ hx, hρ _ _ hy, go_sem]⟩
theorem pv_eql {k : IntKind} {m n : Int} (hx : ev E x = some (.int k m)) (hy : ev E y = some (.int k n)) : PV ⟨d, .binOp .eql t x y t', ty, ps, af, g⟩ E w (.bool (decide (m = n))) :=
  ⟨fun ρ _ hρ => by simp [execOp, hρ _ _ hx, hρ _ _ hy, go_sem]; rfl⟩
theorem pv_neq {k : IntKind} {m n : Int} (hx : ev E x = some (.int k m)) (hy : ev E y = some (.int k n)) : PV ⟨d, .binOp .neq t x y t', ty, ps, af, g⟩ E w (.bool (decide (m ≠ n))) :=
  ⟨fun ρ _ hρ => by simp [execOp, hρ _ _ hx, hρ _ _ hy, go_sem]; rfl⟩

theorem pv_to {v v' : Value} {o : Oper} (h : PV o E w v) (e : v = v') : PV o E w v' := e ▸ h


theorem pv_lss_t {k : IntKind} {m n : Int} (hx : ev E x = some (.int k m)) (hy : ev E y = some (.int k n)) (h : m < n) : PV ⟨d, .binOp .lss t x y t', ty, ps, af, g⟩ E w (.bool true) := pv_to (pv_lss hx hy) (by simp [h])
theorem pv_lss_f {k : IntKind} {m n : Int} (hx : ev E x = some (.int k m)) (hy : ev E y = some (.int k n)) (h : n ≤ m) : PV ⟨d, .binOp .lss t x y t', ty, ps, af, g⟩ E w (.bool false) := pv_to (pv_lss hx hy) (by simp; omega)
theorem pv_leq_t {k : IntKind} {m n : Int} (hx : ev E x = some (.int k m)) (hy : ev E y = some (.int k n)) (h : m ≤ n) : PV ⟨d, .binOp .leq t x y t', ty, ps, af, g⟩ E w (.bool true) := pv_to (pv_leq hx hy) (by simp [h])
theorem pv_leq_f {k : IntKind} {m n : Int} (hx : ev E x = some (.int k m)) (hy : ev E y = some (.int k n)) (h : n < m) : PV ⟨d, .binOp .leq t x y t', ty, ps, af, g⟩ E w (.bool false) := pv_to (pv_leq hx hy) (by simp; omega)
theorem pv_gtr_t {k : IntKind} {m n : Int} (hx : ev E x = some (.int k m)) (hy : ev E y = some (.int k n)) (h : n < m) : PV ⟨d, .binOp .gtr t x y t', ty, ps, af, g⟩ E w (.bool true) := pv_to (pv_gtr hx hy) (by simp [h])
theorem pv_gtr_f {k : IntKind} {m n : Int} (hx : ev E x = some (.int k m)) (hy : ev E y = some (.int k n)) (h : m ≤ n) : PV ⟨d, .binOp .gtr t x y t', ty, ps, af, g⟩ E w (.bool false) := pv_to (pv_gtr hx hy) (by simp; omega)
theorem pv_geq_t {k : IntKind} {m n : Int} (hx : ev E x = some (.int k m)) (hy : ev E y = some (.int k n)) (h : n ≤ m) : PV ⟨d, .binOp .geq t x y t', ty, ps, af, g⟩ E w (.bool true) := pv_to (pv_geq hx hy) (by simp [h])
theorem pv_geq_f {k : IntKind} {m n : Int} (hx : ev E x = some (.int k m)) (hy : ev E y = some (.int k n)) (h : m < n) : PV ⟨d, .binOp .geq t x y t', ty, ps, af, g⟩ E w (.bool false) := pv_to (pv_geq hx hy) (by simp; omega)
theorem pv_eql_t {k : IntKind} {m n : Int} (hx : ev E x = some (.int k m)) (hy : ev E y = some (.int k n)) (h : m = n) : PV ⟨d, .binOp .eql t x y t', ty, ps, af, g⟩ E w (.bool true) := pv_to (pv_eql hx hy) (by simp [h])
theorem pv_eql_f {k : IntKind} {m n : Int} (hx : ev E x = some (.int k m)) (hy : ev E y = some (.int k n)) (h : m ≠ n) : PV ⟨d, .binOp .eql t x y t', ty, ps, af, g⟩ E w (.bool false) := pv_to (pv_eql hx hy) (by simp [h])
theorem pv_neq_t {k : IntKind} {m n : Int} (hx : ev E x = some (.int k m)) (hy : ev E y = some (.int k n)) (h : m ≠ n) : PV ⟨d, .binOp .neq t x y t', ty, ps, af, g⟩ E w (.bool true) := pv_to (pv_neq hx hy) (by simp [h])
theorem pv_neq_f {k : IntKind} {m n : Int} (hx : ev E x = some (.int k m)) (hy : ev E y = some (.int k n)) (h : m = n) : PV ⟨d, .binOp .neq t x y t', ty, ps, af, g⟩ E w (.bool false) := pv_to (pv_neq hx hy) (by simp [h])

theorem pv_neqB {a b : Bool} (hx : ev E x = some (.bool a)) (hy : ev E y = some (.bool b)) : PV ⟨d, .binOp .neq 4 x y t', ty, ps, af, g⟩ E w (.bool (a != b)) :=
  ⟨fun ρ _ hρ => by cases a <;> cases b <;> simp [execOp, hρ _ _ hx, hρ _ _ hy, go_sem]⟩
theorem bits_and1 (m : Nat) (h : m ≤ 9223372036854775807) : bits BinOp.and IntKind.i64 (m : Int) 1 = ((m % 2 : Nat) : Int) := by
  have h1 : BitVec.ofInt 64 (m : Int) &&& BitVec.ofInt 64 1 = BitVec.ofNat 64 (m % 2) := by
    apply BitVec.eq_of_toNat_eq
    rw [BitVec.toNat_and]
    have e1 : (BitVec.ofInt 64 (m : Int)).toNat = m := by simp; omega
    have e2 : (BitVec.ofInt 64 (1 : Int)).toNat = 1 := by decide
    rw [e1, e2, Nat.and_one_is_mod]
    simp
    omega
  show IntKind.i64.wrap ((BitVec.ofInt 64 (m : Int) &&& BitVec.ofInt 64 1).toNat : Int) = _
  rw [h1]
  simp only [BitVec.toNat_ofNat]
  rw [IntKind.wrap_i64]
  omega
theorem pv_and1 {m : Nat} (hx : ev E x = some (.int .i64 m)) (h : m ≤ 9223372036854775807) : PV ⟨d, .binOp .and t x (.const (.int .i64 1)) t', ty, ps, af, g⟩ E w (.int .i64 ((m % 2 : Nat) : Int)) :=
  ⟨fun ρ _ hρ => by have e := bits_and1 m h; simp [execOp, hρ _ _ hx, hρ (.const (.int .i64 1)) _ rfl, go_sem]; simpa using e⟩
theorem pv_shr1 {m : Nat} (hx : ev E x = some (.int .i64 m)) (h : m ≤ 9223372036854775807) : PV ⟨d, .binOp .shr t x (.const (.int .u64 1)) t', ty, ps, af, g⟩ E w (.int .i64 ((m / 2 : Nat) : Int)) :=
  ⟨fun ρ _ hρ => by simp [execOp, hρ _ _ hx, hρ (.const (.int .u64 1)) _ rfl, go_sem]⟩
theorem pv_min {m n : Nat} (hx : ev E x = some (.int .i64 m)) (hy : ev E y = some (.int .i64 n)) : PV ⟨d, .call { callee := .builtin .min, args := #[x, y], argTypes := #[3, 3] }, ty, ps, af, g⟩ E w (.int .i64 ((min m n : Nat) : Int)) :=
  ⟨fun ρ _ hρ => by simp [execOp, hρ _ _ hx, hρ _ _ hy, go_sem]; split <;> omega⟩
def SliceT (t : TypeId) : Prop := t = 22 ∨ t = 28 ∨ t = 33 ∨ t = 36
theorem pv_len {a : Option Addr} {n c : Nat} (hx : ev E x = some (.slice a n c)) (ht : SliceT t) : PV ⟨d, .call { callee := .builtin .len, args := #[x], argTypes := #[t] }, ty, ps, af, g⟩ E w (.int .i64 n) :=
  ⟨fun ρ _ hρ => by rcases ht with rfl | rfl | rfl | rfl <;> simp [execOp, hρ _ _ hx, go_sem]⟩
theorem pv_eqnil {a : Option Addr} {n c : Nat} (hx : ev E x = some (.slice a n c)) (ht : SliceT t) : PV ⟨d, .binOp .eql t x (.const (.slice none 0 0)) t', ty, ps, af, g⟩ E w (.bool a.isNone) :=
  ⟨fun ρ _ hρ => by
    rcases ht with rfl | rfl | rfl | rfl
    · simp [execOp, hρ _ _ hx, hρ (.const (.slice none 0 0)) _ rfl, go_sem, Lib.run_eql_slice_nil (h := Try.underlying22)]
    · simp [execOp, hρ _ _ hx, hρ (.const (.slice none 0 0)) _ rfl, go_sem, Lib.run_eql_slice_nil (h := Try.underlying28)]
    · simp [execOp, hρ _ _ hx, hρ (.const (.slice none 0 0)) _ rfl, go_sem, Lib.run_eql_slice_nil (h := Try.underlying33)]
    · simp [execOp, hρ _ _ hx, hρ (.const (.slice none 0 0)) _ rfl, go_sem, Lib.run_eql_slice_nil (h := Try.underlying36)]⟩
theorem pv_eqnilp {a : Option Addr} (hx : ev E x = some (.pointer a)) : PV ⟨d, .binOp .eql 38 x (.const (.pointer none)) t', ty, ps, af, g⟩ E w (.bool a.isNone) :=
  ⟨fun ρ _ hρ => by simp [execOp, hρ _ _ hx, hρ (.const (.pointer none)) _ rfl, go_sem]⟩
theorem pv_nilck {a : Addr} (hx : ev E x = some (.pointer (some a))) : PV ⟨d, .nilCheck x, ty, ps, af, g⟩ E w (.pointer (some a)) :=
  ⟨fun ρ _ hρ => by simp [execOp, hρ _ _ hx, go_sem]⟩
theorem pv_c21_3 {m : Int} (hx : ev E x = some (.int .i32 m)) (h : -9223372036854775808 ≤ m ∧ m ≤ 9223372036854775807) : PV ⟨d, .convert 21 3 x, ty, ps, af, g⟩ E w (.int .i64 m) :=
  ⟨fun ρ _ hρ => by simp [execOp, hρ _ _ hx, go_sem, wrap64_of h]⟩
theorem pv_c5_3 {m : Int} (hx : ev E x = some (.int .u8 m)) (h : -9223372036854775808 ≤ m ∧ m ≤ 9223372036854775807) : PV ⟨d, .convert 5 3 x, ty, ps, af, g⟩ E w (.int .i64 m) :=
  ⟨fun ρ _ hρ => by simp [execOp, hρ _ _ hx, go_sem, wrap64_of h]⟩
theorem pv_c3_21 {m : Int} (hx : ev E x = some (.int .i64 m)) (h : -2147483648 ≤ m ∧ m ≤ 2147483647) : PV ⟨d, .convert 3 21 x, ty, ps, af, g⟩ E w (.int .i32 m) :=
  ⟨fun ρ _ hρ => by simp [execOp, hρ _ _ hx, go_sem, wrap32_of h]⟩
theorem pv_c3_21w {m : Int} (hx : ev E x = some (.int .i64 m)) : PV ⟨d, .convert 3 21 x, ty, ps, af, g⟩ E w (.int .i32 (IntKind.i32.wrap m)) :=
  ⟨fun ρ _ hρ => by simp [execOp, hρ _ _ hx, go_sem]⟩
theorem pv_c3_5 {m : Int} (hx : ev E x = some (.int .i64 m)) (h : 0 ≤ m ∧ m ≤ 255) : PV ⟨d, .convert 3 5 x, ty, ps, af, g⟩ E w (.int .u8 m) :=
  ⟨fun ρ _ hρ => by
    have e : IntKind.u8.wrap m = m := by rw [IntKind.wrap_u8]; omega
    simp [execOp, hρ _ _ hx, go_sem, e]⟩
theorem pv_add64w {m n : Int} (hx : ev E x = some (.int .i64 m)) (hy : ev E y = some (.int .i64 n)) :
    PV ⟨d, .binOp .add t x y t', ty, ps, af, g⟩ E w (.int .i64 (IntKind.i64.wrap (m + n))) :=
  ⟨fun ρ _ hρ => by simp [execOp, hρ _ _ hx, hρ _ _ hy, go_sem]⟩
theorem pv_extr {vs : Array Value} {k : Nat} {v : Value} (hx : ev E x = some (.tuple vs)) (hk : vs[k]? = some v) : PV ⟨d, .extract x k, ty, ps, af, g⟩ E w v :=
  ⟨fun ρ _ hρ => by simp [execOp, hρ _ _ hx, go_sem, hk]⟩

/-! ### addresses and memory -/
theorem pv_ixN {b off len cap i : Nat} {k : IntKind} (hx : ev E x = some (.slice (some ⟨b, off, none⟩) len cap)) (hy : ev E y = some (.int k i)) (ht : SliceT t) (h : i < len) :
    PV ⟨d, .indexAddr t x y, ty, ps, af, g⟩ E w (.pointer (some ⟨b, off + i, none⟩)) :=
  ⟨fun ρ _ hρ => by rcases ht with rfl | rfl | rfl | rfl <;> simp [execOp, hρ _ _ hx, hρ _ _ hy, go_sem, h]⟩
theorem pv_ixZ {b off len cap : Nat} {i : Int} {k : IntKind} (hx : ev E x = some (.slice (some ⟨b, off, none⟩) len cap)) (hy : ev E y = some (.int k i)) (ht : SliceT t) (h : 0 ≤ i ∧ i < len) :
    PV ⟨d, .indexAddr t x y, ty, ps, af, g⟩ E w (.pointer (some ⟨b, off + i.toNat, none⟩)) := by
  have e : i = ((i.toNat : Nat) : Int) := by omega
  rw [e] at hy
  exact pv_ixN hx hy ht (by omega)
def ArrT (t : TypeId) : Prop := t = 40 ∨ t = 37
theorem pv_iaN {b off i : Nat} {k : IntKind} (hx : ev E x = some (.pointer (some ⟨b, off, none⟩))) (hy : ev E y = some (.int k i)) (ht : ArrT t) (h : i < 256) :
    PV ⟨d, .indexAddr t x y, ty, ps, af, g⟩ E w (.pointer (some ⟨b, off + i, none⟩)) :=
  ⟨fun ρ _ hρ => by rcases ht with rfl | rfl <;> (simp [execOp, hρ _ _ hx, hρ _ _ hy, go_sem, h]; intro h'; omega)⟩
theorem pv_iaZ {b off : Nat} {i : Int} {k : IntKind} (hx : ev E x = some (.pointer (some ⟨b, off, none⟩))) (hy : ev E y = some (.int k i)) (ht : ArrT t) (h : 0 ≤ i ∧ i < 256) :
    PV ⟨d, .indexAddr t x y, ty, ps, af, g⟩ E w (.pointer (some ⟨b, off + i.toNat, none⟩)) := by
  have e : i = ((i.toNat : Nat) : Int) := by omega
  rw [e] at hy
  exact pv_iaN hx hy ht (by omega)
def CellT (t : TypeId) : Prop := t = 3 ∨ t = 5 ∨ t = 21 ∨ t = 4 ∨ t = 22 ∨ t = 28
theorem pv_ld {ad : Addr} {v : Value} (hx : ev E x = some (.pointer (some ad))) (ht : CellT t) (hc : w.cell? ad = some v) : PV ⟨d, .load t x, ty, ps, af, g⟩ E w v :=
  ⟨fun ρ _ hρ => by rcases ht with rfl | rfl | rfl | rfl | rfl | rfl <;> simp [execOp, hρ _ _ hx, go_sem, hc]⟩
theorem pv_fa0 {b off : Nat} (hx : ev E x = some (.pointer (some ⟨b, off, none⟩))) : PV ⟨d, .fieldAddr 50 x 0, ty, ps, af, g⟩ E w (.pointer (some ⟨b, off, none⟩)) :=
  ⟨fun ρ _ hρ => by simp [execOp, hρ _ _ hx, go_sem]⟩
theorem pv_fa1 {b off : Nat} (hx : ev E x = some (.pointer (some ⟨b, off, none⟩))) : PV ⟨d, .fieldAddr 50 x 1, ty, ps, af, g⟩ E w (.pointer (some ⟨b, off + 1, none⟩)) :=
  ⟨fun ρ _ hρ => by simp [execOp, hρ _ _ hx, go_sem]⟩
theorem pv_slh {b off len cap h : Nat} {k : IntKind} (hx : ev E x = some (.slice (some ⟨b, off, none⟩) len cap)) (hy : ev E y = some (.int k h)) (ht : SliceT t) (hh : h ≤ cap) :
    PV ⟨d, .slice t x none (some y) none, ty, ps, af, g⟩ E w (.slice (some ⟨b, off, none⟩) h cap) :=
  ⟨fun ρ _ hρ => by rcases ht with rfl | rfl | rfl | rfl <;> simp [execOp, hρ _ _ hx, hρ _ _ hy, go_sem, hh]⟩
theorem pv_sll {b off len cap l : Nat} {k : IntKind} (hx : ev E x = some (.slice (some ⟨b, off, none⟩) len cap)) (hy : ev E y = some (.int k l)) (ht : SliceT t) (hh : l ≤ len) (hc : len ≤ cap) :
    PV ⟨d, .slice t x (some y) none none, ty, ps, af, g⟩ E w (.slice (some ⟨b, if cap = l then off else off + l, none⟩) (len - l) (cap - l)) :=
  ⟨fun ρ _ hρ => by rcases ht with rfl | rfl | rfl | rfl <;> by_cases hcl : cap = l <;> simp [execOp, hρ _ _ hx, hρ _ _ hy, go_sem, hh, hcl]⟩
theorem pv_sllh {b off len cap l h : Nat} {k k' : IntKind} (hx : ev E x = some (.slice (some ⟨b, off, none⟩) len cap)) (hy : ev E y = some (.int k l)) (hz : ev E z = some (.int k' h)) (ht : SliceT t) (hl : l ≤ h) (hh : h ≤ cap) :
    PV ⟨d, .slice t x (some y) (some z) none, ty, ps, af, g⟩ E w (.slice (some ⟨b, if cap = l then off else off + l, none⟩) (h - l) (cap - l)) :=
  ⟨fun ρ _ hρ => by rcases ht with rfl | rfl | rfl | rfl <;> by_cases hcl : cap = l <;> simp [execOp, hρ _ _ hx, hρ _ _ hy, hρ _ _ hz, go_sem, hh, hl, hcl] <;> (intro h'; omega)⟩
end

/-! ### operations that turn the world -/
section
variable {N : Nat} {ops : Array Oper} {rest : List Oper} {E : Env} {w : World} {K : Env → World → Prop} {d : Nat} {ty t t' : TypeId} {ps : String} {af : Array Edge} {x y z : Operand}

def OneV (v : Value) : Prop := (∃ k n, v = .int k n) ∨ (∃ b, v = .bool b) ∨ (∃ a n c, v = .slice a n c)
theorem OneV.i {k : IntKind} {n : Int} : OneV (.int k n) := .inl ⟨k, n, rfl⟩
theorem OneV.b {b : Bool} : OneV (.bool b) := .inr (.inl ⟨b, rfl⟩)
theorem OneV.s {a : Option Addr} {n c : Nat} : OneV (.slice a n c) := .inr (.inr ⟨a, n, c, rfl⟩)

theorem RR.st {ad : Addr} {v u : Value} (hx : ev E x = some (.pointer (some ad))) (hy : ev E y = some v) (ht : CellT t) (hv : OneV v) (hc : w.cell? ad = some u) (hf : w.frozen? ad = false)
    (hk : RR false N ops rest E (w.setCell ad v) K) : RR false N ops (⟨none, .store t x y, ty, ps, af, none⟩ :: rest) E w K := by
  refine RR.actS (w' := w.setCell ad v) (fun ρ n hρ => ?_) hk
  rcases hv with ⟨k, m, rfl⟩ | ⟨b, rfl⟩ | ⟨a, n', c, rfl⟩ <;> rcases ht with rfl | rfl | rfl | rfl | rfl | rfl <;> simp [execOp, hρ _ _ hx, hρ _ _ hy, go_sem, hc, hf] <;> rfl

theorem info5 : (Try.prog.info? 5).map (fun i => (i.zero, i.size, i.bytes)) = some (some (.int .u8 0), 1, 1) := by kernel_rfl
theorem info21 : (Try.prog.info? 21).map (fun i => (i.zero, i.size, i.bytes)) = some (some (.int .i32 0), 1, 4) := by kernel_rfl
theorem info3 : (Try.prog.info? 3).map (fun i => (i.zero, i.size, i.bytes)) = some (some (.int .i64 0), 1, 8) := by kernel_rfl
theorem info4 : (Try.prog.info? 4).map (fun i => (i.zero, i.size, i.bytes)) = some (some (.bool false), 1, 1) := by kernel_rfl

theorem made1 (z : Value) (n : Nat) : madeCells #[z] n = Array.replicate n z := by
  apply Array.ext
  · simp [madeCells]
  · intro i h1 h2
    simp [madeCells, Nat.mod_one]

theorem RR.mk22 {n : Nat} (hx : ev E x = some (.int .i64 n)) (hn : n ≤ 16777216) (hN : Nat.blt d N = true)
    (hk : RR false N ops rest ((d, .slice (some ⟨w.heap.size, 0, none⟩) n n) :: E) (w.alloc (.cells (Array.replicate n (.int .u8 0)) 5)) K) :
    RR false N ops (⟨some d, .makeSlice 22 x x, ty, ps, af, none⟩ :: rest) E w K :=
  RR.act hN fun ρ m hρ => ⟨_, _, m, by
    have h := run_make_row' (P := Try.prog) 22 5 (.int .u8 0) 1 Try.underlying22 info5 rfl .i64 .i64 n (by omega) (by omega) (w.drewN m)
    rw [made1] at h
    simp [execOp, hρ _ _ hx, go_sem, h]; rfl, hk⟩
theorem RR.mk28 {n : Nat} (hx : ev E x = some (.int .i64 n)) (hn : n ≤ 16777216) (hN : Nat.blt d N = true)
    (hk : RR false N ops rest ((d, .slice (some ⟨w.heap.size, 0, none⟩) n n) :: E) (w.alloc (.cells (Array.replicate n (.int .i32 0)) 21)) K) :
    RR false N ops (⟨some d, .makeSlice 28 x x, ty, ps, af, none⟩ :: rest) E w K :=
  RR.act hN fun ρ m hρ => ⟨_, _, m, by
    have h := run_make_row' (P := Try.prog) 28 21 (.int .i32 0) 4 Try.underlying28 info21 rfl .i64 .i64 n (by omega) (by omega) (w.drewN m)
    rw [made1] at h
    simp [execOp, hρ _ _ hx, go_sem, h]; rfl, hk⟩
theorem RR.mk33 {n : Nat} (hx : ev E x = some (.int .i64 n)) (hn : n ≤ 16777216) (hN : Nat.blt d N = true)
    (hk : RR false N ops rest ((d, .slice (some ⟨w.heap.size, 0, none⟩) n n) :: E) (w.alloc (.cells (Array.replicate n (.int .i64 0)) 3)) K) :
    RR false N ops (⟨some d, .makeSlice 33 x x, ty, ps, af, none⟩ :: rest) E w K :=
  RR.act hN fun ρ m hρ => ⟨_, _, m, by
    have h := run_make_row' (P := Try.prog) 33 3 (.int .i64 0) 8 Try.underlying33 info3 rfl .i64 .i64 n (by omega) (by omega) (w.drewN m)
    rw [made1] at h
    simp [execOp, hρ _ _ hx, go_sem, h]; rfl, hk⟩
theorem RR.mk36 {n : Nat} (hx : ev E x = some (.int .i64 n)) (hn : n ≤ 16777216) (hN : Nat.blt d N = true)
    (hk : RR false N ops rest ((d, .slice (some ⟨w.heap.size, 0, none⟩) n n) :: E) (w.alloc (.cells (Array.replicate n (.bool false)) 4)) K) :
    RR false N ops (⟨some d, .makeSlice 36 x x, ty, ps, af, none⟩ :: rest) E w K :=
  RR.act hN fun ρ m hρ => ⟨_, _, m, by
    have h := run_make_row' (P := Try.prog) 36 4 (.bool false) 1 Try.underlying36 info4 rfl .i64 .i64 n (by omega) (by omega) (w.drewN m)
    rw [made1] at h
    simp [execOp, hρ _ _ hx, go_sem, h]; rfl, hk⟩

theorem zero40 (w : World) : (zeroValue 40).run Try.prog w = .ok (.agg (Array.replicate 256 (.int .u8 0))) w := by kernel_rfl
theorem zero37 (w : World) : (zeroValue 37).run Try.prog w = .ok (.agg (Array.replicate 256 (.int .i64 0))) w := by kernel_rfl

theorem RR.al40 (hN : Nat.blt d N = true)
    (hk : RR false N ops rest ((d, .pointer (some ⟨w.heap.size, 0, none⟩)) :: E) (w.alloc (.cells (Array.replicate 256 (.int .u8 0)) 40)) K) :
    RR false N ops (⟨some d, .alloc 40, ty, ps, af, none⟩ :: rest) E w K :=
  RR.act hN fun ρ m hρ => ⟨_, _, m, by simp [execOp, go_sem, zero40]; rfl, hk⟩
theorem RR.al37 (hN : Nat.blt d N = true)
    (hk : RR false N ops rest ((d, .pointer (some ⟨w.heap.size, 0, none⟩)) :: E) (w.alloc (.cells (Array.replicate 256 (.int .i64 0)) 37)) K) :
    RR false N ops (⟨some d, .alloc 37, ty, ps, af, none⟩ :: rest) E w K :=
  RR.act hN fun ρ m hρ => ⟨_, _, m, by simp [execOp, go_sem, zero37]; rfl, hk⟩
theorem RR.bs28 {n : Int} (hx : ev E x = some (.int .i32 n)) (hN : Nat.blt d N = true)
    (hk : RR false N ops rest ((d, .slice (some ⟨w.heap.size, 0, none⟩) 1 1) :: E) (w.alloc (.cells #[.int .i32 n] 21)) K) :
    RR false N ops (⟨some d, .buildSlice 28 1 #[(0, x)], ty, ps, af, none⟩ :: rest) E w K :=
  RR.act hN fun ρ m hρ => ⟨_, _, m, by simp [execOp, hρ _ _ hx, go_sem]; rfl, hk⟩
theorem RR.bs22 {n : Int} (hx : ev E x = some (.int .u8 n)) (hN : Nat.blt d N = true)
    (hk : RR false N ops rest ((d, .slice (some ⟨w.heap.size, 0, none⟩) 1 1) :: E) (w.alloc (.cells #[.int .u8 n] 5)) K) :
    RR false N ops (⟨some d, .buildSlice 22 1 #[(0, x)], ty, ps, af, none⟩ :: rest) E w K :=
  RR.act hN fun ρ m hρ => ⟨_, _, m, by simp [execOp, hρ _ _ hx, go_sem]; rfl, hk⟩
end
end Go.Proofs.Qxb6602663a.Vc
