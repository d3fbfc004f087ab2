/-
  zzc1CompareRotations and the two laws on leastRotation.
-/
import Derived.Test.Qxb6602663aLr
namespace Go.Proofs.Qxb6602663a.Vc
open Go.RowKit
set_option linter.unusedVariables false
set_option linter.unusedSimpArgs false
set_option maxRecDepth 10000

theorem nm10 : (Try.f10.name == "runtime.NumGoroutine") = false := by kernel_rfl
theorem nm11 : (Try.f11.name == "runtime.NumGoroutine") = false := by kernel_rfl
theorem nm12 : (Try.f12.name == "runtime.NumGoroutine") = false := by kernel_rfl
theorem nm13 : (Try.f13.name == "runtime.NumGoroutine") = false := by kernel_rfl
theorem nm14 : (Try.f14.name == "runtime.NumGoroutine") = false := by kernel_rfl
theorem nm15 : (Try.f15.name == "runtime.NumGoroutine") = false := by kernel_rfl

theorem mod_step {n x : Nat} (hn : 0 < n) : (x + 1) % n = if x % n + 1 = n then 0 else x % n + 1 := by
  have h := Nat.mod_lt x hn
  rw [← Nat.mod_add_mod x n 1]
  by_cases e : x % n + 1 = n
  · rw [if_pos e, e, Nat.mod_self]
  · rw [if_neg e, Nat.mod_eq_of_lt (by omega)]

/-- What zzc1CompareRotations answers. -/
def Cmp (n : Nat) (g : Nat → Nat) (p q : Nat) (c : Int) : Prop := (c = -1 ∧ Rot.Lt n g p q) ∨ (c = 0 ∧ Rot.Same n g p q) ∨ (c = 1 ∧ Rot.Lt n g q p)

theorem compare_any (b off n cap p q : Nat) (g : Nat → Nat) (w : World) (hn : n ≤ 1048576) (hp : p < n) (hq : q < n) (hper : Rot.Per n g) (ht : SN .u8 w b off n g) :
    FF 14 #[.slice (some ⟨b, off, none⟩) n cap, .int .i64 (p : Int), .int .i64 (q : Int)] w (fun v w' => ∃ c : Int, v = .int .i64 c ∧ w' = w ∧ Cmp n g p q c) := by
  have hn0 : 0 < n := by omega
  refine FF.of_cc (l := [_, _, _]) Try.func14 rfl Try.ntmps14 rfl (CC.keep (F := [(0, _), (1, _), (2, _)]) ⟨rfl, rfl, rfl, trivial⟩ ?_)
  refine CC.seq ?_
  refine CC.region ?_
  refine RR.pv (pv_as rfl) rfl ?_
  refine RR.nil ?_
  refine CC.seq ?_
  refine CC.region ?_
  refine RR.pv (pv_mv rfl) rfl ?_
  refine RR.pv (pv_len rfl st22) rfl ?_
  refine RR.pv (pv_as rfl) rfl ?_
  refine RR.nil ?_
  refine CC.seq ?_
  refine CC.region ?_
  refine RR.pv (pv_mv rfl) rfl ?_
  refine RR.pv (pv_as rfl) rfl ?_
  refine RR.nil ?_
  refine CC.seq ?_
  refine CC.region ?_
  refine RR.pv (pv_mv rfl) rfl ?_
  refine RR.pv (pv_as rfl) rfl ?_
  refine RR.nil ?_
  refine CC.seq ?_
  refine CC.seq ?_
  refine CC.region ?_
  refine RR.pv (pv_as rfl) rfl ?_
  refine RR.nil ?_
  refine CC.block ?_
  refine CC.loop (γ := Nat × Nat × Nat) (F := fun x => [(0, .slice (some ⟨b, off, none⟩) n cap), (7, .int .i64 (n : Int)), (8, .int .i64 (x.1 : Int)), (9, .int .i64 (x.2.1 : Int)), (10, .int .i64 (x.2.2 : Int))])
    (I := fun x w' => w' = w ∧ x.1 = (p + x.2.2) % n ∧ x.2.1 = (q + x.2.2) % n ∧ x.2.2 ≤ n ∧ ∀ d, d < x.2.2 → g (p + d) = g (q + d)) (μ := fun x => n - x.2.2) (p, q, 0) ⟨rfl, rfl, rfl, rfl, rfl, trivial⟩
    ⟨rfl, (Nat.mod_eq_of_lt hp).symm, (Nat.mod_eq_of_lt hq).symm, Nat.zero_le _, fun d hd => absurd hd (Nat.not_lt_zero _)⟩ ?_
  rintro ⟨i, j, d⟩ w' ⟨rfl, hi, hj, hd, hall⟩
  dsimp only at hi hj hd hall ⊢
  have hi' : i < n := by rw [hi]; exact Nat.mod_lt _ hn0
  have hj' : j < n := by rw [hj]; exact Nat.mod_lt _ hn0
  have gi : g i = g (p + d) := by rw [hi]; exact Rot.per_mod hper (p + d) 0
  have gj : g j = g (q + d) := by rw [hj]; exact Rot.per_mod hper (q + d) 0
  have si := mod_step (x := p + d) hn0
  have sj := mod_step (x := q + d) hn0
  rw [← hi] at si
  rw [← hj] at sj
  by_cases hlt : d < n
  · refine CC.seq ?_
    refine CC.seq ?_
    refine CC.region ?_
    refine RR.pv (pv_mv rfl) rfl ?_
    refine RR.pv (pv_mv rfl) rfl ?_
    first | refine RR.pv (pv_lss_t rfl rfl (by omega)) rfl ?_ | refine RR.pv (pv_lss_f rfl rfl (by omega)) rfl ?_ | refine RR.pv (pv_lss rfl rfl) rfl ?_
    refine RR.nil ?_
    refine CC.cond_t rfl ?_
    by_cases hne : g i = g j
    · refine CC.skip ?_
      refine CC.seq ?_
      refine CC.block ?_
      refine CC.seq ?_
      refine CC.seq ?_
      refine CC.regionQ (by decide +kernel) ?_
      refine RR.pv (pv_mv rfl) rfl ?_
      refine RR.pv (pv_mv rfl) rfl ?_
      first | refine RR.pv (pv_ixN rfl rfl st22 (by omega)) rfl ?_ | refine RR.pv (pv_ixZ rfl rfl st22 (by omega)) rfl ?_
      refine RR.pv (pv_ld rfl ct5 (ht _ (by omega))) rfl ?_
      refine RR.pv (pv_mv rfl) rfl ?_
      refine RR.pv (pv_mv rfl) rfl ?_
      first | refine RR.pv (pv_ixN rfl rfl st22 (by omega)) rfl ?_ | refine RR.pv (pv_ixZ rfl rfl st22 (by omega)) rfl ?_
      refine RR.pv (pv_ld rfl ct5 (ht _ (by omega))) rfl ?_
      first | refine RR.pv (pv_neq_t rfl rfl (by omega)) rfl ?_ | refine RR.pv (pv_neq_f rfl rfl (by omega)) rfl ?_ | refine RR.pv (pv_neq rfl rfl) rfl ?_
      refine RR.nil ?_
      refine CC.cond_f rfl ?_
      refine CC.skip ?_
      refine CC.seq ?_
      refine CC.region ?_
      refine RR.pv (pv_mv rfl) rfl ?_
      first | refine RR.pv (pv_addN (n := 1) rfl rfl (by omega)) rfl ?_ | refine RR.pv (pv_add64 rfl rfl (by omega)) rfl ?_
      refine RR.pv (pv_as rfl) rfl ?_
      refine RR.nil ?_
      have fin : ∀ d', d' < d + 1 → g (p + d') = g (q + d') := fun d' hd' => by
        by_cases e : d' = d
        · subst e; omega
        · exact hall d' (by omega)
      by_cases e1 : i + 1 = n
      · refine CC.seq ?_
        refine CC.seq ?_
        refine CC.region ?_
        refine RR.pv (pv_mv rfl) rfl ?_
        refine RR.pv (pv_mv rfl) rfl ?_
        first | refine RR.pv (pv_eql_t rfl rfl (by omega)) rfl ?_ | refine RR.pv (pv_eql_f rfl rfl (by omega)) rfl ?_ | refine RR.pv (pv_eql rfl rfl) rfl ?_
        refine RR.nil ?_
        refine CC.cond_t rfl ?_
        refine CC.region ?_
        refine RR.pv (pv_as rfl) rfl ?_
        refine RR.nil ?_
        refine CC.seq ?_
        refine CC.region ?_
        refine RR.pv (pv_mv rfl) rfl ?_
        first | refine RR.pv (pv_addN (n := 1) rfl rfl (by omega)) rfl ?_ | refine RR.pv (pv_add64 rfl rfl (by omega)) rfl ?_
        refine RR.pv (pv_as rfl) rfl ?_
        refine RR.nil ?_
        by_cases e2 : j + 1 = n
        · refine CC.seq ?_
          refine CC.region ?_
          refine RR.pv (pv_mv rfl) rfl ?_
          refine RR.pv (pv_mv rfl) rfl ?_
          first | refine RR.pv (pv_eql_t rfl rfl (by omega)) rfl ?_ | refine RR.pv (pv_eql_f rfl rfl (by omega)) rfl ?_ | refine RR.pv (pv_eql rfl rfl) rfl ?_
          refine RR.nil ?_
          refine CC.cond_t rfl ?_
          refine CC.region ?_
          refine RR.pv (pv_as rfl) rfl ?_
          refine RR.nil ?_
          refine CC.region ?_
          refine RR.pv (pv_mv rfl) rfl ?_
          first | refine RR.pv (pv_addN (n := 1) rfl rfl (by omega)) rfl ?_ | refine RR.pv (pv_add64 rfl rfl (by omega)) rfl ?_
          refine RR.pv (pv_as rfl) rfl ?_
          refine RR.nil ?_
          exact Nxt.go (0, 0, d + 1) ⟨rfl, rfl, rfl, rfl, rfl, trivial⟩ ⟨rfl, by dsimp only; rw [← Nat.add_assoc, si, if_pos e1], by dsimp only; rw [← Nat.add_assoc, sj, if_pos e2], by dsimp only; omega, fin⟩ (by dsimp only; omega)
        · refine CC.seq ?_
          refine CC.region ?_
          refine RR.pv (pv_mv rfl) rfl ?_
          refine RR.pv (pv_mv rfl) rfl ?_
          first | refine RR.pv (pv_eql_t rfl rfl (by omega)) rfl ?_ | refine RR.pv (pv_eql_f rfl rfl (by omega)) rfl ?_ | refine RR.pv (pv_eql rfl rfl) rfl ?_
          refine RR.nil ?_
          refine CC.cond_f rfl ?_
          refine CC.skip ?_
          refine CC.region ?_
          refine RR.pv (pv_mv rfl) rfl ?_
          first | refine RR.pv (pv_addN (n := 1) rfl rfl (by omega)) rfl ?_ | refine RR.pv (pv_add64 rfl rfl (by omega)) rfl ?_
          refine RR.pv (pv_as rfl) rfl ?_
          refine RR.nil ?_
          exact Nxt.go (0, j + 1, d + 1) ⟨rfl, rfl, rfl, rfl, rfl, trivial⟩ ⟨rfl, by dsimp only; rw [← Nat.add_assoc, si, if_pos e1], by dsimp only; rw [← Nat.add_assoc, sj, if_neg e2], by dsimp only; omega, fin⟩ (by dsimp only; omega)
      · refine CC.seq ?_
        refine CC.seq ?_
        refine CC.region ?_
        refine RR.pv (pv_mv rfl) rfl ?_
        refine RR.pv (pv_mv rfl) rfl ?_
        first | refine RR.pv (pv_eql_t rfl rfl (by omega)) rfl ?_ | refine RR.pv (pv_eql_f rfl rfl (by omega)) rfl ?_ | refine RR.pv (pv_eql rfl rfl) rfl ?_
        refine RR.nil ?_
        refine CC.cond_f rfl ?_
        refine CC.skip ?_
        refine CC.seq ?_
        refine CC.region ?_
        refine RR.pv (pv_mv rfl) rfl ?_
        first | refine RR.pv (pv_addN (n := 1) rfl rfl (by omega)) rfl ?_ | refine RR.pv (pv_add64 rfl rfl (by omega)) rfl ?_
        refine RR.pv (pv_as rfl) rfl ?_
        refine RR.nil ?_
        by_cases e2 : j + 1 = n
        · refine CC.seq ?_
          refine CC.region ?_
          refine RR.pv (pv_mv rfl) rfl ?_
          refine RR.pv (pv_mv rfl) rfl ?_
          first | refine RR.pv (pv_eql_t rfl rfl (by omega)) rfl ?_ | refine RR.pv (pv_eql_f rfl rfl (by omega)) rfl ?_ | refine RR.pv (pv_eql rfl rfl) rfl ?_
          refine RR.nil ?_
          refine CC.cond_t rfl ?_
          refine CC.region ?_
          refine RR.pv (pv_as rfl) rfl ?_
          refine RR.nil ?_
          refine CC.region ?_
          refine RR.pv (pv_mv rfl) rfl ?_
          first | refine RR.pv (pv_addN (n := 1) rfl rfl (by omega)) rfl ?_ | refine RR.pv (pv_add64 rfl rfl (by omega)) rfl ?_
          refine RR.pv (pv_as rfl) rfl ?_
          refine RR.nil ?_
          exact Nxt.go (i + 1, 0, d + 1) ⟨rfl, rfl, rfl, rfl, rfl, trivial⟩ ⟨rfl, by dsimp only; rw [← Nat.add_assoc, si, if_neg e1], by dsimp only; rw [← Nat.add_assoc, sj, if_pos e2], by dsimp only; omega, fin⟩ (by dsimp only; omega)
        · refine CC.seq ?_
          refine CC.region ?_
          refine RR.pv (pv_mv rfl) rfl ?_
          refine RR.pv (pv_mv rfl) rfl ?_
          first | refine RR.pv (pv_eql_t rfl rfl (by omega)) rfl ?_ | refine RR.pv (pv_eql_f rfl rfl (by omega)) rfl ?_ | refine RR.pv (pv_eql rfl rfl) rfl ?_
          refine RR.nil ?_
          refine CC.cond_f rfl ?_
          refine CC.skip ?_
          refine CC.region ?_
          refine RR.pv (pv_mv rfl) rfl ?_
          first | refine RR.pv (pv_addN (n := 1) rfl rfl (by omega)) rfl ?_ | refine RR.pv (pv_add64 rfl rfl (by omega)) rfl ?_
          refine RR.pv (pv_as rfl) rfl ?_
          refine RR.nil ?_
          exact Nxt.go (i + 1, j + 1, d + 1) ⟨rfl, rfl, rfl, rfl, rfl, trivial⟩ ⟨rfl, by dsimp only; rw [← Nat.add_assoc, si, if_neg e1], by dsimp only; rw [← Nat.add_assoc, sj, if_neg e2], by dsimp only; omega, fin⟩ (by dsimp only; omega)
    · refine CC.skip ?_
      refine CC.seq ?_
      refine CC.block ?_
      refine CC.seq ?_
      refine CC.seq ?_
      refine CC.regionQ (by decide +kernel) ?_
      refine RR.pv (pv_mv rfl) rfl ?_
      refine RR.pv (pv_mv rfl) rfl ?_
      first | refine RR.pv (pv_ixN rfl rfl st22 (by omega)) rfl ?_ | refine RR.pv (pv_ixZ rfl rfl st22 (by omega)) rfl ?_
      refine RR.pv (pv_ld rfl ct5 (ht _ (by omega))) rfl ?_
      refine RR.pv (pv_mv rfl) rfl ?_
      refine RR.pv (pv_mv rfl) rfl ?_
      first | refine RR.pv (pv_ixN rfl rfl st22 (by omega)) rfl ?_ | refine RR.pv (pv_ixZ rfl rfl st22 (by omega)) rfl ?_
      refine RR.pv (pv_ld rfl ct5 (ht _ (by omega))) rfl ?_
      first | refine RR.pv (pv_neq_t rfl rfl (by omega)) rfl ?_ | refine RR.pv (pv_neq_f rfl rfl (by omega)) rfl ?_ | refine RR.pv (pv_neq rfl rfl) rfl ?_
      refine RR.nil ?_
      refine CC.cond_t rfl ?_
      by_cases hless : g i < g j
      · refine CC.seq ?_
        refine CC.seq ?_
        refine CC.regionQ (by decide +kernel) ?_
        refine RR.pv (pv_mv rfl) rfl ?_
        refine RR.pv (pv_mv rfl) rfl ?_
        first | refine RR.pv (pv_ixN rfl rfl st22 (by omega)) rfl ?_ | refine RR.pv (pv_ixZ rfl rfl st22 (by omega)) rfl ?_
        refine RR.pv (pv_ld rfl ct5 (ht _ (by omega))) rfl ?_
        refine RR.pv (pv_mv rfl) rfl ?_
        refine RR.pv (pv_mv rfl) rfl ?_
        first | refine RR.pv (pv_ixN rfl rfl st22 (by omega)) rfl ?_ | refine RR.pv (pv_ixZ rfl rfl st22 (by omega)) rfl ?_
        refine RR.pv (pv_ld rfl ct5 (ht _ (by omega))) rfl ?_
        first | refine RR.pv (pv_lss_t rfl rfl (by omega)) rfl ?_ | refine RR.pv (pv_lss_f rfl rfl (by omega)) rfl ?_ | refine RR.pv (pv_lss rfl rfl) rfl ?_
        refine RR.nil ?_
        refine CC.cond_t rfl ?_
        refine CC.seq ?_
        refine CC.region ?_
        refine RR.pv (pv_as rfl) rfl ?_
        refine RR.nil ?_
        refine CC.ret ?_
        exact EndQ.r1 Try.results14 rfl ⟨-1, rfl, rfl, .inl ⟨rfl, d, hlt, hall, by omega⟩⟩
      · refine CC.seq ?_
        refine CC.seq ?_
        refine CC.regionQ (by decide +kernel) ?_
        refine RR.pv (pv_mv rfl) rfl ?_
        refine RR.pv (pv_mv rfl) rfl ?_
        first | refine RR.pv (pv_ixN rfl rfl st22 (by omega)) rfl ?_ | refine RR.pv (pv_ixZ rfl rfl st22 (by omega)) rfl ?_
        refine RR.pv (pv_ld rfl ct5 (ht _ (by omega))) rfl ?_
        refine RR.pv (pv_mv rfl) rfl ?_
        refine RR.pv (pv_mv rfl) rfl ?_
        first | refine RR.pv (pv_ixN rfl rfl st22 (by omega)) rfl ?_ | refine RR.pv (pv_ixZ rfl rfl st22 (by omega)) rfl ?_
        refine RR.pv (pv_ld rfl ct5 (ht _ (by omega))) rfl ?_
        first | refine RR.pv (pv_lss_t rfl rfl (by omega)) rfl ?_ | refine RR.pv (pv_lss_f rfl rfl (by omega)) rfl ?_ | refine RR.pv (pv_lss rfl rfl) rfl ?_
        refine RR.nil ?_
        refine CC.cond_f rfl ?_
        refine CC.skip ?_
        refine CC.seq ?_
        refine CC.region ?_
        refine RR.pv (pv_as rfl) rfl ?_
        refine RR.nil ?_
        refine CC.ret ?_
        exact EndQ.r1 Try.results14 rfl ⟨1, rfl, rfl, .inr (.inr ⟨rfl, d, hlt, fun d' hd' => (hall d' hd').symm, by omega⟩)⟩
  · refine CC.seq ?_
    refine CC.seq ?_
    refine CC.region ?_
    refine RR.pv (pv_mv rfl) rfl ?_
    refine RR.pv (pv_mv rfl) rfl ?_
    first | refine RR.pv (pv_lss_t rfl rfl (by omega)) rfl ?_ | refine RR.pv (pv_lss_f rfl rfl (by omega)) rfl ?_ | refine RR.pv (pv_lss rfl rfl) rfl ?_
    refine RR.nil ?_
    refine CC.cond_f rfl ?_
    refine CC.exit ?_
    refine CC.seq ?_
    refine CC.region ?_
    refine RR.pv (pv_as rfl) rfl ?_
    refine RR.nil ?_
    refine CC.ret ?_
    exact EndQ.r1 Try.results14 rfl ⟨0, rfl, rfl, .inr (.inl ⟨rfl, fun d' hd' => hall d' (by omega)⟩)⟩

/-! ### the law FnLeastRotationIsFirstLeast -/
theorem law3_big (a : Option Addr) (n c : Nat) (w : World) (h : 1048576 < n) : FF 3 #[.slice a n c] w (fun v w' => v = .bool true ∧ w' = w) := by
  refine FF.of_cc (l := [_]) Try.func3 rfl Try.ntmps3 rfl (CC.keep (F := [(0, _)]) ⟨rfl, trivial⟩ ?_)
  refine CC.seq ?_
  refine CC.region ?_
  refine RR.pv (pv_as rfl) rfl ?_
  refine RR.nil ?_
  refine CC.seq ?_
  refine CC.seq ?_
  refine CC.region ?_
  refine RR.pv (pv_mv rfl) rfl ?_
  refine RR.call Try.func10 nm10 rfl rfl (zz10_no a n c w h) rfl ?_
  rintro v w' ⟨rfl, rfl⟩
  first | refine RR.pv (pv_not_t rfl) rfl ?_ | refine RR.pv (pv_not_f rfl) rfl ?_ | refine RR.pv (pv_not rfl) rfl ?_
  refine RR.nil ?_
  refine CC.cond_t rfl ?_
  refine CC.seq ?_
  refine CC.region ?_
  refine RR.pv (pv_as rfl) rfl ?_
  refine RR.nil ?_
  refine CC.ret ?_
  exact EndQ.r1 Try.results3 rfl ⟨rfl, rfl⟩

theorem law3_mid (a : Option Addr) (n c : Nat) (w : World) (h : n ≤ 1048576) (h' : 8192 < n) : FF 3 #[.slice a n c] w (fun v w' => v = .bool true ∧ w' = w) := by
  refine FF.of_cc (l := [_]) Try.func3 rfl Try.ntmps3 rfl (CC.keep (F := [(0, _)]) ⟨rfl, trivial⟩ ?_)
  refine CC.seq ?_
  refine CC.region ?_
  refine RR.pv (pv_as rfl) rfl ?_
  refine RR.nil ?_
  refine CC.seq ?_
  refine CC.seq ?_
  refine CC.region ?_
  refine RR.pv (pv_mv rfl) rfl ?_
  refine RR.call Try.func10 nm10 rfl rfl (zz10 a n c w h) rfl ?_
  rintro v w' ⟨rfl, rfl⟩
  first | refine RR.pv (pv_not_t rfl) rfl ?_ | refine RR.pv (pv_not_f rfl) rfl ?_ | refine RR.pv (pv_not rfl) rfl ?_
  refine RR.nil ?_
  refine CC.cond_f rfl ?_
  refine CC.skip ?_
  refine CC.seq ?_
  refine CC.seq ?_
  refine CC.region ?_
  refine RR.pv (pv_mv rfl) rfl ?_
  refine RR.pv (pv_len rfl st22) rfl ?_
  first | refine RR.pv (pv_gtr_t rfl rfl (by omega)) rfl ?_ | refine RR.pv (pv_gtr_f rfl rfl (by omega)) rfl ?_ | refine RR.pv (pv_gtr rfl rfl) rfl ?_
  refine RR.nil ?_
  refine CC.cond_t rfl ?_
  refine CC.seq ?_
  refine CC.region ?_
  refine RR.pv (pv_as rfl) rfl ?_
  refine RR.nil ?_
  refine CC.ret ?_
  exact EndQ.r1 Try.results3 rfl ⟨rfl, rfl⟩

theorem law3_odd (a : Option Addr) (n c : Nat) (w : World) (h : n ≤ 8192) (h' : n / 2 = 0 ∨ n % 2 = 1) : FF 3 #[.slice a n c] w (fun v w' => v = .bool true ∧ w' = w) := by
  refine FF.of_cc (l := [_]) Try.func3 rfl Try.ntmps3 rfl (CC.keep (F := [(0, _)]) ⟨rfl, trivial⟩ ?_)
  refine CC.seq ?_
  refine CC.region ?_
  refine RR.pv (pv_as rfl) rfl ?_
  refine RR.nil ?_
  refine CC.seq ?_
  refine CC.seq ?_
  refine CC.region ?_
  refine RR.pv (pv_mv rfl) rfl ?_
  refine RR.call Try.func10 nm10 rfl rfl (zz10 a n c w (by omega)) rfl ?_
  rintro v w' ⟨rfl, rfl⟩
  first | refine RR.pv (pv_not_t rfl) rfl ?_ | refine RR.pv (pv_not_f rfl) rfl ?_ | refine RR.pv (pv_not rfl) rfl ?_
  refine RR.nil ?_
  refine CC.cond_f rfl ?_
  refine CC.skip ?_
  refine CC.seq ?_
  refine CC.seq ?_
  refine CC.region ?_
  refine RR.pv (pv_mv rfl) rfl ?_
  refine RR.pv (pv_len rfl st22) rfl ?_
  first | refine RR.pv (pv_gtr_t rfl rfl (by omega)) rfl ?_ | refine RR.pv (pv_gtr_f rfl rfl (by omega)) rfl ?_ | refine RR.pv (pv_gtr rfl rfl) rfl ?_
  refine RR.nil ?_
  refine CC.cond_f rfl ?_
  refine CC.skip ?_
  refine CC.seq ?_
  refine CC.region ?_
  refine RR.pv (pv_mv rfl) rfl ?_
  refine RR.pv (pv_len rfl st22) rfl ?_
  refine RR.pv (pv_quoN (n := 2) rfl rfl (by omega) (by omega)) rfl ?_
  refine RR.pv (pv_as rfl) rfl ?_
  refine RR.nil ?_
  have hx : n / 2 = 0 ∨ (n / 2 ≠ 0 ∧ n % 2 = 1) := by omega
  rcases hx with hx | ⟨hx, hx'⟩
  all_goals
    refine CC.seq ?_
    refine CC.seq ?_
    refine CC.region ?_
    refine RR.pv (pv_mv rfl) rfl ?_
    first | refine RR.pv (pv_eql_t rfl rfl (by omega)) rfl ?_ | refine RR.pv (pv_eql_f rfl rfl (by omega)) rfl ?_ | refine RR.pv (pv_eql rfl rfl) rfl ?_
    refine RR.pv (pv_mv rfl) rfl ?_
    first | refine RR.gy rfl rfl (pv_mv rfl) rfl ?_ | refine RR.gn rfl rfl rfl rfl ?_
    first | refine RR.gy rfl rfl (pv_len rfl st22) rfl ?_ | refine RR.gn rfl rfl rfl rfl ?_
    first | refine RR.gy rfl rfl (pv_mv rfl) rfl ?_ | refine RR.gn rfl rfl rfl rfl ?_
    first | refine RR.gy rfl rfl (pv_mulN (m := 2) rfl rfl (by omega)) rfl ?_ | refine RR.gy rfl rfl (pv_mul64 rfl rfl (by omega)) rfl ?_ | refine RR.gn rfl rfl rfl rfl ?_
    first | refine RR.gy rfl rfl (pv_neq_t rfl rfl (by omega)) rfl ?_ | refine RR.gy rfl rfl (pv_neq_f rfl rfl (by omega)) rfl ?_ | refine RR.gy rfl rfl (pv_neq rfl rfl) rfl ?_ | refine RR.gn rfl rfl rfl rfl ?_
    first | refine RR.pv (pv_pick_t rfl rfl) rfl ?_ | refine RR.pv (pv_pick_f rfl rfl) rfl ?_
    refine RR.pv (pv_mv rfl) rfl ?_
    first | refine RR.gy rfl rfl (pv_mv rfl) rfl ?_ | refine RR.gn rfl rfl rfl rfl ?_
    refine RR.gn rfl rfl rfl rfl ?_
    first | refine RR.gy rfl rfl (pv_not_t rfl) rfl ?_ | refine RR.gy rfl rfl (pv_not_f rfl) rfl ?_ | refine RR.gy rfl rfl (pv_not rfl) rfl ?_ | refine RR.gn rfl rfl rfl rfl ?_
    first | refine RR.pv (pv_pick_t rfl rfl) rfl ?_ | refine RR.pv (pv_pick_f rfl rfl) rfl ?_
    refine RR.nil ?_
    refine CC.cond_t rfl ?_
    refine CC.seq ?_
    refine CC.region ?_
    refine RR.pv (pv_as rfl) rfl ?_
    refine RR.nil ?_
    refine CC.ret ?_
    exact EndQ.r1 Try.results3 rfl ⟨rfl, rfl⟩

theorem law3_nodbl (b off n c : Nat) (f : Nat → Nat) (w : World) (h : n ≤ 8192) (h0 : n / 2 ≠ 0) (h1 : n % 2 = 0) (ht : SN .u8 w b off n f) (hd : dbl f (n / 2) = false) :
    FF 3 #[.slice (some ⟨b, off, none⟩) n c] w (fun v w' => v = .bool true ∧ w' = w) := by
  have hF := isDoubled_any b off n c f w (by omega) ht
  rw [hd] at hF
  refine FF.of_cc (l := [_]) Try.func3 rfl Try.ntmps3 rfl (CC.keep (F := [(0, _)]) ⟨rfl, trivial⟩ ?_)
  refine CC.seq ?_
  refine CC.region ?_
  refine RR.pv (pv_as rfl) rfl ?_
  refine RR.nil ?_
  refine CC.seq ?_
  refine CC.seq ?_
  refine CC.region ?_
  refine RR.pv (pv_mv rfl) rfl ?_
  refine RR.call Try.func10 nm10 rfl rfl (zz10 _ n c w (by omega)) rfl ?_
  rintro v w' ⟨rfl, rfl⟩
  first | refine RR.pv (pv_not_t rfl) rfl ?_ | refine RR.pv (pv_not_f rfl) rfl ?_ | refine RR.pv (pv_not rfl) rfl ?_
  refine RR.nil ?_
  refine CC.cond_f rfl ?_
  refine CC.skip ?_
  refine CC.seq ?_
  refine CC.seq ?_
  refine CC.region ?_
  refine RR.pv (pv_mv rfl) rfl ?_
  refine RR.pv (pv_len rfl st22) rfl ?_
  first | refine RR.pv (pv_gtr_t rfl rfl (by omega)) rfl ?_ | refine RR.pv (pv_gtr_f rfl rfl (by omega)) rfl ?_ | refine RR.pv (pv_gtr rfl rfl) rfl ?_
  refine RR.nil ?_
  refine CC.cond_f rfl ?_
  refine CC.skip ?_
  refine CC.seq ?_
  refine CC.region ?_
  refine RR.pv (pv_mv rfl) rfl ?_
  refine RR.pv (pv_len rfl st22) rfl ?_
  refine RR.pv (pv_quoN (n := 2) rfl rfl (by omega) (by omega)) rfl ?_
  refine RR.pv (pv_as rfl) rfl ?_
  refine RR.nil ?_
  refine CC.seq ?_
  refine CC.seq ?_
  refine CC.region ?_
  refine RR.pv (pv_mv rfl) rfl ?_
  first | refine RR.pv (pv_eql_t rfl rfl (by omega)) rfl ?_ | refine RR.pv (pv_eql_f rfl rfl (by omega)) rfl ?_ | refine RR.pv (pv_eql rfl rfl) rfl ?_
  refine RR.pv (pv_mv rfl) rfl ?_
  first | refine RR.gy rfl rfl (pv_mv rfl) rfl ?_ | refine RR.gn rfl rfl rfl rfl ?_
  first | refine RR.gy rfl rfl (pv_len rfl st22) rfl ?_ | refine RR.gn rfl rfl rfl rfl ?_
  first | refine RR.gy rfl rfl (pv_mv rfl) rfl ?_ | refine RR.gn rfl rfl rfl rfl ?_
  first | refine RR.gy rfl rfl (pv_mulN (m := 2) rfl rfl (by omega)) rfl ?_ | refine RR.gy rfl rfl (pv_mul64 rfl rfl (by omega)) rfl ?_ | refine RR.gn rfl rfl rfl rfl ?_
  first | refine RR.gy rfl rfl (pv_neq_t rfl rfl (by omega)) rfl ?_ | refine RR.gy rfl rfl (pv_neq_f rfl rfl (by omega)) rfl ?_ | refine RR.gy rfl rfl (pv_neq rfl rfl) rfl ?_ | refine RR.gn rfl rfl rfl rfl ?_
  first | refine RR.pv (pv_pick_t rfl rfl) rfl ?_ | refine RR.pv (pv_pick_f rfl rfl) rfl ?_
  refine RR.pv (pv_mv rfl) rfl ?_
  first | refine RR.gy rfl rfl (pv_mv rfl) rfl ?_ | refine RR.gn rfl rfl rfl rfl ?_
  refine RR.callG rfl rfl Try.func11 nm11 rfl rfl hF rfl ?_
  first | refine RR.gy rfl rfl (pv_not_t rfl) rfl ?_ | refine RR.gy rfl rfl (pv_not_f rfl) rfl ?_ | refine RR.gy rfl rfl (pv_not rfl) rfl ?_ | refine RR.gn rfl rfl rfl rfl ?_
  first | refine RR.pv (pv_pick_t rfl rfl) rfl ?_ | refine RR.pv (pv_pick_f rfl rfl) rfl ?_
  refine RR.nil ?_
  refine CC.cond_t rfl ?_
  refine CC.seq ?_
  refine CC.region ?_
  refine RR.pv (pv_as rfl) rfl ?_
  refine RR.nil ?_
  refine CC.ret ?_
  exact EndQ.r1 Try.results3 rfl ⟨rfl, rfl⟩

/-- The sequence of period n that a doubled string spells. -/
theorem per_of_dbl {f : Nat → Nat} {n : Nat} (hn : 0 < n) (hd : dbl f n = true) : Rot.Per n (fun x => f (x % n)) ∧ ∀ i, i < 2 * n → f i = (fun x => f (x % n)) i := by
  refine ⟨fun x => by simp, fun i hi => ?_⟩
  rcases Nat.lt_or_ge i n with h | h
  · simp [Nat.mod_eq_of_lt h]
  · have := dbl_spec hd (i - n) (by omega)
    rw [show n + (i - n) = i from by omega] at this
    have e : i % n = i - n := by rw [Nat.mod_eq_sub_mod h, Nat.mod_eq_of_lt (by omega)]
    simp [e, this]

theorem law3_main (b off n c : Nat) (f : Nat → Nat) (w : World) (h : 2 * n ≤ 8192) (h0 : 0 < n) (ht : SN .u8 w b off (2 * n) f) (hd : dbl f n = true) :
    FF 3 #[.slice (some ⟨b, off, none⟩) (2 * n) c] w (fun v w' => v = .bool true ∧ Touch (fun _ _ => False) w w') := by
  have hdiv : 2 * n / 2 = n := by omega
  obtain ⟨hper, hfg⟩ := per_of_dbl h0 hd
  have hF := isDoubled_any b off (2 * n) c f w (by omega) ht
  rw [hdiv, hd] at hF
  have htg : SN .u8 w b off (2 * n) (fun x => f (x % n)) := (ht.v.congr hfg).nn
  generalize (fun x => f (x % n)) = g at hper htg
  refine FF.of_cc (l := [_]) Try.func3 rfl Try.ntmps3 rfl (CC.keep (F := [(0, _)]) ⟨rfl, trivial⟩ ?_)
  refine CC.seq ?_
  refine CC.region ?_
  refine RR.pv (pv_as rfl) rfl ?_
  refine RR.nil ?_
  refine CC.seq ?_
  refine CC.seq ?_
  refine CC.region ?_
  refine RR.pv (pv_mv rfl) rfl ?_
  refine RR.call Try.func10 nm10 rfl rfl (zz10 _ (2 * n) c w (by omega)) rfl ?_
  rintro v w' ⟨rfl, rfl⟩
  first | refine RR.pv (pv_not_t rfl) rfl ?_ | refine RR.pv (pv_not_f rfl) rfl ?_ | refine RR.pv (pv_not rfl) rfl ?_
  refine RR.nil ?_
  refine CC.cond_f rfl ?_
  refine CC.skip ?_
  refine CC.seq ?_
  refine CC.seq ?_
  refine CC.region ?_
  refine RR.pv (pv_mv rfl) rfl ?_
  refine RR.pv (pv_len rfl st22) rfl ?_
  first | refine RR.pv (pv_gtr_t rfl rfl (by omega)) rfl ?_ | refine RR.pv (pv_gtr_f rfl rfl (by omega)) rfl ?_ | refine RR.pv (pv_gtr rfl rfl) rfl ?_
  refine RR.nil ?_
  refine CC.cond_f rfl ?_
  refine CC.skip ?_
  refine CC.seq ?_
  refine CC.region ?_
  refine RR.pv (pv_mv rfl) rfl ?_
  refine RR.pv (pv_len rfl st22) rfl ?_
  refine RR.pv (pv_quoN (n := 2) rfl rfl (by omega) (by omega)) rfl ?_
  refine RR.pv (pv_as rfl) rfl ?_
  refine RR.nil ?_
  rw [hdiv]
  refine CC.seq ?_
  refine CC.seq ?_
  refine CC.region ?_
  refine RR.pv (pv_mv rfl) rfl ?_
  first | refine RR.pv (pv_eql_t rfl rfl (by omega)) rfl ?_ | refine RR.pv (pv_eql_f rfl rfl (by omega)) rfl ?_ | refine RR.pv (pv_eql rfl rfl) rfl ?_
  refine RR.pv (pv_mv rfl) rfl ?_
  first | refine RR.gy rfl rfl (pv_mv rfl) rfl ?_ | refine RR.gn rfl rfl rfl rfl ?_
  first | refine RR.gy rfl rfl (pv_len rfl st22) rfl ?_ | refine RR.gn rfl rfl rfl rfl ?_
  first | refine RR.gy rfl rfl (pv_mv rfl) rfl ?_ | refine RR.gn rfl rfl rfl rfl ?_
  first | refine RR.gy rfl rfl (pv_mulN (m := 2) rfl rfl (by omega)) rfl ?_ | refine RR.gy rfl rfl (pv_mul64 rfl rfl (by omega)) rfl ?_ | refine RR.gn rfl rfl rfl rfl ?_
  first | refine RR.gy rfl rfl (pv_neq_t rfl rfl (by omega)) rfl ?_ | refine RR.gy rfl rfl (pv_neq_f rfl rfl (by omega)) rfl ?_ | refine RR.gy rfl rfl (pv_neq rfl rfl) rfl ?_ | refine RR.gn rfl rfl rfl rfl ?_
  first | refine RR.pv (pv_pick_t rfl rfl) rfl ?_ | refine RR.pv (pv_pick_f rfl rfl) rfl ?_
  refine RR.pv (pv_mv rfl) rfl ?_
  first | refine RR.gy rfl rfl (pv_mv rfl) rfl ?_ | refine RR.gn rfl rfl rfl rfl ?_
  refine RR.callG rfl rfl Try.func11 nm11 rfl rfl hF rfl ?_
  first | refine RR.gy rfl rfl (pv_not_t rfl) rfl ?_ | refine RR.gy rfl rfl (pv_not_f rfl) rfl ?_ | refine RR.gy rfl rfl (pv_not rfl) rfl ?_ | refine RR.gn rfl rfl rfl rfl ?_
  first | refine RR.pv (pv_pick_t rfl rfl) rfl ?_ | refine RR.pv (pv_pick_f rfl rfl) rfl ?_
  refine RR.nil ?_
  refine CC.cond_f rfl ?_
  refine CC.skip ?_
  refine CC.seq ?_
  refine CC.region ?_
  refine RR.pv (pv_mv rfl) rfl ?_
  refine RR.call Try.func12 nm12 rfl rfl (cloneBytes_any b off (2 * n) c g w' (by omega) htg) rfl ?_
  rintro v w1 ⟨k, rfl, hk1, hk2, hs1, hw1, hto⟩
  refine RR.pv (pv_as rfl) rfl ?_
  refine RR.nil ?_
  refine CC.seq ?_
  refine CC.region ?_
  refine RR.pv (pv_mv rfl) rfl ?_
  refine RR.call Try.func13 nm13 rfl rfl (zzLeastRotation_any k 0 n (2 * n) g w1 (by omega) h0 hper hs1) rfl ?_
  rintro v w2 ⟨r, rfl, rfl, hr⟩
  refine RR.pv (pv_as rfl) rfl ?_
  refine RR.nil ?_
  refine CC.seq ?_
  refine CC.region ?_
  refine RR.pv (pv_as rfl) rfl ?_
  refine RR.nil ?_
  refine CC.seq ?_
  refine CC.seq ?_
  refine CC.region ?_
  refine RR.pv (pv_as rfl) rfl ?_
  refine RR.nil ?_
  refine CC.block ?_
  refine CC.loop (γ := Nat × Nat) (F := fun x => [(0, .slice (some ⟨k, 0, none⟩) (2 * n) (2 * n)), (3, .int .i64 (n : Int)), (4, .int .i64 (r : Int)), (5, .int .i64 (x.2 : Int)), (6, .int .i64 (x.1 : Int))])
    (I := fun x w' => w' = w2 ∧ x.1 ≤ n ∧ Rot.FirstBelow n g x.1 x.2) (μ := fun x => n - x.1) (1, 0) ⟨rfl, rfl, rfl, rfl, rfl, trivial⟩ ⟨rfl, h0, Rot.FirstBelow.start⟩ ?_
  rintro ⟨q, want⟩ w' ⟨rfl, hq, hfb⟩
  dsimp only at hq hfb ⊢
  have hwq := hfb.1
  by_cases hlt : q < n
  · refine CC.seq ?_
    refine CC.seq ?_
    refine CC.region ?_
    refine RR.pv (pv_mv rfl) rfl ?_
    refine RR.pv (pv_mv rfl) rfl ?_
    first | refine RR.pv (pv_lss_t rfl rfl (by omega)) rfl ?_ | refine RR.pv (pv_lss_f rfl rfl (by omega)) rfl ?_ | refine RR.pv (pv_lss rfl rfl) rfl ?_
    refine RR.nil ?_
    refine CC.cond_t rfl ?_
    refine CC.skip ?_
    refine CC.seq ?_
    refine CC.block ?_
    refine CC.seq ?_
    refine CC.region ?_
    refine RR.pv (pv_mv rfl) rfl ?_
    refine RR.pv (pv_mv rfl) rfl ?_
    refine RR.pv (pv_slh rfl rfl st22 (by omega)) rfl ?_
    refine RR.pv (pv_mv rfl) rfl ?_
    refine RR.pv (pv_mv rfl) rfl ?_
    refine RR.call Try.func14 nm14 rfl rfl (compare_any k 0 n (2 * n) q want g w' (by omega) hlt (by omega) hper (hs1.v.take (by omega)).nn) rfl ?_
    rintro v w2 ⟨cc, rfl, rfl, hcmp⟩
    by_cases hc : cc < 0
    · first | refine RR.pv (pv_lss_t rfl rfl (by omega)) rfl ?_ | refine RR.pv (pv_lss_f rfl rfl (by omega)) rfl ?_ | refine RR.pv (pv_lss rfl rfl) rfl ?_
      refine RR.nil ?_
      refine CC.cond_t rfl ?_
      refine CC.region ?_
      refine RR.pv (pv_mv rfl) rfl ?_
      refine RR.pv (pv_as rfl) rfl ?_
      refine RR.nil ?_
      refine CC.region ?_
      refine RR.pv (pv_mv rfl) rfl ?_
      first | refine RR.pv (pv_addN (n := 1) rfl rfl (by omega)) rfl ?_ | refine RR.pv (pv_add64 rfl rfl (by omega)) rfl ?_
      refine RR.pv (pv_as rfl) rfl ?_
      refine RR.nil ?_
      refine Nxt.go (q + 1, q) ⟨rfl, rfl, rfl, rfl, rfl, trivial⟩ ⟨rfl, hlt, hfb.take ?_⟩ (by dsimp only; omega)
      rcases hcmp with ⟨_, h⟩ | ⟨h, _⟩ | ⟨h, _⟩
      · exact h
      · omega
      · omega
    · first | refine RR.pv (pv_lss_t rfl rfl (by omega)) rfl ?_ | refine RR.pv (pv_lss_f rfl rfl (by omega)) rfl ?_ | refine RR.pv (pv_lss rfl rfl) rfl ?_
      refine RR.nil ?_
      refine CC.cond_f rfl ?_
      refine CC.skip ?_
      refine CC.region ?_
      refine RR.pv (pv_mv rfl) rfl ?_
      first | refine RR.pv (pv_addN (n := 1) rfl rfl (by omega)) rfl ?_ | refine RR.pv (pv_add64 rfl rfl (by omega)) rfl ?_
      refine RR.pv (pv_as rfl) rfl ?_
      refine RR.nil ?_
      refine Nxt.go (q + 1, want) ⟨rfl, rfl, rfl, rfl, rfl, trivial⟩ ⟨rfl, hlt, hfb.leave ?_⟩ (by dsimp only; omega)
      rcases hcmp with ⟨h, _⟩ | ⟨_, h⟩ | ⟨_, h⟩
      · omega
      · exact fun h' => h'.not_same h
      · exact fun h' => (h'.trans h).irrefl
  · have hqn : q = n := by omega
    subst hqn
    have hrw := hr.unique (hfb.first hper h0)
    subst hrw
    refine CC.seq ?_
    refine CC.seq ?_
    refine CC.region ?_
    refine RR.pv (pv_mv rfl) rfl ?_
    refine RR.pv (pv_mv rfl) rfl ?_
    first | refine RR.pv (pv_lss_t rfl rfl (by omega)) rfl ?_ | refine RR.pv (pv_lss_f rfl rfl (by omega)) rfl ?_ | refine RR.pv (pv_lss rfl rfl) rfl ?_
    refine RR.nil ?_
    refine CC.cond_f rfl ?_
    refine CC.exit ?_
    refine CC.seq ?_
    refine CC.region ?_
    refine RR.pv (pv_mv rfl) rfl ?_
    refine RR.pv (pv_mv rfl) rfl ?_
    first | refine RR.pv (pv_eql_t rfl rfl (by omega)) rfl ?_ | refine RR.pv (pv_eql_f rfl rfl (by omega)) rfl ?_ | refine RR.pv (pv_eql rfl rfl) rfl ?_
    refine RR.pv (pv_as rfl) rfl ?_
    refine RR.nil ?_
    refine CC.ret ?_
    exact EndQ.r1 Try.results3 rfl ⟨rfl, hto⟩

/-! ### the law FnLeastRotationSameForEveryRotation -/
theorem law4_big (a : Option Addr) (n c : Nat) (t : Int) (w : World) (h : 1048576 < n) : FF 4 #[.slice a n c, .int .i64 t] w (fun v w' => v = .bool true ∧ w' = w) := by
  refine FF.of_cc (l := [_, _]) Try.func4 rfl Try.ntmps4 rfl (CC.keep (F := [(0, _), (1, _)]) ⟨rfl, rfl, trivial⟩ ?_)
  refine CC.seq ?_
  refine CC.region ?_
  refine RR.pv (pv_as rfl) rfl ?_
  refine RR.nil ?_
  refine CC.seq ?_
  refine CC.seq ?_
  refine CC.region ?_
  refine RR.pv (pv_mv rfl) rfl ?_
  refine RR.pv (pv_mv rfl) rfl ?_
  refine RR.call Try.func15 nm15 rfl rfl (zz15_no a n c t w h) rfl ?_
  rintro v w' ⟨rfl, rfl⟩
  first | refine RR.pv (pv_not_t rfl) rfl ?_ | refine RR.pv (pv_not_f rfl) rfl ?_ | refine RR.pv (pv_not rfl) rfl ?_
  refine RR.nil ?_
  refine CC.cond_t rfl ?_
  refine CC.seq ?_
  refine CC.region ?_
  refine RR.pv (pv_as rfl) rfl ?_
  refine RR.nil ?_
  refine CC.ret ?_
  exact EndQ.r1 Try.results4 rfl ⟨rfl, rfl⟩

theorem law4_mid (a : Option Addr) (n c : Nat) (t : Int) (w : World) (h : n ≤ 1048576) (h' : 8192 < n) : FF 4 #[.slice a n c, .int .i64 t] w (fun v w' => v = .bool true ∧ w' = w) := by
  refine FF.of_cc (l := [_, _]) Try.func4 rfl Try.ntmps4 rfl (CC.keep (F := [(0, _), (1, _)]) ⟨rfl, rfl, trivial⟩ ?_)
  refine CC.seq ?_
  refine CC.region ?_
  refine RR.pv (pv_as rfl) rfl ?_
  refine RR.nil ?_
  refine CC.seq ?_
  refine CC.seq ?_
  refine CC.region ?_
  refine RR.pv (pv_mv rfl) rfl ?_
  refine RR.pv (pv_mv rfl) rfl ?_
  refine RR.call Try.func15 nm15 rfl rfl (zz15 a n c t w h) rfl ?_
  rintro v w' ⟨rfl, rfl⟩
  first | refine RR.pv (pv_not_t rfl) rfl ?_ | refine RR.pv (pv_not_f rfl) rfl ?_ | refine RR.pv (pv_not rfl) rfl ?_
  refine RR.nil ?_
  refine CC.cond_f rfl ?_
  refine CC.skip ?_
  refine CC.seq ?_
  refine CC.seq ?_
  refine CC.region ?_
  refine RR.pv (pv_mv rfl) rfl ?_
  refine RR.pv (pv_len rfl st22) rfl ?_
  first | refine RR.pv (pv_gtr_t rfl rfl (by omega)) rfl ?_ | refine RR.pv (pv_gtr_f rfl rfl (by omega)) rfl ?_ | refine RR.pv (pv_gtr rfl rfl) rfl ?_
  refine RR.nil ?_
  refine CC.cond_t rfl ?_
  refine CC.seq ?_
  refine CC.region ?_
  refine RR.pv (pv_as rfl) rfl ?_
  refine RR.nil ?_
  refine CC.ret ?_
  exact EndQ.r1 Try.results4 rfl ⟨rfl, rfl⟩

theorem law4_odd (a : Option Addr) (n c : Nat) (t : Int) (w : World) (h : n ≤ 8192) (h' : n / 2 = 0 ∨ n % 2 = 1) : FF 4 #[.slice a n c, .int .i64 t] w (fun v w' => v = .bool true ∧ w' = w) := by
  refine FF.of_cc (l := [_, _]) Try.func4 rfl Try.ntmps4 rfl (CC.keep (F := [(0, _), (1, _)]) ⟨rfl, rfl, trivial⟩ ?_)
  refine CC.seq ?_
  refine CC.region ?_
  refine RR.pv (pv_as rfl) rfl ?_
  refine RR.nil ?_
  refine CC.seq ?_
  refine CC.seq ?_
  refine CC.region ?_
  refine RR.pv (pv_mv rfl) rfl ?_
  refine RR.pv (pv_mv rfl) rfl ?_
  refine RR.call Try.func15 nm15 rfl rfl (zz15 a n c t w (by omega)) rfl ?_
  rintro v w' ⟨rfl, rfl⟩
  first | refine RR.pv (pv_not_t rfl) rfl ?_ | refine RR.pv (pv_not_f rfl) rfl ?_ | refine RR.pv (pv_not rfl) rfl ?_
  refine RR.nil ?_
  refine CC.cond_f rfl ?_
  refine CC.skip ?_
  refine CC.seq ?_
  refine CC.seq ?_
  refine CC.region ?_
  refine RR.pv (pv_mv rfl) rfl ?_
  refine RR.pv (pv_len rfl st22) rfl ?_
  first | refine RR.pv (pv_gtr_t rfl rfl (by omega)) rfl ?_ | refine RR.pv (pv_gtr_f rfl rfl (by omega)) rfl ?_ | refine RR.pv (pv_gtr rfl rfl) rfl ?_
  refine RR.nil ?_
  refine CC.cond_f rfl ?_
  refine CC.skip ?_
  refine CC.seq ?_
  refine CC.region ?_
  refine RR.pv (pv_mv rfl) rfl ?_
  refine RR.pv (pv_len rfl st22) rfl ?_
  refine RR.pv (pv_quoN (n := 2) rfl rfl (by omega) (by omega)) rfl ?_
  refine RR.pv (pv_as rfl) rfl ?_
  refine RR.nil ?_
  have hx : n / 2 = 0 ∨ (n / 2 ≠ 0 ∧ n % 2 = 1) := by omega
  rcases hx with hx | ⟨hx, hx'⟩
  all_goals
    refine CC.seq ?_
    refine CC.seq ?_
    refine CC.region ?_
    refine RR.pv (pv_mv rfl) rfl ?_
    first | refine RR.pv (pv_eql_t rfl rfl (by omega)) rfl ?_ | refine RR.pv (pv_eql_f rfl rfl (by omega)) rfl ?_ | refine RR.pv (pv_eql rfl rfl) rfl ?_
    refine RR.pv (pv_mv rfl) rfl ?_
    first | refine RR.gy rfl rfl (pv_mv rfl) rfl ?_ | refine RR.gn rfl rfl rfl rfl ?_
    first | refine RR.gy rfl rfl (pv_len rfl st22) rfl ?_ | refine RR.gn rfl rfl rfl rfl ?_
    first | refine RR.gy rfl rfl (pv_mv rfl) rfl ?_ | refine RR.gn rfl rfl rfl rfl ?_
    first | refine RR.gy rfl rfl (pv_mulN (m := 2) rfl rfl (by omega)) rfl ?_ | refine RR.gy rfl rfl (pv_mul64 rfl rfl (by omega)) rfl ?_ | refine RR.gn rfl rfl rfl rfl ?_
    first | refine RR.gy rfl rfl (pv_neq_t rfl rfl (by omega)) rfl ?_ | refine RR.gy rfl rfl (pv_neq_f rfl rfl (by omega)) rfl ?_ | refine RR.gy rfl rfl (pv_neq rfl rfl) rfl ?_ | refine RR.gn rfl rfl rfl rfl ?_
    first | refine RR.pv (pv_pick_t rfl rfl) rfl ?_ | refine RR.pv (pv_pick_f rfl rfl) rfl ?_
    refine RR.pv (pv_mv rfl) rfl ?_
    first | refine RR.gy rfl rfl (pv_mv rfl) rfl ?_ | refine RR.gn rfl rfl rfl rfl ?_
    refine RR.gn rfl rfl rfl rfl ?_
    first | refine RR.gy rfl rfl (pv_not_t rfl) rfl ?_ | refine RR.gy rfl rfl (pv_not_f rfl) rfl ?_ | refine RR.gy rfl rfl (pv_not rfl) rfl ?_ | refine RR.gn rfl rfl rfl rfl ?_
    first | refine RR.pv (pv_pick_t rfl rfl) rfl ?_ | refine RR.pv (pv_pick_f rfl rfl) rfl ?_
    refine RR.nil ?_
    refine CC.cond_t rfl ?_
    refine CC.seq ?_
    refine CC.region ?_
    refine RR.pv (pv_as rfl) rfl ?_
    refine RR.nil ?_
    refine CC.ret ?_
    exact EndQ.r1 Try.results4 rfl ⟨rfl, rfl⟩

theorem law4_nodbl (b off n c : Nat) (t : Int) (f : Nat → Nat) (w : World) (h : n ≤ 8192) (h0 : n / 2 ≠ 0) (h1 : n % 2 = 0) (ht : SN .u8 w b off n f) (hd : dbl f (n / 2) = false) :
    FF 4 #[.slice (some ⟨b, off, none⟩) n c, .int .i64 t] w (fun v w' => v = .bool true ∧ w' = w) := by
  have hF := isDoubled_any b off n c f w (by omega) ht
  rw [hd] at hF
  refine FF.of_cc (l := [_, _]) Try.func4 rfl Try.ntmps4 rfl (CC.keep (F := [(0, _), (1, _)]) ⟨rfl, rfl, trivial⟩ ?_)
  refine CC.seq ?_
  refine CC.region ?_
  refine RR.pv (pv_as rfl) rfl ?_
  refine RR.nil ?_
  refine CC.seq ?_
  refine CC.seq ?_
  refine CC.region ?_
  refine RR.pv (pv_mv rfl) rfl ?_
  refine RR.pv (pv_mv rfl) rfl ?_
  refine RR.call Try.func15 nm15 rfl rfl (zz15 _ n c t w (by omega)) rfl ?_
  rintro v w' ⟨rfl, rfl⟩
  first | refine RR.pv (pv_not_t rfl) rfl ?_ | refine RR.pv (pv_not_f rfl) rfl ?_ | refine RR.pv (pv_not rfl) rfl ?_
  refine RR.nil ?_
  refine CC.cond_f rfl ?_
  refine CC.skip ?_
  refine CC.seq ?_
  refine CC.seq ?_
  refine CC.region ?_
  refine RR.pv (pv_mv rfl) rfl ?_
  refine RR.pv (pv_len rfl st22) rfl ?_
  first | refine RR.pv (pv_gtr_t rfl rfl (by omega)) rfl ?_ | refine RR.pv (pv_gtr_f rfl rfl (by omega)) rfl ?_ | refine RR.pv (pv_gtr rfl rfl) rfl ?_
  refine RR.nil ?_
  refine CC.cond_f rfl ?_
  refine CC.skip ?_
  refine CC.seq ?_
  refine CC.region ?_
  refine RR.pv (pv_mv rfl) rfl ?_
  refine RR.pv (pv_len rfl st22) rfl ?_
  refine RR.pv (pv_quoN (n := 2) rfl rfl (by omega) (by omega)) rfl ?_
  refine RR.pv (pv_as rfl) rfl ?_
  refine RR.nil ?_
  refine CC.seq ?_
  refine CC.seq ?_
  refine CC.region ?_
  refine RR.pv (pv_mv rfl) rfl ?_
  first | refine RR.pv (pv_eql_t rfl rfl (by omega)) rfl ?_ | refine RR.pv (pv_eql_f rfl rfl (by omega)) rfl ?_ | refine RR.pv (pv_eql rfl rfl) rfl ?_
  refine RR.pv (pv_mv rfl) rfl ?_
  first | refine RR.gy rfl rfl (pv_mv rfl) rfl ?_ | refine RR.gn rfl rfl rfl rfl ?_
  first | refine RR.gy rfl rfl (pv_len rfl st22) rfl ?_ | refine RR.gn rfl rfl rfl rfl ?_
  first | refine RR.gy rfl rfl (pv_mv rfl) rfl ?_ | refine RR.gn rfl rfl rfl rfl ?_
  first | refine RR.gy rfl rfl (pv_mulN (m := 2) rfl rfl (by omega)) rfl ?_ | refine RR.gy rfl rfl (pv_mul64 rfl rfl (by omega)) rfl ?_ | refine RR.gn rfl rfl rfl rfl ?_
  first | refine RR.gy rfl rfl (pv_neq_t rfl rfl (by omega)) rfl ?_ | refine RR.gy rfl rfl (pv_neq_f rfl rfl (by omega)) rfl ?_ | refine RR.gy rfl rfl (pv_neq rfl rfl) rfl ?_ | refine RR.gn rfl rfl rfl rfl ?_
  first | refine RR.pv (pv_pick_t rfl rfl) rfl ?_ | refine RR.pv (pv_pick_f rfl rfl) rfl ?_
  refine RR.pv (pv_mv rfl) rfl ?_
  first | refine RR.gy rfl rfl (pv_mv rfl) rfl ?_ | refine RR.gn rfl rfl rfl rfl ?_
  refine RR.callG rfl rfl Try.func11 nm11 rfl rfl hF rfl ?_
  first | refine RR.gy rfl rfl (pv_not_t rfl) rfl ?_ | refine RR.gy rfl rfl (pv_not_f rfl) rfl ?_ | refine RR.gy rfl rfl (pv_not rfl) rfl ?_ | refine RR.gn rfl rfl rfl rfl ?_
  first | refine RR.pv (pv_pick_t rfl rfl) rfl ?_ | refine RR.pv (pv_pick_f rfl rfl) rfl ?_
  refine RR.nil ?_
  refine CC.cond_t rfl ?_
  refine CC.seq ?_
  refine CC.region ?_
  refine RR.pv (pv_as rfl) rfl ?_
  refine RR.nil ?_
  refine CC.ret ?_
  exact EndQ.r1 Try.results4 rfl ⟨rfl, rfl⟩

theorem law4_out (b off n c : Nat) (t : Int) (f : Nat → Nat) (w : World) (h : n ≤ 8192) (h0 : n / 2 ≠ 0) (h1 : n % 2 = 0) (ht : SN .u8 w b off n f) (hd : dbl f (n / 2) = true) (hto : t < 0 ∨ (n / 2 : Nat) ≤ t) :
    FF 4 #[.slice (some ⟨b, off, none⟩) n c, .int .i64 t] w (fun v w' => v = .bool true ∧ w' = w) := by
  have hF := isDoubled_any b off n c f w (by omega) ht
  rw [hd] at hF
  refine FF.of_cc (l := [_, _]) Try.func4 rfl Try.ntmps4 rfl (CC.keep (F := [(0, _), (1, _)]) ⟨rfl, rfl, trivial⟩ ?_)
  refine CC.seq ?_
  refine CC.region ?_
  refine RR.pv (pv_as rfl) rfl ?_
  refine RR.nil ?_
  refine CC.seq ?_
  refine CC.seq ?_
  refine CC.region ?_
  refine RR.pv (pv_mv rfl) rfl ?_
  refine RR.pv (pv_mv rfl) rfl ?_
  refine RR.call Try.func15 nm15 rfl rfl (zz15 _ n c t w (by omega)) rfl ?_
  rintro v w' ⟨rfl, rfl⟩
  first | refine RR.pv (pv_not_t rfl) rfl ?_ | refine RR.pv (pv_not_f rfl) rfl ?_ | refine RR.pv (pv_not rfl) rfl ?_
  refine RR.nil ?_
  refine CC.cond_f rfl ?_
  refine CC.skip ?_
  refine CC.seq ?_
  refine CC.seq ?_
  refine CC.region ?_
  refine RR.pv (pv_mv rfl) rfl ?_
  refine RR.pv (pv_len rfl st22) rfl ?_
  first | refine RR.pv (pv_gtr_t rfl rfl (by omega)) rfl ?_ | refine RR.pv (pv_gtr_f rfl rfl (by omega)) rfl ?_ | refine RR.pv (pv_gtr rfl rfl) rfl ?_
  refine RR.nil ?_
  refine CC.cond_f rfl ?_
  refine CC.skip ?_
  refine CC.seq ?_
  refine CC.region ?_
  refine RR.pv (pv_mv rfl) rfl ?_
  refine RR.pv (pv_len rfl st22) rfl ?_
  refine RR.pv (pv_quoN (n := 2) rfl rfl (by omega) (by omega)) rfl ?_
  refine RR.pv (pv_as rfl) rfl ?_
  refine RR.nil ?_
  refine CC.seq ?_
  refine CC.seq ?_
  refine CC.region ?_
  refine RR.pv (pv_mv rfl) rfl ?_
  first | refine RR.pv (pv_eql_t rfl rfl (by omega)) rfl ?_ | refine RR.pv (pv_eql_f rfl rfl (by omega)) rfl ?_ | refine RR.pv (pv_eql rfl rfl) rfl ?_
  refine RR.pv (pv_mv rfl) rfl ?_
  first | refine RR.gy rfl rfl (pv_mv rfl) rfl ?_ | refine RR.gn rfl rfl rfl rfl ?_
  first | refine RR.gy rfl rfl (pv_len rfl st22) rfl ?_ | refine RR.gn rfl rfl rfl rfl ?_
  first | refine RR.gy rfl rfl (pv_mv rfl) rfl ?_ | refine RR.gn rfl rfl rfl rfl ?_
  first | refine RR.gy rfl rfl (pv_mulN (m := 2) rfl rfl (by omega)) rfl ?_ | refine RR.gy rfl rfl (pv_mul64 rfl rfl (by omega)) rfl ?_ | refine RR.gn rfl rfl rfl rfl ?_
  first | refine RR.gy rfl rfl (pv_neq_t rfl rfl (by omega)) rfl ?_ | refine RR.gy rfl rfl (pv_neq_f rfl rfl (by omega)) rfl ?_ | refine RR.gy rfl rfl (pv_neq rfl rfl) rfl ?_ | refine RR.gn rfl rfl rfl rfl ?_
  first | refine RR.pv (pv_pick_t rfl rfl) rfl ?_ | refine RR.pv (pv_pick_f rfl rfl) rfl ?_
  refine RR.pv (pv_mv rfl) rfl ?_
  first | refine RR.gy rfl rfl (pv_mv rfl) rfl ?_ | refine RR.gn rfl rfl rfl rfl ?_
  refine RR.callG rfl rfl Try.func11 nm11 rfl rfl hF rfl ?_
  first | refine RR.gy rfl rfl (pv_not_t rfl) rfl ?_ | refine RR.gy rfl rfl (pv_not_f rfl) rfl ?_ | refine RR.gy rfl rfl (pv_not rfl) rfl ?_ | refine RR.gn rfl rfl rfl rfl ?_
  first | refine RR.pv (pv_pick_t rfl rfl) rfl ?_ | refine RR.pv (pv_pick_f rfl rfl) rfl ?_
  refine RR.nil ?_
  refine CC.cond_f rfl ?_
  have hx : t < 0 ∨ (¬ t < 0 ∧ (n / 2 : Nat) ≤ t) := by omega
  rcases hx with hx | ⟨hx, hx'⟩
  all_goals
    refine CC.skip ?_
    refine CC.seq ?_
    refine CC.seq ?_
    refine CC.region ?_
    refine RR.pv (pv_mv rfl) rfl ?_
    first | refine RR.pv (pv_lss_t rfl rfl (by omega)) rfl ?_ | refine RR.pv (pv_lss_f rfl rfl (by omega)) rfl ?_ | refine RR.pv (pv_lss rfl rfl) rfl ?_
    refine RR.pv (pv_mv rfl) rfl ?_
    first | refine RR.gy rfl rfl (pv_mv rfl) rfl ?_ | refine RR.gn rfl rfl rfl rfl ?_
    first | refine RR.gy rfl rfl (pv_mv rfl) rfl ?_ | refine RR.gn rfl rfl rfl rfl ?_
    first | refine RR.gy rfl rfl (pv_geq_t rfl rfl (by omega)) rfl ?_ | refine RR.gy rfl rfl (pv_geq_f rfl rfl (by omega)) rfl ?_ | refine RR.gy rfl rfl (pv_geq rfl rfl) rfl ?_ | refine RR.gn rfl rfl rfl rfl ?_
    first | refine RR.pv (pv_pick_t rfl rfl) rfl ?_ | refine RR.pv (pv_pick_f rfl rfl) rfl ?_
    refine RR.nil ?_
    refine CC.cond_t rfl ?_
    refine CC.seq ?_
    refine CC.region ?_
    refine RR.pv (pv_as rfl) rfl ?_
    refine RR.nil ?_
    refine CC.ret ?_
    exact EndQ.r1 Try.results4 rfl ⟨rfl, rfl⟩

theorem law4_main (b off n c t : Nat) (f : Nat → Nat) (w : World) (h : 2 * n ≤ 8192) (h0 : 0 < n) (htn : t < n) (ht : SN .u8 w b off (2 * n) f) (hd : dbl f n = true) :
    FF 4 #[.slice (some ⟨b, off, none⟩) (2 * n) c, .int .i64 (t : Int)] w (fun v w' => v = .bool true ∧ Touch (fun _ _ => False) w w') := by
  have hdiv : 2 * n / 2 = n := by omega
  obtain ⟨hper, hfg⟩ := per_of_dbl h0 hd
  have hF := isDoubled_any b off (2 * n) c f w (by omega) ht
  rw [hdiv, hd] at hF
  have htg : SN .u8 w b off (2 * n) (fun x => f (x % n)) := (ht.v.congr hfg).nn
  generalize (fun x => f (x % n)) = g at hper htg
  refine FF.of_cc (l := [_, _]) Try.func4 rfl Try.ntmps4 rfl (CC.keep (F := [(0, _), (1, _)]) ⟨rfl, rfl, trivial⟩ ?_)
  refine CC.seq ?_
  refine CC.region ?_
  refine RR.pv (pv_as rfl) rfl ?_
  refine RR.nil ?_
  refine CC.seq ?_
  refine CC.seq ?_
  refine CC.region ?_
  refine RR.pv (pv_mv rfl) rfl ?_
  refine RR.pv (pv_mv rfl) rfl ?_
  refine RR.call Try.func15 nm15 rfl rfl (zz15 _ (2 * n) c t w (by omega)) rfl ?_
  rintro v w' ⟨rfl, rfl⟩
  first | refine RR.pv (pv_not_t rfl) rfl ?_ | refine RR.pv (pv_not_f rfl) rfl ?_ | refine RR.pv (pv_not rfl) rfl ?_
  refine RR.nil ?_
  refine CC.cond_f rfl ?_
  refine CC.skip ?_
  refine CC.seq ?_
  refine CC.seq ?_
  refine CC.region ?_
  refine RR.pv (pv_mv rfl) rfl ?_
  refine RR.pv (pv_len rfl st22) rfl ?_
  first | refine RR.pv (pv_gtr_t rfl rfl (by omega)) rfl ?_ | refine RR.pv (pv_gtr_f rfl rfl (by omega)) rfl ?_ | refine RR.pv (pv_gtr rfl rfl) rfl ?_
  refine RR.nil ?_
  refine CC.cond_f rfl ?_
  refine CC.skip ?_
  refine CC.seq ?_
  refine CC.region ?_
  refine RR.pv (pv_mv rfl) rfl ?_
  refine RR.pv (pv_len rfl st22) rfl ?_
  refine RR.pv (pv_quoN (n := 2) rfl rfl (by omega) (by omega)) rfl ?_
  refine RR.pv (pv_as rfl) rfl ?_
  refine RR.nil ?_
  rw [hdiv]
  refine CC.seq ?_
  refine CC.seq ?_
  refine CC.region ?_
  refine RR.pv (pv_mv rfl) rfl ?_
  first | refine RR.pv (pv_eql_t rfl rfl (by omega)) rfl ?_ | refine RR.pv (pv_eql_f rfl rfl (by omega)) rfl ?_ | refine RR.pv (pv_eql rfl rfl) rfl ?_
  refine RR.pv (pv_mv rfl) rfl ?_
  first | refine RR.gy rfl rfl (pv_mv rfl) rfl ?_ | refine RR.gn rfl rfl rfl rfl ?_
  first | refine RR.gy rfl rfl (pv_len rfl st22) rfl ?_ | refine RR.gn rfl rfl rfl rfl ?_
  first | refine RR.gy rfl rfl (pv_mv rfl) rfl ?_ | refine RR.gn rfl rfl rfl rfl ?_
  first | refine RR.gy rfl rfl (pv_mulN (m := 2) rfl rfl (by omega)) rfl ?_ | refine RR.gy rfl rfl (pv_mul64 rfl rfl (by omega)) rfl ?_ | refine RR.gn rfl rfl rfl rfl ?_
  first | refine RR.gy rfl rfl (pv_neq_t rfl rfl (by omega)) rfl ?_ | refine RR.gy rfl rfl (pv_neq_f rfl rfl (by omega)) rfl ?_ | refine RR.gy rfl rfl (pv_neq rfl rfl) rfl ?_ | refine RR.gn rfl rfl rfl rfl ?_
  first | refine RR.pv (pv_pick_t rfl rfl) rfl ?_ | refine RR.pv (pv_pick_f rfl rfl) rfl ?_
  refine RR.pv (pv_mv rfl) rfl ?_
  first | refine RR.gy rfl rfl (pv_mv rfl) rfl ?_ | refine RR.gn rfl rfl rfl rfl ?_
  refine RR.callG rfl rfl Try.func11 nm11 rfl rfl hF rfl ?_
  first | refine RR.gy rfl rfl (pv_not_t rfl) rfl ?_ | refine RR.gy rfl rfl (pv_not_f rfl) rfl ?_ | refine RR.gy rfl rfl (pv_not rfl) rfl ?_ | refine RR.gn rfl rfl rfl rfl ?_
  first | refine RR.pv (pv_pick_t rfl rfl) rfl ?_ | refine RR.pv (pv_pick_f rfl rfl) rfl ?_
  refine RR.nil ?_
  refine CC.cond_f rfl ?_
  refine CC.skip ?_
  refine CC.seq ?_
  refine CC.seq ?_
  refine CC.region ?_
  refine RR.pv (pv_mv rfl) rfl ?_
  first | refine RR.pv (pv_lss_t rfl rfl (by omega)) rfl ?_ | refine RR.pv (pv_lss_f rfl rfl (by omega)) rfl ?_ | refine RR.pv (pv_lss rfl rfl) rfl ?_
  refine RR.pv (pv_mv rfl) rfl ?_
  first | refine RR.gy rfl rfl (pv_mv rfl) rfl ?_ | refine RR.gn rfl rfl rfl rfl ?_
  first | refine RR.gy rfl rfl (pv_mv rfl) rfl ?_ | refine RR.gn rfl rfl rfl rfl ?_
  first | refine RR.gy rfl rfl (pv_geq_t rfl rfl (by omega)) rfl ?_ | refine RR.gy rfl rfl (pv_geq_f rfl rfl (by omega)) rfl ?_ | refine RR.gy rfl rfl (pv_geq rfl rfl) rfl ?_ | refine RR.gn rfl rfl rfl rfl ?_
  first | refine RR.pv (pv_pick_t rfl rfl) rfl ?_ | refine RR.pv (pv_pick_f rfl rfl) rfl ?_
  refine RR.nil ?_
  refine CC.cond_f rfl ?_
  refine CC.skip ?_
  refine CC.seq ?_
  refine CC.region ?_
  refine RR.pv (pv_mv rfl) rfl ?_
  refine RR.call Try.func12 nm12 rfl rfl (cloneBytes_any b off (2 * n) c g w' (by omega) htg) rfl ?_
  rintro v w1 ⟨k, rfl, hk1, hk2, hs1, hw1, hto⟩
  refine RR.pv (pv_as rfl) rfl ?_
  refine RR.nil ?_
  refine CC.seq ?_
  refine CC.region ?_
  refine RR.pv (pv_mv rfl) rfl ?_
  first | refine RR.pv (pv_mulN (m := 2) rfl rfl (by omega)) rfl ?_ | refine RR.pv (pv_mul64 rfl rfl (by omega)) rfl ?_
  refine RR.mk22 rfl (by omega) rfl ?_
  refine RR.pv (pv_as rfl) rfl ?_
  refine RR.nil ?_
  refine CC.seq ?_
  refine CC.seq ?_
  refine CC.region ?_
  refine RR.pv (pv_as rfl) rfl ?_
  refine RR.nil ?_
  have hs2 := hs1.alloc (.cells (Array.replicate (2 * n) (.int .u8 0)) 5)
  have hn2 := SN.new0 .u8 w1 5 (2 * n)
  have hw2 := WR.new w1 (Array.replicate (2 * n) (.int .u8 0)) 5 0 (2 * n)
  have hto2 := hto.trans (Touch.alloc (fun _ _ => False) w1 (.cells (Array.replicate (2 * n) (.int .u8 0)) 5)) (T := fun _ _ => False) (fun _ _ _ h => h) (fun _ _ _ h => h)
  have hsz : (w1.alloc (.cells (Array.replicate (2 * n) (.int .u8 0)) 5)).heap.size = w1.heap.size + 1 := by simp
  generalize w1.alloc (.cells (Array.replicate (2 * n) (.int .u8 0)) 5) = w2 at hs2 hn2 hw2 hto2 hsz ⊢
  have hk3 : k ≠ w1.heap.size := by omega
  have hge : w'.heap.size ≤ w1.heap.size := hto.size
  generalize w1.heap.size = k2 at hn2 hw2 hk3 hge hsz ⊢
  clear hto hs1 hw1 hk2
  refine CC.block ?_
  refine CC.loop (γ := Nat × (Nat → Nat)) (F := fun x => [(0, .slice (some ⟨k, 0, none⟩) (2 * n) (2 * n)), (1, .int .i64 (t : Int)), (5, .int .i64 (n : Int)), (6, .slice (some ⟨k2, 0, none⟩) (2 * n) (2 * n)), (7, .int .i64 (x.1 : Int))])
    (I := fun x v => SN .u8 v k2 0 (2 * n) x.2 ∧ WR v k2 0 (2 * n) ∧ x.1 ≤ 2 * n ∧ (∀ j, j < x.1 → x.2 j = g (j + t)) ∧ Touch (fun b o => b = k2) w2 v) (μ := fun x => 2 * n - x.1) (0, fun _ => 0) ⟨rfl, rfl, rfl, rfl, rfl, trivial⟩
    ⟨hn2, hw2, Nat.zero_le _, fun j hj => absurd hj (Nat.not_lt_zero _), Touch.refl _ _⟩ ?_
  rintro ⟨i, hh⟩ w3 ⟨hn3, hw3, hi, hall, hto3⟩
  dsimp only at hn3 hi hall ⊢
  have hs3 := hs2.touch hto3 (fun j hj he => hk3 he)
  by_cases hlt : i < 2 * n
  · refine CC.seq ?_
    refine CC.seq ?_
    refine CC.region ?_
    refine RR.pv (pv_mv rfl) rfl ?_
    refine RR.pv (pv_mv rfl) rfl ?_
    first | refine RR.pv (pv_mulN (m := 2) rfl rfl (by omega)) rfl ?_ | refine RR.pv (pv_mul64 rfl rfl (by omega)) rfl ?_
    first | refine RR.pv (pv_lss_t rfl rfl (by omega)) rfl ?_ | refine RR.pv (pv_lss_f rfl rfl (by omega)) rfl ?_ | refine RR.pv (pv_lss rfl rfl) rfl ?_
    refine RR.nil ?_
    refine CC.cond_t rfl ?_
    have hm := Nat.mod_lt (i + t) h0
    refine CC.skip ?_
    refine CC.seq ?_
    refine CC.block ?_
    refine CC.region ?_
    refine RR.pv (pv_mv rfl) rfl ?_
    refine RR.pv (pv_mv rfl) rfl ?_
    refine RR.pv (pv_mv rfl) rfl ?_
    refine RR.pv (pv_mv rfl) rfl ?_
    refine RR.pv (pv_mv rfl) rfl ?_
    first | refine RR.pv (pv_addN rfl rfl (by omega)) rfl ?_ | refine RR.pv (pv_add64 rfl rfl (by omega)) rfl ?_
    refine RR.pv (pv_mv rfl) rfl ?_
    refine RR.pv (pv_remN rfl rfl (by omega) (by omega)) rfl ?_
    first | refine RR.pv (pv_ixN rfl rfl st22 (by omega)) rfl ?_ | refine RR.pv (pv_ixZ rfl rfl st22 (by omega)) rfl ?_
    refine RR.pv (pv_ld rfl ct5 (hs3 _ (by omega))) rfl ?_
    first | refine RR.pv (pv_ixN rfl rfl st22 (by omega)) rfl ?_ | refine RR.pv (pv_ixZ rfl rfl st22 (by omega)) rfl ?_
    refine RR.st rfl rfl ct5 OneV.i (hn3 _ hlt) (hw3 _ hlt) ?_
    refine RR.nil ?_
    refine CC.region ?_
    refine RR.pv (pv_mv rfl) rfl ?_
    first | refine RR.pv (pv_addN (n := 1) rfl rfl (by omega)) rfl ?_ | refine RR.pv (pv_add64 rfl rfl (by omega)) rfl ?_
    refine RR.pv (pv_as rfl) rfl ?_
    refine RR.nil ?_
    refine Nxt.go (i + 1, upd hh i (g ((i + t) % n))) ⟨rfl, rfl, rfl, rfl, rfl, trivial⟩ ⟨hn3.set hlt _, hw3.set, hlt, fun j hj => ?_, hto3.trans (Touch.setCell _ _ _ _) (fun _ _ _ h => h) (fun _ _ _ h => h.1)⟩ (by dsimp only; omega)
    dsimp only at hj ⊢
    by_cases e : j = i
    · subst e
      rw [upd_same]
      exact Rot.per_mod hper (j + t) 0
    · rw [upd_ne _ _ e]
      exact hall j (by omega)
  · have hi2 : i = 2 * n := by omega
    subst hi2
    have hn4 : SN .u8 w3 k2 0 (2 * n) (fun x => g (x + t)) := (hn3.v.congr hall).nn
    obtain ⟨gt, hgt⟩ : ∃ gt : Nat → Nat, ∀ x, gt x = g (x + t) := ⟨fun x => g (x + t), fun _ => rfl⟩
    have hn4' : SN .u8 w3 k2 0 (2 * n) gt := (hn3.v.congr (fun j hj => (hall j hj).trans (hgt j).symm)).nn
    refine CC.seq ?_
    refine CC.seq ?_
    refine CC.region ?_
    refine RR.pv (pv_mv rfl) rfl ?_
    refine RR.pv (pv_mv rfl) rfl ?_
    first | refine RR.pv (pv_mulN (m := 2) rfl rfl (by omega)) rfl ?_ | refine RR.pv (pv_mul64 rfl rfl (by omega)) rfl ?_
    first | refine RR.pv (pv_lss_t rfl rfl (by omega)) rfl ?_ | refine RR.pv (pv_lss_f rfl rfl (by omega)) rfl ?_ | refine RR.pv (pv_lss rfl rfl) rfl ?_
    refine RR.nil ?_
    refine CC.cond_f rfl ?_
    refine CC.exit ?_
    refine CC.seq ?_
    refine CC.region ?_
    refine RR.pv (pv_mv rfl) rfl ?_
    refine RR.call Try.func13 nm13 rfl rfl (zzLeastRotation_any k 0 n (2 * n) g w3 (by omega) h0 hper hs3) rfl ?_
    rintro v w4 ⟨r, rfl, rfl, hr⟩
    refine RR.pv (pv_as rfl) rfl ?_
    refine RR.nil ?_
    refine CC.seq ?_
    refine CC.region ?_
    refine RR.pv (pv_mv rfl) rfl ?_
    refine RR.call Try.func13 nm13 rfl rfl (zzLeastRotation_any k2 0 n (2 * n) _ w4 (by omega) h0 (Rot.shift_per hper t) hn4) rfl ?_
    rintro v w5 ⟨rt, rfl, rfl, hrt⟩
    refine RR.pv (pv_as rfl) rfl ?_
    refine RR.nil ?_
    have hrn := hr.1
    have hrtn := hrt.1
    have hsame : Rot.Same n g r (rt + t) := Rot.same_of_least hr.2.1 (Rot.shift_least hper h0 hrt.2.1)
    refine CC.seq ?_
    refine CC.seq ?_
    refine CC.region ?_
    refine RR.pv (pv_mv rfl) rfl ?_
    first | refine RR.pv (pv_lss_t rfl rfl (by omega)) rfl ?_ | refine RR.pv (pv_lss_f rfl rfl (by omega)) rfl ?_ | refine RR.pv (pv_lss rfl rfl) rfl ?_
    refine RR.pv (pv_mv rfl) rfl ?_
    first | refine RR.gy rfl rfl (pv_mv rfl) rfl ?_ | refine RR.gn rfl rfl rfl rfl ?_
    first | refine RR.gy rfl rfl (pv_mv rfl) rfl ?_ | refine RR.gn rfl rfl rfl rfl ?_
    first | refine RR.gy rfl rfl (pv_geq_t rfl rfl (by omega)) rfl ?_ | refine RR.gy rfl rfl (pv_geq_f rfl rfl (by omega)) rfl ?_ | refine RR.gy rfl rfl (pv_geq rfl rfl) rfl ?_ | refine RR.gn rfl rfl rfl rfl ?_
    first | refine RR.pv (pv_pick_t rfl rfl) rfl ?_ | refine RR.pv (pv_pick_f rfl rfl) rfl ?_
    refine RR.pv (pv_mv rfl) rfl ?_
    first | refine RR.gy rfl rfl (pv_mv rfl) rfl ?_ | refine RR.gn rfl rfl rfl rfl ?_
    first | refine RR.gy rfl rfl (pv_lss_t rfl rfl (by omega)) rfl ?_ | refine RR.gy rfl rfl (pv_lss_f rfl rfl (by omega)) rfl ?_ | refine RR.gy rfl rfl (pv_lss rfl rfl) rfl ?_ | refine RR.gn rfl rfl rfl rfl ?_
    first | refine RR.pv (pv_pick_t rfl rfl) rfl ?_ | refine RR.pv (pv_pick_f rfl rfl) rfl ?_
    refine RR.pv (pv_mv rfl) rfl ?_
    first | refine RR.gy rfl rfl (pv_mv rfl) rfl ?_ | refine RR.gn rfl rfl rfl rfl ?_
    first | refine RR.gy rfl rfl (pv_mv rfl) rfl ?_ | refine RR.gn rfl rfl rfl rfl ?_
    first | refine RR.gy rfl rfl (pv_geq_t rfl rfl (by omega)) rfl ?_ | refine RR.gy rfl rfl (pv_geq_f rfl rfl (by omega)) rfl ?_ | refine RR.gy rfl rfl (pv_geq rfl rfl) rfl ?_ | refine RR.gn rfl rfl rfl rfl ?_
    first | refine RR.pv (pv_pick_t rfl rfl) rfl ?_ | refine RR.pv (pv_pick_f rfl rfl) rfl ?_
    refine RR.nil ?_
    refine CC.cond_f rfl ?_
    refine CC.skip ?_
    refine CC.seq ?_
    refine CC.seq ?_
    refine CC.region ?_
    refine RR.pv (pv_as rfl) rfl ?_
    refine RR.nil ?_
    refine CC.block ?_
    refine CC.loop (γ := Nat) (F := fun x => [(0, .slice (some ⟨k, 0, none⟩) (2 * n) (2 * n)), (5, .int .i64 (n : Int)), (6, .slice (some ⟨k2, 0, none⟩) (2 * n) (2 * n)), (8, .int .i64 (r : Int)), (9, .int .i64 (rt : Int)), (10, .int .i64 (x : Int))])
      (I := fun x v => v = w5 ∧ x ≤ n) (μ := fun x => n - x) 0 ⟨rfl, rfl, rfl, rfl, rfl, rfl, trivial⟩ ⟨rfl, Nat.zero_le _⟩ ?_
    rintro d w6 ⟨rfl, hdn⟩
    by_cases hlt : d < n
    · refine CC.seq ?_
      refine CC.seq ?_
      refine CC.region ?_
      refine RR.pv (pv_mv rfl) rfl ?_
      refine RR.pv (pv_mv rfl) rfl ?_
      first | refine RR.pv (pv_lss_t rfl rfl (by omega)) rfl ?_ | refine RR.pv (pv_lss_f rfl rfl (by omega)) rfl ?_ | refine RR.pv (pv_lss rfl rfl) rfl ?_
      refine RR.nil ?_
      refine CC.cond_t rfl ?_
      have hsd := hsame d hlt
      rw [show rt + t + d = rt + d + t from by omega, ← hgt] at hsd
      refine CC.skip ?_
      refine CC.seq ?_
      refine CC.block ?_
      refine CC.seq ?_
      refine CC.regionQ (by decide +kernel) ?_
      refine RR.pv (pv_mv rfl) rfl ?_
      refine RR.pv (pv_mv rfl) rfl ?_
      refine RR.pv (pv_mv rfl) rfl ?_
      first | refine RR.pv (pv_addN rfl rfl (by omega)) rfl ?_ | refine RR.pv (pv_add64 rfl rfl (by omega)) rfl ?_
      first | refine RR.pv (pv_ixN rfl rfl st22 (by omega)) rfl ?_ | refine RR.pv (pv_ixZ rfl rfl st22 (by omega)) rfl ?_
      refine RR.pv (pv_ld rfl ct5 (hs3 _ (by omega))) rfl ?_
      refine RR.pv (pv_mv rfl) rfl ?_
      refine RR.pv (pv_mv rfl) rfl ?_
      refine RR.pv (pv_mv rfl) rfl ?_
      first | refine RR.pv (pv_addN rfl rfl (by omega)) rfl ?_ | refine RR.pv (pv_add64 rfl rfl (by omega)) rfl ?_
      first | refine RR.pv (pv_ixN rfl rfl st22 (by omega)) rfl ?_ | refine RR.pv (pv_ixZ rfl rfl st22 (by omega)) rfl ?_
      refine RR.pv (pv_ld rfl ct5 (hn4' _ (by omega))) rfl ?_
      first | refine RR.pv (pv_neq_t rfl rfl (by omega)) rfl ?_ | refine RR.pv (pv_neq_f rfl rfl (by omega)) rfl ?_ | refine RR.pv (pv_neq rfl rfl) rfl ?_
      refine RR.nil ?_
      refine CC.cond_f rfl ?_
      refine CC.skip ?_
      refine CC.region ?_
      refine RR.pv (pv_mv rfl) rfl ?_
      first | refine RR.pv (pv_addN (n := 1) rfl rfl (by omega)) rfl ?_ | refine RR.pv (pv_add64 rfl rfl (by omega)) rfl ?_
      refine RR.pv (pv_as rfl) rfl ?_
      refine RR.nil ?_
      exact Nxt.go (d + 1) ⟨rfl, rfl, rfl, rfl, rfl, rfl, trivial⟩ ⟨rfl, hlt⟩ (by omega)
    · refine CC.seq ?_
      refine CC.seq ?_
      refine CC.region ?_
      refine RR.pv (pv_mv rfl) rfl ?_
      refine RR.pv (pv_mv rfl) rfl ?_
      first | refine RR.pv (pv_lss_t rfl rfl (by omega)) rfl ?_ | refine RR.pv (pv_lss_f rfl rfl (by omega)) rfl ?_ | refine RR.pv (pv_lss rfl rfl) rfl ?_
      refine RR.nil ?_
      refine CC.cond_f rfl ?_
      refine CC.exit ?_
      refine CC.seq ?_
      refine CC.region ?_
      refine RR.pv (pv_mv rfl) rfl ?_
      first | refine RR.pv (pv_mulN (m := 2) rfl rfl (by omega)) rfl ?_ | refine RR.pv (pv_mul64 rfl rfl (by omega)) rfl ?_
      refine RR.mk22 rfl (by omega) rfl ?_
      refine RR.pv (pv_as rfl) rfl ?_
      refine RR.nil ?_
      refine CC.seq ?_
      refine CC.seq ?_
      refine CC.region ?_
      refine RR.pv (pv_as rfl) rfl ?_
      refine RR.nil ?_
      have hs5 := hs3.alloc (.cells (Array.replicate (2 * n) (.int .u8 0)) 5)
      have hn5 := SN.new0 .u8 w6 5 (2 * n)
      have hw5 := WR.new w6 (Array.replicate (2 * n) (.int .u8 0)) 5 0 (2 * n)
      have hk5 : k ≠ w6.heap.size := by have := hs3.lt (by omega); omega
      have hto5 : Touch (fun _ _ => False) w' (w6.alloc (.cells (Array.replicate (2 * n) (.int .u8 0)) 5)) :=
        (hto2.trans hto3 (T := fun _ _ => False) (fun _ _ _ h => h) (fun b' o' hb h => by omega)).trans (Touch.alloc (fun _ _ => False) _ _) (fun _ _ _ h => h) (fun _ _ _ h => h)
      have hge6 : w'.heap.size ≤ w6.heap.size := Nat.le_trans hto2.size hto3.size
      generalize w6.alloc (.cells (Array.replicate (2 * n) (.int .u8 0)) 5) = w7 at hs5 hn5 hw5 hto5 ⊢
      generalize w6.heap.size = k5 at hn5 hw5 hk5 hge6 ⊢
      refine CC.block ?_
      refine CC.loop (γ := Nat × (Nat → Nat)) (F := fun x => [(0, .slice (some ⟨k, 0, none⟩) (2 * n) (2 * n)), (5, .int .i64 (n : Int)), (8, .int .i64 (r : Int)), (11, .slice (some ⟨k5, 0, none⟩) (2 * n) (2 * n)), (12, .int .i64 (x.1 : Int))])
        (I := fun x v => SN .u8 v k5 0 (2 * n) x.2 ∧ WR v k5 0 (2 * n) ∧ x.1 ≤ 2 * n ∧ (∀ j, j < x.1 → x.2 j = g (j + r)) ∧ Touch (fun b o => b = k5) w7 v) (μ := fun x => 2 * n - x.1) (0, fun _ => 0) ⟨rfl, rfl, rfl, rfl, rfl, trivial⟩
        ⟨hn5, hw5, Nat.zero_le _, fun j hj => absurd hj (Nat.not_lt_zero _), Touch.refl _ _⟩ ?_
      rintro ⟨i, hh⟩ w8 ⟨hn8, hw8, hi, hall8, hto8⟩
      dsimp only at hn8 hi hall8 ⊢
      have hs8 := hs5.touch hto8 (fun j hj he => hk5 he)
      by_cases hlt8 : i < 2 * n
      · refine CC.seq ?_
        refine CC.seq ?_
        refine CC.region ?_
        refine RR.pv (pv_mv rfl) rfl ?_
        refine RR.pv (pv_mv rfl) rfl ?_
        first | refine RR.pv (pv_mulN (m := 2) rfl rfl (by omega)) rfl ?_ | refine RR.pv (pv_mul64 rfl rfl (by omega)) rfl ?_
        first | refine RR.pv (pv_lss_t rfl rfl (by omega)) rfl ?_ | refine RR.pv (pv_lss_f rfl rfl (by omega)) rfl ?_ | refine RR.pv (pv_lss rfl rfl) rfl ?_
        refine RR.nil ?_
        refine CC.cond_t rfl ?_
        have hm := Nat.mod_lt i h0
        refine CC.skip ?_
        refine CC.seq ?_
        refine CC.block ?_
        refine CC.region ?_
        refine RR.pv (pv_mv rfl) rfl ?_
        refine RR.pv (pv_mv rfl) rfl ?_
        refine RR.pv (pv_mv rfl) rfl ?_
        refine RR.pv (pv_mv rfl) rfl ?_
        refine RR.pv (pv_mv rfl) rfl ?_
        refine RR.pv (pv_mv rfl) rfl ?_
        refine RR.pv (pv_remN rfl rfl (by omega) (by omega)) rfl ?_
        first | refine RR.pv (pv_addN rfl rfl (by omega)) rfl ?_ | refine RR.pv (pv_add64 rfl rfl (by omega)) rfl ?_
        first | refine RR.pv (pv_ixN rfl rfl st22 (by omega)) rfl ?_ | refine RR.pv (pv_ixZ rfl rfl st22 (by omega)) rfl ?_
        refine RR.pv (pv_ld rfl ct5 (hs8 _ (by omega))) rfl ?_
        first | refine RR.pv (pv_ixN rfl rfl st22 (by omega)) rfl ?_ | refine RR.pv (pv_ixZ rfl rfl st22 (by omega)) rfl ?_
        refine RR.st rfl rfl ct5 OneV.i (hn8 _ hlt8) (hw8 _ hlt8) ?_
        refine RR.nil ?_
        refine CC.region ?_
        refine RR.pv (pv_mv rfl) rfl ?_
        first | refine RR.pv (pv_addN (n := 1) rfl rfl (by omega)) rfl ?_ | refine RR.pv (pv_add64 rfl rfl (by omega)) rfl ?_
        refine RR.pv (pv_as rfl) rfl ?_
        refine RR.nil ?_
        refine Nxt.go (i + 1, upd hh i (g (r + i % n))) ⟨rfl, rfl, rfl, rfl, rfl, trivial⟩ ⟨hn8.set hlt8 _, hw8.set, hlt8, fun j hj => ?_, hto8.trans (Touch.setCell _ _ _ _) (fun _ _ _ h => h) (fun _ _ _ h => h.1)⟩ (by dsimp only; omega)
        dsimp only at hj ⊢
        by_cases e : j = i
        · subst e
          rw [upd_same, Nat.add_comm r]
          exact Rot.per_mod hper j r
        · rw [upd_ne _ _ e]
          exact hall8 j (by omega)
      · have hi2 : i = 2 * n := by omega
        subst hi2
        have hn9 : SN .u8 w8 k5 0 (2 * n) (fun x => g (x + r)) := (hn8.v.congr hall8).nn
        refine CC.seq ?_
        refine CC.seq ?_
        refine CC.region ?_
        refine RR.pv (pv_mv rfl) rfl ?_
        refine RR.pv (pv_mv rfl) rfl ?_
        first | refine RR.pv (pv_mulN (m := 2) rfl rfl (by omega)) rfl ?_ | refine RR.pv (pv_mul64 rfl rfl (by omega)) rfl ?_
        first | refine RR.pv (pv_lss_t rfl rfl (by omega)) rfl ?_ | refine RR.pv (pv_lss_f rfl rfl (by omega)) rfl ?_ | refine RR.pv (pv_lss rfl rfl) rfl ?_
        refine RR.nil ?_
        refine CC.cond_f rfl ?_
        refine CC.exit ?_
        refine CC.seq ?_
        refine CC.region ?_
        refine RR.pv (pv_mv rfl) rfl ?_
        refine RR.call Try.func13 nm13 rfl rfl (zzLeastRotation_any k5 0 n (2 * n) _ w8 (by omega) h0 (Rot.shift_per hper r) hn9) rfl ?_
        rintro v w9 ⟨rl, rfl, rfl, hrl⟩
        have hz := Rot.first_zero hper h0 hr.2.1 hrl
        subst hz
        first | refine RR.pv (pv_eql_t rfl rfl (by omega)) rfl ?_ | refine RR.pv (pv_eql_f rfl rfl (by omega)) rfl ?_ | refine RR.pv (pv_eql rfl rfl) rfl ?_
        refine RR.pv (pv_as rfl) rfl ?_
        refine RR.nil ?_
        refine CC.ret ?_
        exact EndQ.r1 Try.results4 rfl ⟨rfl, hto5.trans hto8 (fun _ _ _ h => h) (fun b' o' hb h => by omega)⟩

end Go.Proofs.Qxb6602663a.Vc
