/-
  The walks of the backoff law.
-/
import Derived.Test.Qxb6601973aBoOps
namespace Go.Proofs.Qxb6601973a.Vc
open Go.RowKit
set_option linter.unusedVariables false
set_option linter.unusedSimpArgs false
set_option maxRecDepth 10000

theorem nm4 : (Try.f4.name == "runtime.NumGoroutine") = false := by kernel_rfl
theorem nm5 : (Try.f5.name == "runtime.NumGoroutine") = false := by kernel_rfl
theorem nm6 : (Try.f6.name == "runtime.NumGoroutine") = false := by kernel_rfl

/-- The exponent, and the wait. -/
def expo (a : Int) : Nat := if a < 0 then 0 else if 32 < a then 32 else a.toNat
def wait (a mn mx : Int) : Int := if mn + ((2 ^ expo a : Nat) : Int) < mx then mn + ((2 ^ expo a : Nat) : Int) else mx

theorem expo_le (a : Int) : expo a ≤ 32 := by unfold expo; split; omega; split <;> omega
theorem expo_mono {a b : Int} (h : a ≤ b) : expo a ≤ expo b := by
  unfold expo
  split
  · omega
  · split
    · split
      · omega
      · split <;> omega
    · split
      · omega
      · split <;> omega
theorem pow_bd (a : Int) : 1 ≤ 2 ^ expo a ∧ 2 ^ expo a ≤ 4294967296 := by
  have h := Nat.pow_le_pow_right (n := 2) (by omega) (expo_le a)
  have h2 : 0 < 2 ^ expo a := Nat.pow_pos (by omega)
  exact ⟨h2, by have h3 : (2 ^ 32 : Nat) = 4294967296 := by decide
                omega⟩
theorem pow_mono {a b : Int} (h : a ≤ b) : 2 ^ expo a ≤ 2 ^ expo b := Nat.pow_le_pow_right (by omega) (expo_mono h)

theorem wait_law {a b mn mx : Int} (h : a ≤ b) : (if mx < mn + 1 then mx else mn + 1) ≤ wait a mn mx ∧ wait a mn mx ≤ wait b mn mx ∧ wait b mn mx ≤ (if mx < mn + 4294967296 then mx else mn + 4294967296) := by
  have h1 := pow_bd a
  have h2 := pow_bd b
  have h3 := pow_mono h
  unfold wait
  generalize 2 ^ expo a = p at *
  generalize 2 ^ expo b = q at *
  refine ⟨?_, ?_, ?_⟩
  · split <;> split <;> omega
  · split <;> split <;> omega
  · split <;> split <;> omega

theorem backoffMS_any (a mn mx : Int) (w : World) (hmn : -9223372036854775808 ≤ mn ∧ mn ≤ 9223372032559808511) (ha : -9223372036854775808 ≤ a ∧ a ≤ 9223372036854775807) :
    FF 6 #[.agg #[.int .i64 mn, .int .i64 mx], .int .i64 a] w (fun v w' => v = .int .i64 (wait a mn mx) ∧ New w w') := by
  have hp := pow_bd a
  have he := expo_le a
  refine FF.of_cc (l := [_, _]) Try.func6 rfl Try.ntmps6 rfl (CC.keep (F := [(0, _), (1, _)]) ⟨rfl, rfl, trivial⟩ ?_)
  refine CC.seq ?_
  refine CC.region ?_
  refine RR.box27 rfl rfl ?_
  refine RR.pv (pv_as rfl) rfl ?_
  refine RR.nil ?_
  have h0 : (w.alloc (.cells #[.int .i64 mn, .int .i64 mx] 27)).cell? ⟨w.heap.size, 0, none⟩ = some (.int .i64 mn) := by rw [World.cell?_alloc_new]; rfl
  have h1 : (w.alloc (.cells #[.int .i64 mn, .int .i64 mx] 27)).cell? ⟨w.heap.size, 0 + 1, none⟩ = some (.int .i64 mx) := by rw [World.cell?_alloc_new]; rfl
  have hN := New.alloc w #[.int .i64 mn, .int .i64 mx] 27
  generalize w.alloc (.cells #[.int .i64 mn, .int .i64 mx] 27) = w1 at h0 h1 hN ⊢
  refine CC.seq ?_
  refine CC.region ?_
  refine RR.pv (pv_mv rfl) rfl ?_
  refine RR.pv (pv_max rfl rfl (by first | exact .inl rfl | exact .inr rfl)) rfl ?_
  refine RR.pv (pv_min rfl rfl (by first | exact .inl rfl | exact .inr rfl)) rfl ?_
  refine RR.pv (pv_as rfl) rfl ?_
  refine RR.nil ?_
  have e : (if (32 : Int) < (if a < 0 then 0 else a) then 32 else if a < 0 then 0 else a) = ((expo a : Nat) : Int) := by
    unfold expo
    by_cases h : a < 0
    · simp [h]
    · rw [if_neg h, if_neg h]
      by_cases h2 : 32 < a
      · rw [if_pos h2, if_pos h2]; rfl
      · rw [if_neg h2, if_neg h2]; omega
  rw [e]
  refine CC.seq ?_
  refine CC.regionQ (by decide +kernel) ?_
  refine RR.pv (pv_fa1 rfl) rfl ?_
  refine RR.pv (pv_ld2 rfl (h1)) rfl ?_
  refine RR.pv (pv_fa0 rfl) rfl ?_
  refine RR.pv (pv_ld2 rfl (h0)) rfl ?_
  refine RR.pv (pv_mv rfl) rfl ?_
  refine RR.pv (pv_shl rfl (by omega)) rfl ?_
  refine RR.pv (pv_add64 rfl rfl (by omega)) rfl ?_
  refine RR.pv (pv_min rfl rfl (by first | exact .inl rfl | exact .inr rfl)) rfl ?_
  refine RR.pv (pv_as rfl) rfl ?_
  refine RR.nil ?_
  refine CC.ret ?_
  exact EndQ.r1 Try.results6 rfl ⟨rfl, hN⟩

theorem backoffAfter_any (a mxA mn mx : Int) (w : World) (hlt : a < mxA) (hmn : -9223372036854775808 ≤ mn ∧ mn ≤ 9223372032559808511) (ha : -9223372036854775808 ≤ a ∧ a ≤ 9223372036854775807) :
    FF 5 #[.int .i64 a, .int .i64 mxA, .agg #[.int .i64 mn, .int .i64 mx]] w (fun v w' => ∃ b, v = .pointer (some ⟨b, 0, none⟩) ∧ w'.cell? ⟨b, 0, none⟩ = some (.int .i64 (wait a mn mx)) ∧ New w w') := by
  refine FF.of_cc (l := [_, _, _]) Try.func5 rfl Try.ntmps5 rfl (CC.keep (F := [(0, _), (1, _), (2, _)]) ⟨rfl, rfl, rfl, trivial⟩ ?_)
  refine CC.seq ?_
  refine CC.region ?_
  refine RR.box27 rfl rfl ?_
  refine RR.pv (pv_as rfl) rfl ?_
  refine RR.nil ?_
  have h0 : (w.alloc (.cells #[.int .i64 mn, .int .i64 mx] 27)).cell? ⟨w.heap.size, 0, none⟩ = some (.int .i64 mn) := by rw [World.cell?_alloc_new]; rfl
  have h1 : (w.alloc (.cells #[.int .i64 mn, .int .i64 mx] 27)).cell? ⟨w.heap.size, 1, none⟩ = some (.int .i64 mx) := by rw [World.cell?_alloc_new]; rfl
  have hN := New.alloc w #[.int .i64 mn, .int .i64 mx] 27
  generalize w.alloc (.cells #[.int .i64 mn, .int .i64 mx] 27) = w1 at h0 h1 hN ⊢
  refine CC.seq ?_
  refine CC.seq ?_
  refine CC.region ?_
  refine RR.pv (pv_mv rfl) rfl ?_
  refine RR.pv (pv_mv rfl) rfl ?_
  first | refine RR.pv (pv_geq_t rfl rfl (by omega)) rfl ?_ | refine RR.pv (pv_geq_f rfl rfl (by omega)) rfl ?_ | refine RR.pv (pv_geq rfl rfl) rfl ?_
  refine RR.nil ?_
  refine CC.cond_f rfl ?_
  refine CC.skip ?_
  refine CC.seq ?_
  refine CC.region ?_
  refine RR.pv (pv_ld27 rfl h0 h1) rfl ?_
  refine RR.pv (pv_mv rfl) rfl ?_
  refine RR.call Try.func6 nm6 rfl rfl (backoffMS_any a mn mx w1 hmn ha) rfl ?_
  rintro v w2 ⟨rfl, hN2⟩
  refine RR.al2 rfl ?_
  have hc : (w2.alloc (.cells #[.int .i64 0] 2)).cell? ⟨w2.heap.size, 0, none⟩ = some (.int .i64 0) := by rw [World.cell?_alloc_new]; rfl
  have hfz : (w2.alloc (.cells #[.int .i64 0] 2)).frozen? ⟨w2.heap.size, 0, none⟩ = false := by rw [World.frozen?_alloc_new]
  refine RR.st2 rfl rfl hc hfz ?_
  refine RR.nil ?_
  refine CC.seq ?_
  refine CC.region ?_
  refine RR.pv (pv_as rfl) rfl ?_
  refine RR.nil ?_
  refine CC.ret ?_
  refine EndQ.r1 Try.results5 rfl ⟨w2.heap.size, rfl, World.cell?_setCell_same _ _ _ hc, ?_⟩
  have hN12 := hN.trans hN2
  exact New.set (hN12.trans (New.alloc w2 _ 2)) hN12.below.size

theorem zzBackoff_any (a mxA mn mx : Int) (w : World) (hlt : a < mxA) (hmn : -9223372036854775808 ≤ mn ∧ mn ≤ 9223372032559808511) (ha : -9223372036854775808 ≤ a ∧ a ≤ 9223372036854775807) :
    FF 4 #[.int .i64 a, .int .i64 mxA, .int .i64 mn, .int .i64 mx] w (fun v w' => ∃ b, v = .pointer (some ⟨b, 0, none⟩) ∧ w'.cell? ⟨b, 0, none⟩ = some (.int .i64 (wait a mn mx)) ∧ New w w') := by
  refine FF.of_cc (l := [_, _, _, _]) Try.func4 rfl Try.ntmps4 rfl (CC.keep (F := [(0, _), (1, _), (2, _), (3, _)]) ⟨rfl, rfl, rfl, rfl, trivial⟩ ?_)
  refine CC.seq ?_
  refine CC.region ?_
  refine RR.pv (pv_as rfl) rfl ?_
  refine RR.nil ?_
  refine CC.seq ?_
  refine CC.region ?_
  refine RR.pv (pv_mv rfl) rfl ?_
  refine RR.pv (pv_mv rfl) rfl ?_
  refine RR.pv (pv_mv rfl) rfl ?_
  refine RR.pv (pv_mv rfl) rfl ?_
  refine RR.pv (pv_build rfl rfl) rfl ?_
  refine RR.call Try.func5 nm5 rfl rfl (backoffAfter_any a mxA mn mx w hlt hmn ha) rfl ?_
  rintro v w' ⟨b, rfl, h1, h2⟩
  refine RR.pv (pv_as rfl) rfl ?_
  refine RR.nil ?_
  refine CC.ret ?_
  exact EndQ.r1 Try.results4 rfl ⟨b, rfl, h1, h2⟩

theorem law_any (a1 a2 mxA mn mx : Int) (w : World) (h1 : -9223372036854775808 ≤ a1 ∧ a1 ≤ 9223372036854775807) (h2 : -9223372036854775808 ≤ a2 ∧ a2 ≤ 9223372036854775807) (hmn : -9223372036854775808 ≤ mn ∧ mn ≤ 9223372036854775807) :
    FF 3 #[.int .i64 a1, .int .i64 a2, .int .i64 mxA, .int .i64 mn, .int .i64 mx] w (fun v w' => v = .bool true ∧ New w w') := by
  refine FF.of_cc (l := [_, _, _, _, _]) Try.func3 rfl Try.ntmps3 rfl (CC.keep (F := [(0, _), (1, _), (2, _), (3, _), (4, _)]) ⟨rfl, rfl, rfl, rfl, rfl, trivial⟩ ?_)
  refine CC.seq ?_
  refine CC.region ?_
  refine RR.pv (pv_as rfl) rfl ?_
  refine RR.nil ?_
  by_cases hbig : 9223372032559808511 < mn
  · refine CC.seq ?_
    refine CC.seq ?_
    refine CC.region ?_
    refine RR.pv (pv_mv rfl) rfl ?_
    first | refine RR.pv (pv_gtr_t rfl rfl (by omega)) rfl ?_ | refine RR.pv (pv_gtr_f rfl rfl (by omega)) rfl ?_ | refine RR.pv (pv_gtr rfl rfl) rfl ?_
    refine RR.nil ?_
    refine CC.cond_t rfl ?_
    refine CC.seq ?_
    refine CC.region ?_
    refine RR.pv (pv_as rfl) rfl ?_
    refine RR.nil ?_
    refine CC.ret ?_
    exact EndQ.r1 Try.results3 rfl ⟨rfl, New.refl _⟩
  refine CC.seq ?_
  refine CC.seq ?_
  refine CC.region ?_
  refine RR.pv (pv_mv rfl) rfl ?_
  first | refine RR.pv (pv_gtr_t rfl rfl (by omega)) rfl ?_ | refine RR.pv (pv_gtr_f rfl rfl (by omega)) rfl ?_ | refine RR.pv (pv_gtr rfl rfl) rfl ?_
  refine RR.nil ?_
  refine CC.cond_f rfl ?_
  by_cases hx : a2 < a1 ∨ mxA ≤ a2
  · have hx' : a2 < a1 ∨ (¬ a2 < a1 ∧ mxA ≤ a2) := by omega
    rcases hx' with hx | ⟨hx, hx'⟩
    all_goals
      refine CC.skip ?_
      refine CC.seq ?_
      refine CC.seq ?_
      refine CC.region ?_
      refine RR.pv (pv_mv rfl) rfl ?_
      refine RR.pv (pv_mv rfl) rfl ?_
      first | refine RR.pv (pv_gtr_t rfl rfl (by omega)) rfl ?_ | refine RR.pv (pv_gtr_f rfl rfl (by omega)) rfl ?_ | refine RR.pv (pv_gtr rfl rfl) rfl ?_
      refine RR.pv (pv_mv rfl) rfl ?_
      first | refine RR.gy rfl rfl (pv_mv rfl) rfl ?_ | refine RR.gn rfl rfl rfl rfl ?_
      first | refine RR.gy rfl rfl (pv_mv rfl) rfl ?_ | refine RR.gn rfl rfl rfl rfl ?_
      first | refine RR.gy rfl rfl (pv_geq_t rfl rfl (by omega)) rfl ?_ | refine RR.gy rfl rfl (pv_geq_f rfl rfl (by omega)) rfl ?_ | refine RR.gy rfl rfl (pv_geq rfl rfl) rfl ?_ | refine RR.gn rfl rfl rfl rfl ?_
      first | refine RR.pv (pv_pick_t rfl rfl) rfl ?_ | refine RR.pv (pv_pick_f rfl rfl) rfl ?_
      refine RR.nil ?_
      refine CC.cond_t rfl ?_
      refine CC.seq ?_
      refine CC.region ?_
      refine RR.pv (pv_as rfl) rfl ?_
      refine RR.nil ?_
      refine CC.ret ?_
      exact EndQ.r1 Try.results3 rfl ⟨rfl, New.refl _⟩
  refine CC.skip ?_
  refine CC.seq ?_
  refine CC.seq ?_
  refine CC.region ?_
  refine RR.pv (pv_mv rfl) rfl ?_
  refine RR.pv (pv_mv rfl) rfl ?_
  first | refine RR.pv (pv_gtr_t rfl rfl (by omega)) rfl ?_ | refine RR.pv (pv_gtr_f rfl rfl (by omega)) rfl ?_ | refine RR.pv (pv_gtr rfl rfl) rfl ?_
  refine RR.pv (pv_mv rfl) rfl ?_
  first | refine RR.gy rfl rfl (pv_mv rfl) rfl ?_ | refine RR.gn rfl rfl rfl rfl ?_
  first | refine RR.gy rfl rfl (pv_mv rfl) rfl ?_ | refine RR.gn rfl rfl rfl rfl ?_
  first | refine RR.gy rfl rfl (pv_geq_t rfl rfl (by omega)) rfl ?_ | refine RR.gy rfl rfl (pv_geq_f rfl rfl (by omega)) rfl ?_ | refine RR.gy rfl rfl (pv_geq rfl rfl) rfl ?_ | refine RR.gn rfl rfl rfl rfl ?_
  first | refine RR.pv (pv_pick_t rfl rfl) rfl ?_ | refine RR.pv (pv_pick_f rfl rfl) rfl ?_
  refine RR.nil ?_
  refine CC.cond_f rfl ?_
  refine CC.skip ?_
  refine CC.seq ?_
  refine CC.region ?_
  refine RR.pv (pv_mv rfl) rfl ?_
  refine RR.pv (pv_mv rfl) rfl ?_
  refine RR.pv (pv_mv rfl) rfl ?_
  refine RR.pv (pv_mv rfl) rfl ?_
  refine RR.call Try.func4 nm4 rfl rfl (zzBackoff_any a1 mxA mn mx w (by omega) (by omega) h1) rfl ?_
  rintro v w1 ⟨b1, rfl, hc1, hN1⟩
  refine RR.pv (pv_as rfl) rfl ?_
  refine RR.nil ?_
  refine CC.seq ?_
  refine CC.region ?_
  refine RR.pv (pv_mv rfl) rfl ?_
  refine RR.pv (pv_mv rfl) rfl ?_
  refine RR.pv (pv_mv rfl) rfl ?_
  refine RR.pv (pv_mv rfl) rfl ?_
  refine RR.call Try.func4 nm4 rfl rfl (zzBackoff_any a2 mxA mn mx w1 (by omega) (by omega) h2) rfl ?_
  rintro v w2 ⟨b2, rfl, hc2, hN2⟩
  refine RR.pv (pv_as rfl) rfl ?_
  refine RR.nil ?_
  have hc1' := hN2.cell hc1
  obtain ⟨g1, g2, g3⟩ := wait_law (a := a1) (b := a2) (mn := mn) (mx := mx) (by omega)
  generalize wait a1 mn mx = x1 at *
  generalize wait a2 mn mx = x2 at *
  refine CC.seq ?_
  refine CC.seq ?_
  refine CC.region ?_
  refine RR.pv (pv_mv rfl) rfl ?_
  refine RR.pv (pv_eqnilp rfl) rfl ?_
  refine RR.pv (pv_mv rfl) rfl ?_
  first | refine RR.gy rfl rfl (pv_mv rfl) rfl ?_ | refine RR.gn rfl rfl rfl rfl ?_
  first | refine RR.gy rfl rfl (pv_eqnilp rfl) rfl ?_ | refine RR.gn rfl rfl rfl rfl ?_
  first | refine RR.pv (pv_pick_t rfl rfl) rfl ?_ | refine RR.pv (pv_pick_f rfl rfl) rfl ?_
  refine RR.nil ?_
  refine CC.cond_f rfl ?_
  refine CC.skip ?_
  refine CC.seq ?_
  refine CC.region ?_
  refine RR.pv (pv_mv rfl) rfl ?_
  refine RR.pv (pv_add64 rfl rfl (by omega)) rfl ?_
  refine RR.pv (pv_as rfl) rfl ?_
  refine RR.nil ?_
  by_cases hl : mx < mn + 1
  · rw [if_pos hl] at g1
    have hl2 : mx < mn + 4294967296 := by omega
    rw [if_pos hl2] at g3
    refine CC.seq ?_
    refine CC.seq ?_
    refine CC.region ?_
    refine RR.pv (pv_mv rfl) rfl ?_
    refine RR.pv (pv_mv rfl) rfl ?_
    first | refine RR.pv (pv_lss_t rfl rfl (by omega)) rfl ?_ | refine RR.pv (pv_lss_f rfl rfl (by omega)) rfl ?_ | refine RR.pv (pv_lss rfl rfl) rfl ?_
    refine RR.nil ?_
    refine CC.cond_t rfl ?_
    refine CC.region ?_
    refine RR.pv (pv_mv rfl) rfl ?_
    refine RR.pv (pv_as rfl) rfl ?_
    refine RR.nil ?_
    refine CC.seq ?_
    refine CC.region ?_
    refine RR.pv (pv_mv rfl) rfl ?_
    refine RR.pv (pv_add64 rfl rfl (by omega)) rfl ?_
    refine RR.pv (pv_as rfl) rfl ?_
    refine RR.nil ?_
    refine CC.seq ?_
    refine CC.seq ?_
    refine CC.region ?_
    refine RR.pv (pv_mv rfl) rfl ?_
    refine RR.pv (pv_mv rfl) rfl ?_
    first | refine RR.pv (pv_lss_t rfl rfl (by omega)) rfl ?_ | refine RR.pv (pv_lss_f rfl rfl (by omega)) rfl ?_ | refine RR.pv (pv_lss rfl rfl) rfl ?_
    refine RR.nil ?_
    refine CC.cond_t rfl ?_
    refine CC.region ?_
    refine RR.pv (pv_mv rfl) rfl ?_
    refine RR.pv (pv_as rfl) rfl ?_
    refine RR.nil ?_
    refine CC.seq ?_
    refine CC.regionQ (by decide +kernel) ?_
    refine RR.pv (pv_mv rfl) rfl ?_
    refine RR.pv (pv_mv rfl) rfl ?_
    refine RR.pv (pv_nilck rfl) rfl ?_
    refine RR.pv (pv_ld2 rfl (hc1')) rfl ?_
    first | refine RR.pv (pv_leq_t rfl rfl (by omega)) rfl ?_ | refine RR.pv (pv_leq_f rfl rfl (by omega)) rfl ?_ | refine RR.pv (pv_leq rfl rfl) rfl ?_
    refine RR.pv (pv_mv rfl) rfl ?_
    first | refine RR.gy rfl rfl (pv_mv rfl) rfl ?_ | refine RR.gn rfl rfl rfl rfl ?_
    first | refine RR.gy rfl rfl (pv_nilck rfl) rfl ?_ | refine RR.gn rfl rfl rfl rfl ?_
    first | refine RR.gy rfl rfl (pv_ld2 rfl (hc1')) rfl ?_ | refine RR.gn rfl rfl rfl rfl ?_
    first | refine RR.gy rfl rfl (pv_mv rfl) rfl ?_ | refine RR.gn rfl rfl rfl rfl ?_
    first | refine RR.gy rfl rfl (pv_nilck rfl) rfl ?_ | refine RR.gn rfl rfl rfl rfl ?_
    first | refine RR.gy rfl rfl (pv_ld2 rfl (hc2)) rfl ?_ | refine RR.gn rfl rfl rfl rfl ?_
    first | refine RR.gy rfl rfl (pv_leq_t rfl rfl (by omega)) rfl ?_ | refine RR.gy rfl rfl (pv_leq_f rfl rfl (by omega)) rfl ?_ | refine RR.gy rfl rfl (pv_leq rfl rfl) rfl ?_ | refine RR.gn rfl rfl rfl rfl ?_
    first | refine RR.pv (pv_pick_t rfl rfl) rfl ?_ | refine RR.pv (pv_pick_f rfl rfl) rfl ?_
    refine RR.pv (pv_mv rfl) rfl ?_
    first | refine RR.gy rfl rfl (pv_mv rfl) rfl ?_ | refine RR.gn rfl rfl rfl rfl ?_
    first | refine RR.gy rfl rfl (pv_nilck rfl) rfl ?_ | refine RR.gn rfl rfl rfl rfl ?_
    first | refine RR.gy rfl rfl (pv_ld2 rfl (hc2)) rfl ?_ | refine RR.gn rfl rfl rfl rfl ?_
    first | refine RR.gy rfl rfl (pv_mv rfl) rfl ?_ | refine RR.gn rfl rfl rfl rfl ?_
    first | refine RR.gy rfl rfl (pv_leq_t rfl rfl (by omega)) rfl ?_ | refine RR.gy rfl rfl (pv_leq_f rfl rfl (by omega)) rfl ?_ | refine RR.gy rfl rfl (pv_leq rfl rfl) rfl ?_ | refine RR.gn rfl rfl rfl rfl ?_
    first | refine RR.pv (pv_pick_t rfl rfl) rfl ?_ | refine RR.pv (pv_pick_f rfl rfl) rfl ?_
    refine RR.pv (pv_as rfl) rfl ?_
    refine RR.nil ?_
    refine CC.ret ?_
    exact EndQ.r1 Try.results3 rfl ⟨rfl, hN1.trans hN2⟩
  rw [if_neg hl] at g1
  refine CC.seq ?_
  refine CC.seq ?_
  refine CC.region ?_
  refine RR.pv (pv_mv rfl) rfl ?_
  refine RR.pv (pv_mv rfl) rfl ?_
  first | refine RR.pv (pv_lss_t rfl rfl (by omega)) rfl ?_ | refine RR.pv (pv_lss_f rfl rfl (by omega)) rfl ?_ | refine RR.pv (pv_lss rfl rfl) rfl ?_
  refine RR.nil ?_
  refine CC.cond_f rfl ?_
  refine CC.skip ?_
  refine CC.seq ?_
  refine CC.region ?_
  refine RR.pv (pv_mv rfl) rfl ?_
  refine RR.pv (pv_add64 rfl rfl (by omega)) rfl ?_
  refine RR.pv (pv_as rfl) rfl ?_
  refine RR.nil ?_
  by_cases hh : mx < mn + 4294967296
  · rw [if_pos hh] at g3
    refine CC.seq ?_
    refine CC.seq ?_
    refine CC.region ?_
    refine RR.pv (pv_mv rfl) rfl ?_
    refine RR.pv (pv_mv rfl) rfl ?_
    first | refine RR.pv (pv_lss_t rfl rfl (by omega)) rfl ?_ | refine RR.pv (pv_lss_f rfl rfl (by omega)) rfl ?_ | refine RR.pv (pv_lss rfl rfl) rfl ?_
    refine RR.nil ?_
    refine CC.cond_t rfl ?_
    refine CC.region ?_
    refine RR.pv (pv_mv rfl) rfl ?_
    refine RR.pv (pv_as rfl) rfl ?_
    refine RR.nil ?_
    refine CC.seq ?_
    refine CC.regionQ (by decide +kernel) ?_
    refine RR.pv (pv_mv rfl) rfl ?_
    refine RR.pv (pv_mv rfl) rfl ?_
    refine RR.pv (pv_nilck rfl) rfl ?_
    refine RR.pv (pv_ld2 rfl (hc1')) rfl ?_
    first | refine RR.pv (pv_leq_t rfl rfl (by omega)) rfl ?_ | refine RR.pv (pv_leq_f rfl rfl (by omega)) rfl ?_ | refine RR.pv (pv_leq rfl rfl) rfl ?_
    refine RR.pv (pv_mv rfl) rfl ?_
    first | refine RR.gy rfl rfl (pv_mv rfl) rfl ?_ | refine RR.gn rfl rfl rfl rfl ?_
    first | refine RR.gy rfl rfl (pv_nilck rfl) rfl ?_ | refine RR.gn rfl rfl rfl rfl ?_
    first | refine RR.gy rfl rfl (pv_ld2 rfl (hc1')) rfl ?_ | refine RR.gn rfl rfl rfl rfl ?_
    first | refine RR.gy rfl rfl (pv_mv rfl) rfl ?_ | refine RR.gn rfl rfl rfl rfl ?_
    first | refine RR.gy rfl rfl (pv_nilck rfl) rfl ?_ | refine RR.gn rfl rfl rfl rfl ?_
    first | refine RR.gy rfl rfl (pv_ld2 rfl (hc2)) rfl ?_ | refine RR.gn rfl rfl rfl rfl ?_
    first | refine RR.gy rfl rfl (pv_leq_t rfl rfl (by omega)) rfl ?_ | refine RR.gy rfl rfl (pv_leq_f rfl rfl (by omega)) rfl ?_ | refine RR.gy rfl rfl (pv_leq rfl rfl) rfl ?_ | refine RR.gn rfl rfl rfl rfl ?_
    first | refine RR.pv (pv_pick_t rfl rfl) rfl ?_ | refine RR.pv (pv_pick_f rfl rfl) rfl ?_
    refine RR.pv (pv_mv rfl) rfl ?_
    first | refine RR.gy rfl rfl (pv_mv rfl) rfl ?_ | refine RR.gn rfl rfl rfl rfl ?_
    first | refine RR.gy rfl rfl (pv_nilck rfl) rfl ?_ | refine RR.gn rfl rfl rfl rfl ?_
    first | refine RR.gy rfl rfl (pv_ld2 rfl (hc2)) rfl ?_ | refine RR.gn rfl rfl rfl rfl ?_
    first | refine RR.gy rfl rfl (pv_mv rfl) rfl ?_ | refine RR.gn rfl rfl rfl rfl ?_
    first | refine RR.gy rfl rfl (pv_leq_t rfl rfl (by omega)) rfl ?_ | refine RR.gy rfl rfl (pv_leq_f rfl rfl (by omega)) rfl ?_ | refine RR.gy rfl rfl (pv_leq rfl rfl) rfl ?_ | refine RR.gn rfl rfl rfl rfl ?_
    first | refine RR.pv (pv_pick_t rfl rfl) rfl ?_ | refine RR.pv (pv_pick_f rfl rfl) rfl ?_
    refine RR.pv (pv_as rfl) rfl ?_
    refine RR.nil ?_
    refine CC.ret ?_
    exact EndQ.r1 Try.results3 rfl ⟨rfl, hN1.trans hN2⟩
  rw [if_neg hh] at g3
  refine CC.seq ?_
  refine CC.seq ?_
  refine CC.region ?_
  refine RR.pv (pv_mv rfl) rfl ?_
  refine RR.pv (pv_mv rfl) rfl ?_
  first | refine RR.pv (pv_lss_t rfl rfl (by omega)) rfl ?_ | refine RR.pv (pv_lss_f rfl rfl (by omega)) rfl ?_ | refine RR.pv (pv_lss rfl rfl) rfl ?_
  refine RR.nil ?_
  refine CC.cond_f rfl ?_
  refine CC.skip ?_
  refine CC.seq ?_
  refine CC.regionQ (by decide +kernel) ?_
  refine RR.pv (pv_mv rfl) rfl ?_
  refine RR.pv (pv_mv rfl) rfl ?_
  refine RR.pv (pv_nilck rfl) rfl ?_
  refine RR.pv (pv_ld2 rfl (hc1')) rfl ?_
  first | refine RR.pv (pv_leq_t rfl rfl (by omega)) rfl ?_ | refine RR.pv (pv_leq_f rfl rfl (by omega)) rfl ?_ | refine RR.pv (pv_leq rfl rfl) rfl ?_
  refine RR.pv (pv_mv rfl) rfl ?_
  first | refine RR.gy rfl rfl (pv_mv rfl) rfl ?_ | refine RR.gn rfl rfl rfl rfl ?_
  first | refine RR.gy rfl rfl (pv_nilck rfl) rfl ?_ | refine RR.gn rfl rfl rfl rfl ?_
  first | refine RR.gy rfl rfl (pv_ld2 rfl (hc1')) rfl ?_ | refine RR.gn rfl rfl rfl rfl ?_
  first | refine RR.gy rfl rfl (pv_mv rfl) rfl ?_ | refine RR.gn rfl rfl rfl rfl ?_
  first | refine RR.gy rfl rfl (pv_nilck rfl) rfl ?_ | refine RR.gn rfl rfl rfl rfl ?_
  first | refine RR.gy rfl rfl (pv_ld2 rfl (hc2)) rfl ?_ | refine RR.gn rfl rfl rfl rfl ?_
  first | refine RR.gy rfl rfl (pv_leq_t rfl rfl (by omega)) rfl ?_ | refine RR.gy rfl rfl (pv_leq_f rfl rfl (by omega)) rfl ?_ | refine RR.gy rfl rfl (pv_leq rfl rfl) rfl ?_ | refine RR.gn rfl rfl rfl rfl ?_
  first | refine RR.pv (pv_pick_t rfl rfl) rfl ?_ | refine RR.pv (pv_pick_f rfl rfl) rfl ?_
  refine RR.pv (pv_mv rfl) rfl ?_
  first | refine RR.gy rfl rfl (pv_mv rfl) rfl ?_ | refine RR.gn rfl rfl rfl rfl ?_
  first | refine RR.gy rfl rfl (pv_nilck rfl) rfl ?_ | refine RR.gn rfl rfl rfl rfl ?_
  first | refine RR.gy rfl rfl (pv_ld2 rfl (hc2)) rfl ?_ | refine RR.gn rfl rfl rfl rfl ?_
  first | refine RR.gy rfl rfl (pv_mv rfl) rfl ?_ | refine RR.gn rfl rfl rfl rfl ?_
  first | refine RR.gy rfl rfl (pv_leq_t rfl rfl (by omega)) rfl ?_ | refine RR.gy rfl rfl (pv_leq_f rfl rfl (by omega)) rfl ?_ | refine RR.gy rfl rfl (pv_leq rfl rfl) rfl ?_ | refine RR.gn rfl rfl rfl rfl ?_
  first | refine RR.pv (pv_pick_t rfl rfl) rfl ?_ | refine RR.pv (pv_pick_f rfl rfl) rfl ?_
  refine RR.pv (pv_as rfl) rfl ?_
  refine RR.nil ?_
  refine CC.ret ?_
  exact EndQ.r1 Try.results3 rfl ⟨rfl, hN1.trans hN2⟩

theorem FF.law {f : FuncId} {args : Array Value} {w : World} (h : FF f args w (fun v w' => v = .bool true ∧ New w w')) :
    Calls Try.prog f args w (fun e w' => e = .returned (.bool true) ∧ Grown w w') := by
  refine (h.out 0).mono ?_
  rintro e w' ⟨v, w1, m, rfl, rfl, rfl, ht⟩
  exact ⟨rfl, ht.grown m⟩

end Go.Proofs.Qxb6601973a.Vc
