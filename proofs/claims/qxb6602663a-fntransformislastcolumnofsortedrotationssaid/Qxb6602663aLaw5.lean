/-
  The law FnTransformIsLastColumnOfSortedRotations.
-/
import Derived.Test.Qxb6602663aRw
namespace Go.Proofs.Qxb6602663a.Vc
open Go.RowKit
open Go.Proofs.Qxb6602663a.Rk (pos RK)
set_option linter.unusedVariables false
set_option linter.unusedSimpArgs false
set_option maxRecDepth 10000

theorem nm16 : (Try.f16.name == "runtime.NumGoroutine") = false := by kernel_rfl
theorem nm19 : (Try.f19.name == "runtime.NumGoroutine") = false := by kernel_rfl
theorem nm20 : (Try.f20.name == "runtime.NumGoroutine") = false := by kernel_rfl

theorem zz16 (a0 : Option Addr) (n0 c0 : Nat) (a1 : Option Addr) (n1 c1 : Nat) (a2 : Option Addr) (n2 c2 : Nat) (w : World) : ∃ r : Bool, FF 16 #[.slice a0 n0 c0, .slice a1 n1 c1, .slice a2 n2 c2] w (fun v w' => v = .bool r ∧ w' = w) := by
  by_cases h1 : 1048576 < n0
  · refine ⟨false, FF.of_cc (l := [_, _, _]) Try.func16 rfl Try.ntmps16 rfl (CC.keep (F := [(0, _), (1, _), (2, _)]) ⟨rfl, rfl, rfl, trivial⟩ ?_)⟩
    refine CC.seq ?_
    refine CC.region ?_
    refine RR.pv (pv_as rfl) rfl ?_
    refine RR.nil ?_
    refine CC.seq ?_
    refine CC.region ?_
    refine RR.pv (pv_as rfl) rfl ?_
    refine RR.nil ?_
    refine CC.seq ?_
    refine CC.seq ?_
    refine CC.region ?_
    refine RR.pv (pv_mv rfl) rfl ?_
    refine RR.pv (pv_len rfl st22) rfl ?_
    first | refine RR.pv (pv_gtr_t rfl rfl (by omega)) rfl ?_ | refine RR.pv (pv_gtr_f rfl rfl (by omega)) rfl ?_ | refine RR.pv (pv_gtr rfl rfl) rfl ?_
    refine RR.nil ?_
    refine CC.cond_t rfl ?_
    refine CC.seq ?_
    refine CC.region ?_
    refine RR.pv (pv_as rfl) rfl ?_
    refine RR.nil ?_
    refine CC.ret ?_
    exact EndQ.r1 Try.results16 rfl ⟨rfl, rfl⟩
  by_cases h2 : 1048576 < n1
  · refine ⟨false, FF.of_cc (l := [_, _, _]) Try.func16 rfl Try.ntmps16 rfl (CC.keep (F := [(0, _), (1, _), (2, _)]) ⟨rfl, rfl, rfl, trivial⟩ ?_)⟩
    refine CC.seq ?_
    refine CC.region ?_
    refine RR.pv (pv_as rfl) rfl ?_
    refine RR.nil ?_
    refine CC.seq ?_
    refine CC.region ?_
    refine RR.pv (pv_as rfl) rfl ?_
    refine RR.nil ?_
    refine CC.seq ?_
    refine CC.seq ?_
    refine CC.region ?_
    refine RR.pv (pv_mv rfl) rfl ?_
    refine RR.pv (pv_len rfl st22) rfl ?_
    first | refine RR.pv (pv_gtr_t rfl rfl (by omega)) rfl ?_ | refine RR.pv (pv_gtr_f rfl rfl (by omega)) rfl ?_ | refine RR.pv (pv_gtr rfl rfl) rfl ?_
    refine RR.nil ?_
    refine CC.cond_f rfl ?_
    refine CC.skip ?_
    refine CC.seq ?_
    refine CC.region ?_
    refine RR.pv (pv_mv rfl) rfl ?_
    refine RR.pv (pv_mv rfl) rfl ?_
    refine RR.pv (pv_len rfl st22) rfl ?_
    first | refine RR.pv (pv_addN rfl rfl (by omega)) rfl ?_ | refine RR.pv (pv_add64 rfl rfl (by omega)) rfl ?_
    refine RR.pv (pv_as rfl) rfl ?_
    refine RR.nil ?_
    refine CC.seq ?_
    refine CC.seq ?_
    refine CC.region ?_
    refine RR.pv (pv_mv rfl) rfl ?_
    first | refine RR.pv (pv_gtr_t rfl rfl (by omega)) rfl ?_ | refine RR.pv (pv_gtr_f rfl rfl (by omega)) rfl ?_ | refine RR.pv (pv_gtr rfl rfl) rfl ?_
    refine RR.nil ?_
    refine CC.cond_f rfl ?_
    refine CC.skip ?_
    refine CC.seq ?_
    refine CC.seq ?_
    refine CC.region ?_
    refine RR.pv (pv_mv rfl) rfl ?_
    refine RR.pv (pv_len rfl st28) rfl ?_
    first | refine RR.pv (pv_gtr_t rfl rfl (by omega)) rfl ?_ | refine RR.pv (pv_gtr_f rfl rfl (by omega)) rfl ?_ | refine RR.pv (pv_gtr rfl rfl) rfl ?_
    refine RR.nil ?_
    refine CC.cond_t rfl ?_
    refine CC.seq ?_
    refine CC.region ?_
    refine RR.pv (pv_as rfl) rfl ?_
    refine RR.nil ?_
    refine CC.ret ?_
    exact EndQ.r1 Try.results16 rfl ⟨rfl, rfl⟩
  by_cases h3 : 1048576 < n0 + n1
  · refine ⟨false, FF.of_cc (l := [_, _, _]) Try.func16 rfl Try.ntmps16 rfl (CC.keep (F := [(0, _), (1, _), (2, _)]) ⟨rfl, rfl, rfl, trivial⟩ ?_)⟩
    refine CC.seq ?_
    refine CC.region ?_
    refine RR.pv (pv_as rfl) rfl ?_
    refine RR.nil ?_
    refine CC.seq ?_
    refine CC.region ?_
    refine RR.pv (pv_as rfl) rfl ?_
    refine RR.nil ?_
    refine CC.seq ?_
    refine CC.seq ?_
    refine CC.region ?_
    refine RR.pv (pv_mv rfl) rfl ?_
    refine RR.pv (pv_len rfl st22) rfl ?_
    first | refine RR.pv (pv_gtr_t rfl rfl (by omega)) rfl ?_ | refine RR.pv (pv_gtr_f rfl rfl (by omega)) rfl ?_ | refine RR.pv (pv_gtr rfl rfl) rfl ?_
    refine RR.nil ?_
    refine CC.cond_f rfl ?_
    refine CC.skip ?_
    refine CC.seq ?_
    refine CC.region ?_
    refine RR.pv (pv_mv rfl) rfl ?_
    refine RR.pv (pv_mv rfl) rfl ?_
    refine RR.pv (pv_len rfl st22) rfl ?_
    first | refine RR.pv (pv_addN rfl rfl (by omega)) rfl ?_ | refine RR.pv (pv_add64 rfl rfl (by omega)) rfl ?_
    refine RR.pv (pv_as rfl) rfl ?_
    refine RR.nil ?_
    refine CC.seq ?_
    refine CC.seq ?_
    refine CC.region ?_
    refine RR.pv (pv_mv rfl) rfl ?_
    first | refine RR.pv (pv_gtr_t rfl rfl (by omega)) rfl ?_ | refine RR.pv (pv_gtr_f rfl rfl (by omega)) rfl ?_ | refine RR.pv (pv_gtr rfl rfl) rfl ?_
    refine RR.nil ?_
    refine CC.cond_f rfl ?_
    refine CC.skip ?_
    refine CC.seq ?_
    refine CC.seq ?_
    refine CC.region ?_
    refine RR.pv (pv_mv rfl) rfl ?_
    refine RR.pv (pv_len rfl st28) rfl ?_
    first | refine RR.pv (pv_gtr_t rfl rfl (by omega)) rfl ?_ | refine RR.pv (pv_gtr_f rfl rfl (by omega)) rfl ?_ | refine RR.pv (pv_gtr rfl rfl) rfl ?_
    refine RR.nil ?_
    refine CC.cond_f rfl ?_
    refine CC.skip ?_
    refine CC.seq ?_
    refine CC.region ?_
    refine RR.pv (pv_mv rfl) rfl ?_
    refine RR.pv (pv_mv rfl) rfl ?_
    refine RR.pv (pv_len rfl st28) rfl ?_
    first | refine RR.pv (pv_addN rfl rfl (by omega)) rfl ?_ | refine RR.pv (pv_add64 rfl rfl (by omega)) rfl ?_
    refine RR.pv (pv_as rfl) rfl ?_
    refine RR.nil ?_
    refine CC.seq ?_
    refine CC.seq ?_
    refine CC.region ?_
    refine RR.pv (pv_mv rfl) rfl ?_
    first | refine RR.pv (pv_gtr_t rfl rfl (by omega)) rfl ?_ | refine RR.pv (pv_gtr_f rfl rfl (by omega)) rfl ?_ | refine RR.pv (pv_gtr rfl rfl) rfl ?_
    refine RR.nil ?_
    refine CC.cond_t rfl ?_
    refine CC.seq ?_
    refine CC.region ?_
    refine RR.pv (pv_as rfl) rfl ?_
    refine RR.nil ?_
    refine CC.ret ?_
    exact EndQ.r1 Try.results16 rfl ⟨rfl, rfl⟩
  by_cases h4 : 1048576 < n2
  · refine ⟨false, FF.of_cc (l := [_, _, _]) Try.func16 rfl Try.ntmps16 rfl (CC.keep (F := [(0, _), (1, _), (2, _)]) ⟨rfl, rfl, rfl, trivial⟩ ?_)⟩
    refine CC.seq ?_
    refine CC.region ?_
    refine RR.pv (pv_as rfl) rfl ?_
    refine RR.nil ?_
    refine CC.seq ?_
    refine CC.region ?_
    refine RR.pv (pv_as rfl) rfl ?_
    refine RR.nil ?_
    refine CC.seq ?_
    refine CC.seq ?_
    refine CC.region ?_
    refine RR.pv (pv_mv rfl) rfl ?_
    refine RR.pv (pv_len rfl st22) rfl ?_
    first | refine RR.pv (pv_gtr_t rfl rfl (by omega)) rfl ?_ | refine RR.pv (pv_gtr_f rfl rfl (by omega)) rfl ?_ | refine RR.pv (pv_gtr rfl rfl) rfl ?_
    refine RR.nil ?_
    refine CC.cond_f rfl ?_
    refine CC.skip ?_
    refine CC.seq ?_
    refine CC.region ?_
    refine RR.pv (pv_mv rfl) rfl ?_
    refine RR.pv (pv_mv rfl) rfl ?_
    refine RR.pv (pv_len rfl st22) rfl ?_
    first | refine RR.pv (pv_addN rfl rfl (by omega)) rfl ?_ | refine RR.pv (pv_add64 rfl rfl (by omega)) rfl ?_
    refine RR.pv (pv_as rfl) rfl ?_
    refine RR.nil ?_
    refine CC.seq ?_
    refine CC.seq ?_
    refine CC.region ?_
    refine RR.pv (pv_mv rfl) rfl ?_
    first | refine RR.pv (pv_gtr_t rfl rfl (by omega)) rfl ?_ | refine RR.pv (pv_gtr_f rfl rfl (by omega)) rfl ?_ | refine RR.pv (pv_gtr rfl rfl) rfl ?_
    refine RR.nil ?_
    refine CC.cond_f rfl ?_
    refine CC.skip ?_
    refine CC.seq ?_
    refine CC.seq ?_
    refine CC.region ?_
    refine RR.pv (pv_mv rfl) rfl ?_
    refine RR.pv (pv_len rfl st28) rfl ?_
    first | refine RR.pv (pv_gtr_t rfl rfl (by omega)) rfl ?_ | refine RR.pv (pv_gtr_f rfl rfl (by omega)) rfl ?_ | refine RR.pv (pv_gtr rfl rfl) rfl ?_
    refine RR.nil ?_
    refine CC.cond_f rfl ?_
    refine CC.skip ?_
    refine CC.seq ?_
    refine CC.region ?_
    refine RR.pv (pv_mv rfl) rfl ?_
    refine RR.pv (pv_mv rfl) rfl ?_
    refine RR.pv (pv_len rfl st28) rfl ?_
    first | refine RR.pv (pv_addN rfl rfl (by omega)) rfl ?_ | refine RR.pv (pv_add64 rfl rfl (by omega)) rfl ?_
    refine RR.pv (pv_as rfl) rfl ?_
    refine RR.nil ?_
    refine CC.seq ?_
    refine CC.seq ?_
    refine CC.region ?_
    refine RR.pv (pv_mv rfl) rfl ?_
    first | refine RR.pv (pv_gtr_t rfl rfl (by omega)) rfl ?_ | refine RR.pv (pv_gtr_f rfl rfl (by omega)) rfl ?_ | refine RR.pv (pv_gtr rfl rfl) rfl ?_
    refine RR.nil ?_
    refine CC.cond_f rfl ?_
    refine CC.skip ?_
    refine CC.seq ?_
    refine CC.seq ?_
    refine CC.region ?_
    refine RR.pv (pv_mv rfl) rfl ?_
    refine RR.pv (pv_len rfl st22) rfl ?_
    first | refine RR.pv (pv_gtr_t rfl rfl (by omega)) rfl ?_ | refine RR.pv (pv_gtr_f rfl rfl (by omega)) rfl ?_ | refine RR.pv (pv_gtr rfl rfl) rfl ?_
    refine RR.nil ?_
    refine CC.cond_t rfl ?_
    refine CC.seq ?_
    refine CC.region ?_
    refine RR.pv (pv_as rfl) rfl ?_
    refine RR.nil ?_
    refine CC.ret ?_
    exact EndQ.r1 Try.results16 rfl ⟨rfl, rfl⟩
  by_cases h5 : 1048576 < n0 + n1 + n2
  · refine ⟨false, FF.of_cc (l := [_, _, _]) Try.func16 rfl Try.ntmps16 rfl (CC.keep (F := [(0, _), (1, _), (2, _)]) ⟨rfl, rfl, rfl, trivial⟩ ?_)⟩
    refine CC.seq ?_
    refine CC.region ?_
    refine RR.pv (pv_as rfl) rfl ?_
    refine RR.nil ?_
    refine CC.seq ?_
    refine CC.region ?_
    refine RR.pv (pv_as rfl) rfl ?_
    refine RR.nil ?_
    refine CC.seq ?_
    refine CC.seq ?_
    refine CC.region ?_
    refine RR.pv (pv_mv rfl) rfl ?_
    refine RR.pv (pv_len rfl st22) rfl ?_
    first | refine RR.pv (pv_gtr_t rfl rfl (by omega)) rfl ?_ | refine RR.pv (pv_gtr_f rfl rfl (by omega)) rfl ?_ | refine RR.pv (pv_gtr rfl rfl) rfl ?_
    refine RR.nil ?_
    refine CC.cond_f rfl ?_
    refine CC.skip ?_
    refine CC.seq ?_
    refine CC.region ?_
    refine RR.pv (pv_mv rfl) rfl ?_
    refine RR.pv (pv_mv rfl) rfl ?_
    refine RR.pv (pv_len rfl st22) rfl ?_
    first | refine RR.pv (pv_addN rfl rfl (by omega)) rfl ?_ | refine RR.pv (pv_add64 rfl rfl (by omega)) rfl ?_
    refine RR.pv (pv_as rfl) rfl ?_
    refine RR.nil ?_
    refine CC.seq ?_
    refine CC.seq ?_
    refine CC.region ?_
    refine RR.pv (pv_mv rfl) rfl ?_
    first | refine RR.pv (pv_gtr_t rfl rfl (by omega)) rfl ?_ | refine RR.pv (pv_gtr_f rfl rfl (by omega)) rfl ?_ | refine RR.pv (pv_gtr rfl rfl) rfl ?_
    refine RR.nil ?_
    refine CC.cond_f rfl ?_
    refine CC.skip ?_
    refine CC.seq ?_
    refine CC.seq ?_
    refine CC.region ?_
    refine RR.pv (pv_mv rfl) rfl ?_
    refine RR.pv (pv_len rfl st28) rfl ?_
    first | refine RR.pv (pv_gtr_t rfl rfl (by omega)) rfl ?_ | refine RR.pv (pv_gtr_f rfl rfl (by omega)) rfl ?_ | refine RR.pv (pv_gtr rfl rfl) rfl ?_
    refine RR.nil ?_
    refine CC.cond_f rfl ?_
    refine CC.skip ?_
    refine CC.seq ?_
    refine CC.region ?_
    refine RR.pv (pv_mv rfl) rfl ?_
    refine RR.pv (pv_mv rfl) rfl ?_
    refine RR.pv (pv_len rfl st28) rfl ?_
    first | refine RR.pv (pv_addN rfl rfl (by omega)) rfl ?_ | refine RR.pv (pv_add64 rfl rfl (by omega)) rfl ?_
    refine RR.pv (pv_as rfl) rfl ?_
    refine RR.nil ?_
    refine CC.seq ?_
    refine CC.seq ?_
    refine CC.region ?_
    refine RR.pv (pv_mv rfl) rfl ?_
    first | refine RR.pv (pv_gtr_t rfl rfl (by omega)) rfl ?_ | refine RR.pv (pv_gtr_f rfl rfl (by omega)) rfl ?_ | refine RR.pv (pv_gtr rfl rfl) rfl ?_
    refine RR.nil ?_
    refine CC.cond_f rfl ?_
    refine CC.skip ?_
    refine CC.seq ?_
    refine CC.seq ?_
    refine CC.region ?_
    refine RR.pv (pv_mv rfl) rfl ?_
    refine RR.pv (pv_len rfl st22) rfl ?_
    first | refine RR.pv (pv_gtr_t rfl rfl (by omega)) rfl ?_ | refine RR.pv (pv_gtr_f rfl rfl (by omega)) rfl ?_ | refine RR.pv (pv_gtr rfl rfl) rfl ?_
    refine RR.nil ?_
    refine CC.cond_f rfl ?_
    refine CC.skip ?_
    refine CC.seq ?_
    refine CC.region ?_
    refine RR.pv (pv_mv rfl) rfl ?_
    refine RR.pv (pv_mv rfl) rfl ?_
    refine RR.pv (pv_len rfl st22) rfl ?_
    first | refine RR.pv (pv_addN rfl rfl (by omega)) rfl ?_ | refine RR.pv (pv_add64 rfl rfl (by omega)) rfl ?_
    refine RR.pv (pv_as rfl) rfl ?_
    refine RR.nil ?_
    refine CC.seq ?_
    refine CC.seq ?_
    refine CC.region ?_
    refine RR.pv (pv_mv rfl) rfl ?_
    first | refine RR.pv (pv_gtr_t rfl rfl (by omega)) rfl ?_ | refine RR.pv (pv_gtr_f rfl rfl (by omega)) rfl ?_ | refine RR.pv (pv_gtr rfl rfl) rfl ?_
    refine RR.nil ?_
    refine CC.cond_t rfl ?_
    refine CC.seq ?_
    refine CC.region ?_
    refine RR.pv (pv_as rfl) rfl ?_
    refine RR.nil ?_
    refine CC.ret ?_
    exact EndQ.r1 Try.results16 rfl ⟨rfl, rfl⟩
  · refine ⟨true, FF.of_cc (l := [_, _, _]) Try.func16 rfl Try.ntmps16 rfl (CC.keep (F := [(0, _), (1, _), (2, _)]) ⟨rfl, rfl, rfl, trivial⟩ ?_)⟩
    refine CC.seq ?_
    refine CC.region ?_
    refine RR.pv (pv_as rfl) rfl ?_
    refine RR.nil ?_
    refine CC.seq ?_
    refine CC.region ?_
    refine RR.pv (pv_as rfl) rfl ?_
    refine RR.nil ?_
    refine CC.seq ?_
    refine CC.seq ?_
    refine CC.region ?_
    refine RR.pv (pv_mv rfl) rfl ?_
    refine RR.pv (pv_len rfl st22) rfl ?_
    first | refine RR.pv (pv_gtr_t rfl rfl (by omega)) rfl ?_ | refine RR.pv (pv_gtr_f rfl rfl (by omega)) rfl ?_ | refine RR.pv (pv_gtr rfl rfl) rfl ?_
    refine RR.nil ?_
    refine CC.cond_f rfl ?_
    refine CC.skip ?_
    refine CC.seq ?_
    refine CC.region ?_
    refine RR.pv (pv_mv rfl) rfl ?_
    refine RR.pv (pv_mv rfl) rfl ?_
    refine RR.pv (pv_len rfl st22) rfl ?_
    first | refine RR.pv (pv_addN rfl rfl (by omega)) rfl ?_ | refine RR.pv (pv_add64 rfl rfl (by omega)) rfl ?_
    refine RR.pv (pv_as rfl) rfl ?_
    refine RR.nil ?_
    refine CC.seq ?_
    refine CC.seq ?_
    refine CC.region ?_
    refine RR.pv (pv_mv rfl) rfl ?_
    first | refine RR.pv (pv_gtr_t rfl rfl (by omega)) rfl ?_ | refine RR.pv (pv_gtr_f rfl rfl (by omega)) rfl ?_ | refine RR.pv (pv_gtr rfl rfl) rfl ?_
    refine RR.nil ?_
    refine CC.cond_f rfl ?_
    refine CC.skip ?_
    refine CC.seq ?_
    refine CC.seq ?_
    refine CC.region ?_
    refine RR.pv (pv_mv rfl) rfl ?_
    refine RR.pv (pv_len rfl st28) rfl ?_
    first | refine RR.pv (pv_gtr_t rfl rfl (by omega)) rfl ?_ | refine RR.pv (pv_gtr_f rfl rfl (by omega)) rfl ?_ | refine RR.pv (pv_gtr rfl rfl) rfl ?_
    refine RR.nil ?_
    refine CC.cond_f rfl ?_
    refine CC.skip ?_
    refine CC.seq ?_
    refine CC.region ?_
    refine RR.pv (pv_mv rfl) rfl ?_
    refine RR.pv (pv_mv rfl) rfl ?_
    refine RR.pv (pv_len rfl st28) rfl ?_
    first | refine RR.pv (pv_addN rfl rfl (by omega)) rfl ?_ | refine RR.pv (pv_add64 rfl rfl (by omega)) rfl ?_
    refine RR.pv (pv_as rfl) rfl ?_
    refine RR.nil ?_
    refine CC.seq ?_
    refine CC.seq ?_
    refine CC.region ?_
    refine RR.pv (pv_mv rfl) rfl ?_
    first | refine RR.pv (pv_gtr_t rfl rfl (by omega)) rfl ?_ | refine RR.pv (pv_gtr_f rfl rfl (by omega)) rfl ?_ | refine RR.pv (pv_gtr rfl rfl) rfl ?_
    refine RR.nil ?_
    refine CC.cond_f rfl ?_
    refine CC.skip ?_
    refine CC.seq ?_
    refine CC.seq ?_
    refine CC.region ?_
    refine RR.pv (pv_mv rfl) rfl ?_
    refine RR.pv (pv_len rfl st22) rfl ?_
    first | refine RR.pv (pv_gtr_t rfl rfl (by omega)) rfl ?_ | refine RR.pv (pv_gtr_f rfl rfl (by omega)) rfl ?_ | refine RR.pv (pv_gtr rfl rfl) rfl ?_
    refine RR.nil ?_
    refine CC.cond_f rfl ?_
    refine CC.skip ?_
    refine CC.seq ?_
    refine CC.region ?_
    refine RR.pv (pv_mv rfl) rfl ?_
    refine RR.pv (pv_mv rfl) rfl ?_
    refine RR.pv (pv_len rfl st22) rfl ?_
    first | refine RR.pv (pv_addN rfl rfl (by omega)) rfl ?_ | refine RR.pv (pv_add64 rfl rfl (by omega)) rfl ?_
    refine RR.pv (pv_as rfl) rfl ?_
    refine RR.nil ?_
    refine CC.seq ?_
    refine CC.seq ?_
    refine CC.region ?_
    refine RR.pv (pv_mv rfl) rfl ?_
    first | refine RR.pv (pv_gtr_t rfl rfl (by omega)) rfl ?_ | refine RR.pv (pv_gtr_f rfl rfl (by omega)) rfl ?_ | refine RR.pv (pv_gtr rfl rfl) rfl ?_
    refine RR.nil ?_
    refine CC.cond_f rfl ?_
    refine CC.skip ?_
    refine CC.seq ?_
    refine CC.region ?_
    refine RR.pv (pv_as rfl) rfl ?_
    refine RR.nil ?_
    refine CC.ret ?_
    exact EndQ.r1 Try.results16 rfl ⟨rfl, rfl⟩


theorem InN.own' {w : World} {a : Option Nat} {n : Nat} {f : Nat → Nat} (hn : a = none → n = 0) (h : ∀ b, a = some b → SN .u8 w b 0 n f) : InN w (a.map fun b => ⟨b, 0, none⟩) n n f := by
  cases ha : a with
  | none => have := hn ha; exact .inl ⟨rfl, this, this⟩
  | some b => exact .inr ⟨⟨b, 0, none⟩, rfl, fun _ => ⟨b, 0, rfl, h b ha⟩⟩

/-- What the law's checks ask of ranks and rows. -/
structure L5 (n r o : Nat) (f a rank rows : Nat → Nat) : Prop where
  alt : ∀ k, k < n → a k < n
  ainj : ∀ k k', k < n → k' < n → a k = a k' → k = k'
  rlt : ∀ k, k < n → rows k < n
  col : ∀ k, k < n → f ((r + a k + (n - 1)) % n) = f (if rows k = 0 then n - 1 else rows k - 1)
  ord : ∀ k k', k ≤ k' → k' < n → rank ((r + a k) % n) ≤ rank ((r + a k') % n)
  org : rank ((r + a o) % n) = rank 0
  least : ∀ l, l < n → (∀ q, q < n → rank l ≤ rank q) → ∀ q, q < n → rank ((l + q) % n) = rank ((r + q) % n)

theorem l5_of {n r o : Nat} {f a rank rows : Nat → Nat} (hn : 0 < n) (hfst : Rot.First n (fun i => f (i % n)) r) (hR : RK n n (fun i => f (i % n)) rank) (hA : Lf.Rows n (fun i => f ((r + i) % n)) a) (ho : a o = (n - r) % n) (hrows : ∀ p, p < n → rows (pos n rank p) = p) : L5 n r o f a rank rows := by
  have hper := per_mod_fn f n
  have hr := hfst.1
  have hy := Rk.rows_turn hn hr hA
  have hx := Rk.rows_by_rank hR hrows
  have hml : ∀ x, x % n < n := fun x => Nat.mod_lt _ hn
  refine ⟨hA.lt, hA.inj, hx.lt, fun k hk => ?_, fun k k' hkk hk' => ?_, ?_, fun l hl hmin q hq => ?_⟩
  · have h1 := Rk.sorted_same hx hy hk (n - 1) (by omega)
    have h1 : f ((rows k + (n - 1)) % n) = f ((r + a k + (n - 1)) % n) := h1.trans (Rot.per_mod hper (r + a k) (n - 1))
    rw [← h1]
    congr 1
    have h2 := hx.lt k hk
    by_cases h0 : rows k = 0
    · rw [if_pos h0, h0, Nat.zero_add, Nat.mod_eq_of_lt (by omega)]
    · rw [if_neg h0, show rows k + (n - 1) = rows k - 1 + n from by omega, Nat.add_mod_right, Nat.mod_eq_of_lt (by omega)]
  · rcases Nat.lt_or_ge k k' with h1 | h1
    · rcases Nat.lt_or_ge (rank ((r + a k') % n)) (rank ((r + a k) % n)) with h2 | h2
      · exact absurd (hR.rev (hml _) (hml _) h2) (hy.ord k k' h1 hk')
      · exact h2
    · rw [show k = k' from by omega]; exact Nat.le_refl _
  · rw [ho]
    congr 1
    rcases Nat.eq_zero_or_pos r with h | h
    · rw [h, Nat.sub_zero, Nat.mod_self, Nat.zero_add, Nat.zero_mod]
    · rw [Nat.mod_eq_of_lt (show n - r < n from by omega), show r + (n - r) = n from by omega, Nat.mod_self]
  · have hnb : ¬ Rot.Bad n (fun i => f (i % n)) l := fun ⟨q', hq'⟩ => by
      have h1 : Rot.Lt n (fun i => f (i % n)) (q' % n) l := hq'.same_left (Rot.same_mod hper q').symm
      have := hR.lt _ _ (hml q') hl h1
      have := hmin _ (hml q')
      omega
    have hsame := Rot.same_of_least hnb hfst.2.1
    refine hR.eq _ _ (hml _) (hml _) ((Rk.same_modm hper).2 (fun d hd => ?_))
    have key : ∀ x, (fun i => f (i % n)) (l + x) = (fun i => f (i % n)) (r + x) := fun x => by
      rcases Nat.le_total l r with h3 | h3
      · exact Rot.per_of_same hper hn h3 hsame x
      · exact (Rot.per_of_same hper hn h3 hsame.symm x).symm
    have := key (q + d)
    rw [← Nat.add_assoc, ← Nat.add_assoc] at this
    exact this

set_option maxHeartbeats 4000000 in
theorem law5_any (a0 : Option Addr) (L c0 : Nat) (s0 : Nat → Nat) (a1 : Option Addr) (la c1 : Nat) (sa0 : Nat → Int) (a2 : Option Addr) (n c2 : Nat) (f : Nat → Nat) (w : World)
    (h0 : InN w a0 L c0 s0) (h1 : InI w a1 la c1 sa0) (h2 : InN w a2 n c2 f) (hf : ∀ i, f i < 256) :
    FF 5 #[.slice a0 L c0, .slice a1 la c1, .slice a2 n c2] w (fun v w' => v = .bool true ∧ Touch (fun _ _ => False) w w') := by
  refine FF.of_cc (l := [_, _, _]) Try.func5 rfl Try.ntmps5 rfl (CC.keep (F := [(0, _), (1, _), (2, _)]) ⟨rfl, rfl, rfl, trivial⟩ ?_)
  obtain ⟨zr, hzz⟩ := zz16 a0 L c0 a1 la c1 a2 n c2 w
  refine CC.seq ?_
  refine CC.region ?_
  refine RR.pv (pv_as rfl) rfl ?_
  refine RR.nil ?_
  refine CC.seq ?_
  refine CC.seq ?_
  refine CC.region ?_
  refine RR.pv (pv_mv rfl) rfl ?_
  refine RR.pv (pv_mv rfl) rfl ?_
  refine RR.pv (pv_mv rfl) rfl ?_
  refine RR.call Try.func16 nm16 rfl rfl hzz rfl ?_
  rintro v w' ⟨rfl, rfl⟩
  first | refine RR.pv (pv_not_t rfl) rfl ?_ | refine RR.pv (pv_not_f rfl) rfl ?_ | refine RR.pv (pv_not rfl) rfl ?_
  refine RR.nil ?_
  cases zr with
  | false =>
    refine CC.cond_t rfl ?_
    refine CC.seq ?_
    refine CC.region ?_
    refine RR.pv (pv_as rfl) rfl ?_
    refine RR.nil ?_
    refine CC.ret ?_
    exact EndQ.r1 Try.results5 rfl ⟨rfl, Touch.refl _ _⟩
  | true =>
  refine CC.cond_f rfl ?_
  by_cases hn : 65536 < n
  · refine CC.skip ?_
    refine CC.seq ?_
    refine CC.seq ?_
    refine CC.region ?_
    refine RR.pv (pv_mv rfl) rfl ?_
    refine RR.pv (pv_len rfl st22) rfl ?_
    first | refine RR.pv (pv_gtr_t rfl rfl (by omega)) rfl ?_ | refine RR.pv (pv_gtr_f rfl rfl (by omega)) rfl ?_ | refine RR.pv (pv_gtr rfl rfl) rfl ?_
    refine RR.nil ?_
    refine CC.cond_t rfl ?_
    refine CC.seq ?_
    refine CC.region ?_
    refine RR.pv (pv_as rfl) rfl ?_
    refine RR.nil ?_
    refine CC.ret ?_
    exact EndQ.r1 Try.results5 rfl ⟨rfl, Touch.refl _ _⟩
  refine CC.skip ?_
  refine CC.seq ?_
  refine CC.seq ?_
  refine CC.region ?_
  refine RR.pv (pv_mv rfl) rfl ?_
  refine RR.pv (pv_len rfl st22) rfl ?_
  first | refine RR.pv (pv_gtr_t rfl rfl (by omega)) rfl ?_ | refine RR.pv (pv_gtr_f rfl rfl (by omega)) rfl ?_ | refine RR.pv (pv_gtr rfl rfl) rfl ?_
  refine RR.nil ?_
  refine CC.cond_f rfl ?_
  by_cases hL : 262144 < L
  · refine CC.skip ?_
    refine CC.seq ?_
    refine CC.seq ?_
    refine CC.region ?_
    refine RR.pv (pv_mv rfl) rfl ?_
    refine RR.pv (pv_len rfl st22) rfl ?_
    first | refine RR.pv (pv_gtr_t rfl rfl (by omega)) rfl ?_ | refine RR.pv (pv_gtr_f rfl rfl (by omega)) rfl ?_ | refine RR.pv (pv_gtr rfl rfl) rfl ?_
    refine RR.nil ?_
    refine CC.cond_t rfl ?_
    refine CC.seq ?_
    refine CC.region ?_
    refine RR.pv (pv_as rfl) rfl ?_
    refine RR.nil ?_
    refine CC.ret ?_
    exact EndQ.r1 Try.results5 rfl ⟨rfl, Touch.refl _ _⟩
  refine CC.skip ?_
  refine CC.seq ?_
  refine CC.seq ?_
  refine CC.region ?_
  refine RR.pv (pv_mv rfl) rfl ?_
  refine RR.pv (pv_len rfl st22) rfl ?_
  first | refine RR.pv (pv_gtr_t rfl rfl (by omega)) rfl ?_ | refine RR.pv (pv_gtr_f rfl rfl (by omega)) rfl ?_ | refine RR.pv (pv_gtr rfl rfl) rfl ?_
  refine RR.nil ?_
  refine CC.cond_f rfl ?_
  by_cases hla : 65536 < la
  · refine CC.skip ?_
    refine CC.seq ?_
    refine CC.seq ?_
    refine CC.region ?_
    refine RR.pv (pv_mv rfl) rfl ?_
    refine RR.pv (pv_len rfl st28) rfl ?_
    first | refine RR.pv (pv_gtr_t rfl rfl (by omega)) rfl ?_ | refine RR.pv (pv_gtr_f rfl rfl (by omega)) rfl ?_ | refine RR.pv (pv_gtr rfl rfl) rfl ?_
    refine RR.nil ?_
    refine CC.cond_t rfl ?_
    refine CC.seq ?_
    refine CC.region ?_
    refine RR.pv (pv_as rfl) rfl ?_
    refine RR.nil ?_
    refine CC.ret ?_
    exact EndQ.r1 Try.results5 rfl ⟨rfl, Touch.refl _ _⟩
  refine CC.skip ?_
  refine CC.seq ?_
  refine CC.seq ?_
  refine CC.region ?_
  refine RR.pv (pv_mv rfl) rfl ?_
  refine RR.pv (pv_len rfl st28) rfl ?_
  first | refine RR.pv (pv_gtr_t rfl rfl (by omega)) rfl ?_ | refine RR.pv (pv_gtr_f rfl rfl (by omega)) rfl ?_ | refine RR.pv (pv_gtr rfl rfl) rfl ?_
  refine RR.nil ?_
  refine CC.cond_f rfl ?_
  refine CC.skip ?_
  refine CC.seq ?_
  refine CC.region ?_
  refine RR.pv (pv_mv rfl) rfl ?_
  refine RR.pv (pv_len rfl st22) rfl ?_
  refine RR.pv (pv_as rfl) rfl ?_
  refine RR.nil ?_
  by_cases hn0 : n = 0
  · refine CC.seq ?_
    refine CC.seq ?_
    refine CC.region ?_
    refine RR.pv (pv_mv rfl) rfl ?_
    first | refine RR.pv (pv_eql_t rfl rfl (by omega)) rfl ?_ | refine RR.pv (pv_eql_f rfl rfl (by omega)) rfl ?_ | refine RR.pv (pv_eql rfl rfl) rfl ?_
    refine RR.pv (pv_mv rfl) rfl ?_
    first | refine RR.gy rfl rfl (pv_mv rfl) rfl ?_ | refine RR.gn rfl rfl rfl rfl ?_
    first | refine RR.gy rfl rfl (pv_len rfl st28) rfl ?_ | refine RR.gn rfl rfl rfl rfl ?_
    first | refine RR.gy rfl rfl (pv_mv rfl) rfl ?_ | refine RR.gn rfl rfl rfl rfl ?_
    first | refine RR.gy rfl rfl (pv_lss_t rfl rfl (by omega)) rfl ?_ | refine RR.gy rfl rfl (pv_lss_f rfl rfl (by omega)) rfl ?_ | refine RR.gy rfl rfl (pv_lss rfl rfl) rfl ?_ | refine RR.gn rfl rfl rfl rfl ?_
    first | refine RR.pv (pv_pick_t rfl rfl) rfl ?_ | refine RR.pv (pv_pick_f rfl rfl) rfl ?_
    refine RR.nil ?_
    refine CC.cond_t rfl ?_
    refine CC.seq ?_
    refine CC.region ?_
    refine RR.pv (pv_as rfl) rfl ?_
    refine RR.nil ?_
    refine CC.ret ?_
    exact EndQ.r1 Try.results5 rfl ⟨rfl, Touch.refl _ _⟩
  by_cases hlan : la < n
  · refine CC.seq ?_
    refine CC.seq ?_
    refine CC.region ?_
    refine RR.pv (pv_mv rfl) rfl ?_
    first | refine RR.pv (pv_eql_t rfl rfl (by omega)) rfl ?_ | refine RR.pv (pv_eql_f rfl rfl (by omega)) rfl ?_ | refine RR.pv (pv_eql rfl rfl) rfl ?_
    refine RR.pv (pv_mv rfl) rfl ?_
    first | refine RR.gy rfl rfl (pv_mv rfl) rfl ?_ | refine RR.gn rfl rfl rfl rfl ?_
    first | refine RR.gy rfl rfl (pv_len rfl st28) rfl ?_ | refine RR.gn rfl rfl rfl rfl ?_
    first | refine RR.gy rfl rfl (pv_mv rfl) rfl ?_ | refine RR.gn rfl rfl rfl rfl ?_
    first | refine RR.gy rfl rfl (pv_lss_t rfl rfl (by omega)) rfl ?_ | refine RR.gy rfl rfl (pv_lss_f rfl rfl (by omega)) rfl ?_ | refine RR.gy rfl rfl (pv_lss rfl rfl) rfl ?_ | refine RR.gn rfl rfl rfl rfl ?_
    first | refine RR.pv (pv_pick_t rfl rfl) rfl ?_ | refine RR.pv (pv_pick_f rfl rfl) rfl ?_
    refine RR.nil ?_
    refine CC.cond_t rfl ?_
    refine CC.seq ?_
    refine CC.region ?_
    refine RR.pv (pv_as rfl) rfl ?_
    refine RR.nil ?_
    refine CC.ret ?_
    exact EndQ.r1 Try.results5 rfl ⟨rfl, Touch.refl _ _⟩
  refine CC.seq ?_
  refine CC.seq ?_
  refine CC.region ?_
  refine RR.pv (pv_mv rfl) rfl ?_
  first | refine RR.pv (pv_eql_t rfl rfl (by omega)) rfl ?_ | refine RR.pv (pv_eql_f rfl rfl (by omega)) rfl ?_ | refine RR.pv (pv_eql rfl rfl) rfl ?_
  refine RR.pv (pv_mv rfl) rfl ?_
  first | refine RR.gy rfl rfl (pv_mv rfl) rfl ?_ | refine RR.gn rfl rfl rfl rfl ?_
  first | refine RR.gy rfl rfl (pv_len rfl st28) rfl ?_ | refine RR.gn rfl rfl rfl rfl ?_
  first | refine RR.gy rfl rfl (pv_mv rfl) rfl ?_ | refine RR.gn rfl rfl rfl rfl ?_
  first | refine RR.gy rfl rfl (pv_lss_t rfl rfl (by omega)) rfl ?_ | refine RR.gy rfl rfl (pv_lss_f rfl rfl (by omega)) rfl ?_ | refine RR.gy rfl rfl (pv_lss rfl rfl) rfl ?_ | refine RR.gn rfl rfl rfl rfl ?_
  first | refine RR.pv (pv_pick_t rfl rfl) rfl ?_ | refine RR.pv (pv_pick_f rfl rfl) rfl ?_
  refine RR.nil ?_
  refine CC.cond_f rfl ?_
  -- the copies
  refine CC.skip ?_
  refine CC.seq ?_
  refine CC.region ?_
  refine RR.pv (pv_mv rfl) rfl ?_
  refine RR.call Try.func12 nm12t rfl rfl (cloneBytes_gen a0 L c0 s0 w' (by omega) h0) rfl (fun v1 w1 hp1 => ?_)
  obtain ⟨aw, rfl, hawn, haw, hT1⟩ := hp1
  refine RR.pv (pv_as rfl) rfl ?_
  refine RR.nil ?_
  refine CC.seq ?_
  refine CC.region ?_
  refine RR.pv (pv_mv rfl) rfl ?_
  refine RR.call Try.func17 nm17t rfl rfl (cloneInts_gen a1 la c1 sa0 w1 (by omega) (h1.touch hT1)) rfl (fun v2 w2 hp2 => ?_)
  obtain ⟨aas, rfl, hasn, has, hT2⟩ := hp2
  refine RR.pv (pv_as rfl) rfl ?_
  refine RR.nil ?_
  cases aas with
  | none => have := hasn rfl; omega
  | some ba =>
  obtain ⟨hba1, hba2, hsa2, hwa2⟩ := has ba rfl
  have hTw2 : Touch (fun _ _ => False) w' w2 := hT1.trans hT2 (fun _ _ _ h => h) (fun _ _ _ h => h)
  refine CC.seq ?_
  refine CC.region ?_
  refine RR.pv (pv_mv rfl) rfl ?_
  refine RR.call Try.func12 nm12t rfl rfl (cloneBytes_gen a2 n c2 f w2 (by omega) (h2.touch hTw2)) rfl (fun v3 w3 hp3 => ?_)
  obtain ⟨ak, rfl, hakn, hak, hT3⟩ := hp3
  refine RR.pv (pv_as rfl) rfl ?_
  refine RR.nil ?_
  cases ak with
  | none => have := hakn rfl; omega
  | some bk =>
  obtain ⟨hbk1, hbk2, hb3, hwb3⟩ := hak bk rfl
  have hTw3 : Touch (fun _ _ => False) w' w3 := hTw2.trans hT3 (fun _ _ _ h => h) (fun _ _ _ h => h)
  have hT13 : Touch (fun _ _ => False) w1 w3 := hT2.trans hT3 (fun _ _ _ h => h) (fun _ _ _ h => h)
  have haw3 : ∀ b, aw = some b → w'.heap.size ≤ b ∧ b < w1.heap.size ∧ SN .u8 w3 b 0 L s0 ∧ WR w3 b 0 L := fun b hb => by
    obtain ⟨e1, e2, e3, e4⟩ := haw b hb
    exact ⟨e1, e2, e3.touch hT13 (fun _ _ h => h), e4.touch (fun _ => e2) hT13⟩
  have hsa3 := hsa2.touch hT3 (fun _ _ h => h)
  have hwa3 := hwa2.touch (fun _ => hba2) hT3
  refine CC.seq ?_
  refine CC.region ?_
  refine RR.pv (pv_mv rfl) rfl ?_
  refine RR.call Try.func12 nm12t rfl rfl (cloneBytes_gen (aw.map fun b => ⟨b, 0, none⟩) L L s0 w3 (by omega) (InN.own' hawn (fun b hb => (haw3 b hb).2.2.1))) rfl (fun v4 w4 hp4 => ?_)
  obtain ⟨av, rfl, havn, hav, hT4⟩ := hp4
  refine RR.pv (pv_as rfl) rfl ?_
  refine RR.nil ?_
  refine CC.seq ?_
  refine CC.region ?_
  refine RR.pv (pv_mv rfl) rfl ?_
  refine RR.call Try.func17 nm17t rfl rfl (cloneInts_gen (some ⟨ba, 0, none⟩) la la sa0 w4 (by omega) (.inr ⟨_, rfl, fun _ => ⟨ba, 0, rfl, hsa3.touch hT4 (fun _ _ h => h)⟩⟩)) rfl (fun v5 w5 hp5 => ?_)
  obtain ⟨at', rfl, hatn, hat, hT5⟩ := hp5
  refine RR.pv (pv_as rfl) rfl ?_
  refine RR.nil ?_
  cases at' with
  | none => have := hatn rfl; omega
  | some bq =>
  obtain ⟨hbq1, hbq2, hq5, hwq5⟩ := hat bq rfl
  have hT35 : Touch (fun _ _ => False) w3 w5 := hT4.trans hT5 (fun _ _ _ h => h) (fun _ _ _ h => h)
  refine CC.seq ?_
  refine CC.region ?_
  refine RR.pv (pv_mv rfl) rfl ?_
  refine RR.call Try.func12 nm12t rfl rfl (cloneBytes_gen (some ⟨bk, 0, none⟩) n n f w5 (by omega) (InN.own (hb3.touch hT35 (fun _ _ h => h)))) rfl (fun v6 w6 hp6 => ?_)
  obtain ⟨ao, rfl, haon, hao, hT6⟩ := hp6
  refine RR.pv (pv_as rfl) rfl ?_
  refine RR.nil ?_
  cases ao with
  | none => have := haon rfl; omega
  | some bo =>
  obtain ⟨hbo1, hbo2, ho6, hwo6⟩ := hao bo rfl
  have hT36 : Touch (fun _ _ => False) w3 w6 := hT35.trans hT6 (fun _ _ _ h => h) (fun _ _ _ h => h)
  have hT46 : Touch (fun _ _ => False) w4 w6 := hT5.trans hT6 (fun _ _ _ h => h) (fun _ _ _ h => h)
  have hTw6 : Touch (fun _ _ => False) w' w6 := hTw3.trans hT36 (fun _ _ _ h => h) (fun _ _ _ h => h)
  have hsz1 := hT1.size
  have hsz2 := hT2.size
  have hsz3 := hT3.size
  have hsz4 := hT4.size
  have hsz5 := hT5.size
  have hsz6 := hT6.size
  have hsa6 := hsa3.touch hT36 (fun _ _ h => h)
  have hwa6 := hwa3.touch (fun _ => by omega) hT36
  have hb6 := hb3.touch hT36 (fun _ _ h => h)
  have hwb6 := hwb3.touch (fun _ => hbk2) hT36
  have hq6 := hq5.touch hT6 (fun _ _ h => h)
  have hv6 : ∀ b, av = some b → w3.heap.size ≤ b ∧ b < w4.heap.size ∧ SN .u8 w6 b 0 L s0 := fun b hb => by
    obtain ⟨e1, e2, e3, e4⟩ := hav b hb
    exact ⟨e1, e2, e3.touch hT46 (fun _ _ h => h)⟩
  refine CC.seq ?_
  refine CC.region ?_
  refine RR.pv (pv_mv rfl) rfl ?_
  refine RR.pv (pv_mv rfl) rfl ?_
  refine RR.pv (pv_mv rfl) rfl ?_
  refine RR.call Try.func18 nm18 rfl rfl (zzTransform_any aw L s0 ba la sa0 bk n f w6 (by omega) (by omega) hawn (fun b0 hb0 => ?_) hsa6 hwa6 (by omega) hb6 hwb6 hf (by omega)) rfl ?_
  · obtain ⟨e1, e2, e3, e4⟩ := haw3 b0 hb0
    exact ⟨by omega, e3.touch hT36 (fun _ _ h => h), e4.touch (fun _ => by omega) hT36, by omega, by omega⟩
  rintro v7 w7 ⟨r, o, A, b2, c3, rfl, wx, hwx, hO, hT7⟩
  refine RR.pv (pv_mv rfl) rfl ?_
  refine RR.pv (pv_extr rfl rfl) rfl ?_
  refine RR.pv (pv_extr rfl rfl) rfl ?_
  refine RR.pv (pv_as rfl) rfl ?_
  refine RR.pv (pv_as rfl) rfl ?_
  refine RR.nil ?_
  have hn1 : 0 < n := by omega
  have hrn := hO.fst.1
  have holt := hO.olt
  obtain ⟨hper, hbad⟩ := Lf.turned hn1 hO.fst
  obtain ⟨hrows, hA⟩ := Lf.rows_of (G := fun i => f ((r + i) % n)) hper hbad (fun _ _ => rfl) hO.sa
  have hnew : ∀ b, w6.heap.size ≤ b ∨ (b ≠ ba ∧ b ≠ bk ∧ ¬ aw = some b) → b < w6.heap.size → ¬ (aw = some b ∨ b = ba ∨ b = bk) := fun b hb hlt h => by
    rcases hb with hb | ⟨e1, e2, e3⟩
    · omega
    · rcases h with h | h | h
      · exact e3 h
      · exact e1 h
      · exact e2 h
  have ho7 : SN .u8 w7 bo 0 n f := ho6.touch hT7 (fun i hi => hnew bo (.inr ⟨by omega, by omega, fun e => by have := (haw3 bo e).2.1; omega⟩) (by omega))
  have hq7 : SI .i32 w7 bq 0 la sa0 := hq6.touch hT7 (fun i hi => hnew bq (.inr ⟨by omega, by omega, fun e => by have := (haw3 bq e).2.1; omega⟩) (by omega))
  have hv7 : ∀ b, av = some b → SN .u8 w7 b 0 L s0 := fun b hb => by
    obtain ⟨e1, e2, e3⟩ := hv6 b hb
    exact e3.touch hT7 (fun i hi => hnew b (.inr ⟨by omega, by omega, fun e => by have := (haw3 b e).2.1; omega⟩) (by omega))
  have hTw7 : Touch (fun _ _ => False) w' w7 := hTw6.trans hT7 (fun _ _ _ h => h) (fun b o hb h => by
    rcases h with h | h | h
    · have := (haw3 b h).1; omega
    · omega
    · omega)
  have hsa7 := hO.rsa
  have hbk7 := hO.rbk
  have htw7 := hO.two
  have hrm7 := hO.room
  have horg : (fun k => (A k).toNat) o = (n - r) % n := by show (A o).toNat = _; rw [hO.org]; rfl
  have hfst := hO.fst
  clear hO hT7 hsa6 hwa6 hb6 hwb6 hq6 hv6 ho6 hwo6 hT36 hT46 hTw6 hT35 hq5 hwq5 hT6 hT5 hT4 hsa3 hwa3 haw3 hT13 hTw3 hTw2 hb3 hwb3 hT3 hT2 hT1 hsa2 hwa2 hav hat has hak hao haw hnew
  -- ranks and rows
  refine CC.seq ?_
  refine CC.region ?_
  refine RR.pv (pv_mv rfl) rfl ?_
  refine RR.call Try.func19 nm19 rfl rfl (rotationRanks_any bo n f w7 hn1 (by omega) ho7 hf) rfl (fun v8 w8 hp8 => ?_)
  obtain ⟨bR, rank, rfl, hR8, hRK, hrm, hbR1, hbR2, hT8⟩ := hp8
  refine RR.pv (pv_as rfl) rfl ?_
  refine RR.nil ?_
  refine CC.seq ?_
  refine CC.region ?_
  refine RR.pv (pv_mv rfl) rfl ?_
  refine RR.call Try.func20 nm20 rfl rfl (orderByRank_any bR n rank w8 hn1 (by omega) hR8 hrm) rfl (fun v9 w9 hp9 => ?_)
  obtain ⟨bW, rws, rfl, hW9, hpos, hbW1, hbW2, hT9⟩ := hp9
  refine RR.pv (pv_as rfl) rfl ?_
  refine RR.nil ?_
  have hT79 : Touch (fun _ _ => False) w7 w9 := hT8.trans hT9 (fun _ _ _ h => h) (fun _ _ _ h => h)
  have hTw9 : Touch (fun _ _ => False) w' w9 := hTw7.trans hT79 (fun _ _ _ h => h) (fun _ _ _ h => h)
  have hR9 := hR8.touch hT9 (fun _ _ h => h)
  have ho9 := ho7.touch hT79 (fun _ _ h => h)
  have hq9 := hq7.touch hT79 (fun _ _ h => h)
  have hv9 : ∀ b, av = some b → SN .u8 w9 b 0 L s0 := fun b hb => (hv7 b hb).touch hT79 (fun _ _ h => h)
  have hsa9 := hsa7.touch hT79 (fun _ _ h => h)
  have hbk9 := hbk7.touch hT79 (fun _ _ h => h)
  have htw9 := htw7.touch hT79 (fun _ _ h => h)
  have hrm9 : ∀ b0, aw = some b0 → SN .u8 w9 b0 0 L (roomAfter n L f s0) := fun b hb => (hrm7 b hb).touch hT79 (fun _ _ h => h)
  have h5 := l5_of (f := f) (a := fun k => (A k).toNat) hn1 hfst hRK hrows horg hpos
  clear hT8 hT9 hT79 hR8 ho7 hq7 hv7 hsa7 hbk7 htw7 hrm7 hTw7
  -- least
  refine CC.seq ?_
  refine CC.region ?_
  refine RR.pv (pv_as rfl) rfl ?_
  refine RR.nil ?_
  refine CC.seq ?_
  refine CC.seq ?_
  refine CC.region ?_
  refine RR.pv (pv_as rfl) rfl ?_
  refine RR.nil ?_
  refine CC.block ?_
  refine CC.loop (γ := Nat × Nat) (F := fun g => [(0, own aw L), (1, .slice (some ⟨ba, 0, none⟩) la la), (2, .slice (some ⟨bk, 0, none⟩) n n), (7, .int .i64 (n : Int)), (8, own av L), (9, .slice (some ⟨bq, 0, none⟩) la la), (10, .slice (some ⟨bo, 0, none⟩) n n), (11, .int .i64 (o : Int)), (12, .slice (some ⟨b2, 0, none⟩) (2 * n) c3), (13, .slice (some ⟨bR, 0, none⟩) n n), (14, .slice (some ⟨bW, 0, none⟩) n n), (15, .int .i64 (g.2 : Int)), (16, .int .i64 (g.1 : Int))])
    (I := fun g v => v = w9 ∧ 1 ≤ g.1 ∧ g.1 ≤ n ∧ g.2 < n ∧ ∀ q, q < g.1 → rank g.2 ≤ rank q) (μ := fun g => n - g.1) (1, 0)
    ⟨rfl, rfl, rfl, rfl, rfl, rfl, rfl, rfl, rfl, rfl, rfl, rfl, rfl, trivial⟩ ⟨rfl, Nat.le_refl _, by dsimp only; omega, hn1, fun q hq => by rw [show q = 0 from by dsimp only at hq; omega]; exact Nat.le_refl _⟩ ?_
  rintro ⟨p, lst⟩ w10 ⟨rfl, hp1, hp, hlst, hmin⟩
  dsimp only at hp1 hp hlst hmin ⊢
  by_cases hlt : p < n
  · refine CC.seq ?_
    refine CC.seq ?_
    refine CC.region ?_
    refine RR.pv (pv_mv rfl) rfl ?_
    refine RR.pv (pv_mv rfl) rfl ?_
    first | refine RR.pv (pv_lss_t rfl rfl (by omega)) rfl ?_ | refine RR.pv (pv_lss_f rfl rfl (by omega)) rfl ?_ | refine RR.pv (pv_lss rfl rfl) rfl ?_
    refine RR.nil ?_
    refine CC.cond_t rfl ?_
    by_cases hc : rank p < rank lst
    · refine CC.skip ?_
      refine CC.seq ?_
      refine CC.block ?_
      refine CC.seq ?_
      refine CC.regionQ (by decide +kernel) ?_
      refine RR.pv (pv_mv rfl) rfl ?_
      refine RR.pv (pv_mv rfl) rfl ?_
      first | refine RR.pv (pv_ixN rfl rfl st33 (by omega)) rfl ?_ | refine RR.pv (pv_ixZ rfl rfl st33 (by omega)) rfl ?_
      refine RR.pv (pv_ld rfl ct3 (hR9 p hlt)) rfl ?_
      refine RR.pv (pv_mv rfl) rfl ?_
      refine RR.pv (pv_mv rfl) rfl ?_
      first | refine RR.pv (pv_ixN rfl rfl st33 (by omega)) rfl ?_ | refine RR.pv (pv_ixZ rfl rfl st33 (by omega)) rfl ?_
      refine RR.pv (pv_ld rfl ct3 (hR9 lst hlst)) rfl ?_
      first | refine RR.pv (pv_lss_t rfl rfl (by omega)) rfl ?_ | refine RR.pv (pv_lss_f rfl rfl (by omega)) rfl ?_ | refine RR.pv (pv_lss rfl rfl) rfl ?_
      refine RR.nil ?_
      refine CC.cond_t rfl ?_
      refine CC.region ?_
      refine RR.pv (pv_mv rfl) rfl ?_
      refine RR.pv (pv_as rfl) rfl ?_
      refine RR.nil ?_
      refine CC.region ?_
      refine RR.pv (pv_mv rfl) rfl ?_
      first | refine RR.pv (pv_addN (n := 1) rfl rfl (by omega)) rfl ?_ | refine RR.pv (pv_add64 rfl rfl (by omega)) rfl ?_
      refine RR.pv (pv_as rfl) rfl ?_
      refine RR.nil ?_
      refine Nxt.go (p + 1, p) ⟨rfl, rfl, rfl, rfl, rfl, rfl, rfl, rfl, rfl, rfl, rfl, rfl, rfl, trivial⟩ ⟨rfl, by dsimp only; omega, hlt, hlt, fun q hq => ?_⟩ (by dsimp only; omega)
      dsimp only at hq ⊢
      by_cases e : q = p
      · rw [e]; exact Nat.le_refl _
      · have := hmin q (by omega); omega
    · refine CC.skip ?_
      refine CC.seq ?_
      refine CC.block ?_
      refine CC.seq ?_
      refine CC.regionQ (by decide +kernel) ?_
      refine RR.pv (pv_mv rfl) rfl ?_
      refine RR.pv (pv_mv rfl) rfl ?_
      first | refine RR.pv (pv_ixN rfl rfl st33 (by omega)) rfl ?_ | refine RR.pv (pv_ixZ rfl rfl st33 (by omega)) rfl ?_
      refine RR.pv (pv_ld rfl ct3 (hR9 p hlt)) rfl ?_
      refine RR.pv (pv_mv rfl) rfl ?_
      refine RR.pv (pv_mv rfl) rfl ?_
      first | refine RR.pv (pv_ixN rfl rfl st33 (by omega)) rfl ?_ | refine RR.pv (pv_ixZ rfl rfl st33 (by omega)) rfl ?_
      refine RR.pv (pv_ld rfl ct3 (hR9 lst hlst)) rfl ?_
      first | refine RR.pv (pv_lss_t rfl rfl (by omega)) rfl ?_ | refine RR.pv (pv_lss_f rfl rfl (by omega)) rfl ?_ | refine RR.pv (pv_lss rfl rfl) rfl ?_
      refine RR.nil ?_
      refine CC.cond_f rfl ?_
      refine CC.skip ?_
      refine CC.region ?_
      refine RR.pv (pv_mv rfl) rfl ?_
      first | refine RR.pv (pv_addN (n := 1) rfl rfl (by omega)) rfl ?_ | refine RR.pv (pv_add64 rfl rfl (by omega)) rfl ?_
      refine RR.pv (pv_as rfl) rfl ?_
      refine RR.nil ?_
      refine Nxt.go (p + 1, lst) ⟨rfl, rfl, rfl, rfl, rfl, rfl, rfl, rfl, rfl, rfl, rfl, rfl, rfl, trivial⟩ ⟨rfl, by dsimp only; omega, hlt, hlst, fun q hq => ?_⟩ (by dsimp only; omega)
      dsimp only at hq ⊢
      by_cases e : q = p
      · rw [e]; omega
      · exact hmin q (by omega)
  have hpn : p = n := by omega
  rw [hpn] at hmin
  refine CC.seq ?_
  refine CC.seq ?_
  refine CC.region ?_
  refine RR.pv (pv_mv rfl) rfl ?_
  refine RR.pv (pv_mv rfl) rfl ?_
  first | refine RR.pv (pv_lss_t rfl rfl (by omega)) rfl ?_ | refine RR.pv (pv_lss_f rfl rfl (by omega)) rfl ?_ | refine RR.pv (pv_lss rfl rfl) rfl ?_
  refine RR.nil ?_
  refine CC.cond_f rfl ?_
  refine CC.exit ?_
  have hleast := h5.least lst hlst hmin
  -- the last column
  refine CC.seq ?_
  refine CC.seq ?_
  refine CC.region ?_
  refine RR.pv (pv_as rfl) rfl ?_
  refine RR.nil ?_
  refine CC.block ?_
  refine CC.loop (γ := Nat) (F := fun k => [(0, own aw L), (1, .slice (some ⟨ba, 0, none⟩) la la), (2, .slice (some ⟨bk, 0, none⟩) n n), (7, .int .i64 (n : Int)), (8, own av L), (9, .slice (some ⟨bq, 0, none⟩) la la), (10, .slice (some ⟨bo, 0, none⟩) n n), (11, .int .i64 (o : Int)), (12, .slice (some ⟨b2, 0, none⟩) (2 * n) c3), (13, .slice (some ⟨bR, 0, none⟩) n n), (14, .slice (some ⟨bW, 0, none⟩) n n), (15, .int .i64 (lst : Int)), (17, .int .i64 (k : Int))])
    (I := fun k v => v = w10 ∧ k ≤ n) (μ := fun k => n - k) 0
    ⟨rfl, rfl, rfl, rfl, rfl, rfl, rfl, rfl, rfl, rfl, rfl, rfl, rfl, trivial⟩ ⟨rfl, Nat.zero_le _⟩ ?_
  rintro k w11 ⟨rfl, hk⟩
  by_cases hlt : k < n
  · have hrk := h5.rlt k hlt
    have hcol := h5.col k hlt
    refine CC.seq ?_
    refine CC.seq ?_
    refine CC.region ?_
    refine RR.pv (pv_mv rfl) rfl ?_
    refine RR.pv (pv_mv rfl) rfl ?_
    first | refine RR.pv (pv_lss_t rfl rfl (by omega)) rfl ?_ | refine RR.pv (pv_lss_f rfl rfl (by omega)) rfl ?_ | refine RR.pv (pv_lss rfl rfl) rfl ?_
    refine RR.nil ?_
    refine CC.cond_t rfl ?_
    refine CC.skip ?_
    refine CC.seq ?_
    refine CC.block ?_
    refine CC.seq ?_
    refine CC.region ?_
    refine RR.pv (pv_mv rfl) rfl ?_
    refine RR.pv (pv_mv rfl) rfl ?_
    first | refine RR.pv (pv_ixN rfl rfl st33 (by omega)) rfl ?_ | refine RR.pv (pv_ixZ rfl rfl st33 (by omega)) rfl ?_
    refine RR.pv (pv_ld rfl ct3 (hW9 k hlt)) rfl ?_
    refine RR.pv (pv_sub64 rfl rfl (by omega)) rfl ?_
    refine RR.pv (pv_as rfl) rfl ?_
    refine RR.nil ?_
    refine CC.seqCut (γ := Unit) (fun _ => [(0, own aw L), (1, .slice (some ⟨ba, 0, none⟩) la la), (2, .slice (some ⟨bk, 0, none⟩) n n), (7, .int .i64 (n : Int)), (8, own av L), (9, .slice (some ⟨bq, 0, none⟩) la la), (10, .slice (some ⟨bo, 0, none⟩) n n), (11, .int .i64 (o : Int)), (12, .slice (some ⟨b2, 0, none⟩) (2 * n) c3), (13, .slice (some ⟨bR, 0, none⟩) n n), (14, .slice (some ⟨bW, 0, none⟩) n n), (15, .int .i64 (lst : Int)), (17, .int .i64 (k : Int)), (18, .int .i64 (((if rws k = 0 then n - 1 else rws k - 1) : Nat) : Int))]) (fun _ w' => w' = w11) ?_ ?_
    · by_cases hz : rws k = 0
      · refine CC.seq ?_
        refine CC.region ?_
        refine RR.pv (pv_mv rfl) rfl ?_
        first | refine RR.pv (pv_lss_t rfl rfl (by omega)) rfl ?_ | refine RR.pv (pv_lss_f rfl rfl (by omega)) rfl ?_ | refine RR.pv (pv_lss rfl rfl) rfl ?_
        refine RR.nil ?_
        refine CC.cond_t rfl ?_
        refine CC.region ?_
        refine RR.pv (pv_mv rfl) rfl ?_
        first | refine RR.pv (pv_subN (n := 1) rfl rfl (by omega)) rfl ?_ | refine RR.pv (pv_sub64 rfl rfl (by omega)) rfl ?_
        refine RR.pv (pv_as rfl) rfl ?_
        refine RR.nil ?_
        refine CutQ.go () ⟨rfl, rfl, rfl, rfl, rfl, rfl, rfl, rfl, rfl, rfl, rfl, rfl, rfl, ?_, trivial⟩ rfl
        rw [if_pos hz]; rfl
      · refine CC.seq ?_
        refine CC.region ?_
        refine RR.pv (pv_mv rfl) rfl ?_
        first | refine RR.pv (pv_lss_t rfl rfl (by omega)) rfl ?_ | refine RR.pv (pv_lss_f rfl rfl (by omega)) rfl ?_ | refine RR.pv (pv_lss rfl rfl) rfl ?_
        refine RR.nil ?_
        refine CC.cond_f rfl ?_
        refine CC.skip ?_
        refine CutQ.go () ⟨rfl, rfl, rfl, rfl, rfl, rfl, rfl, rfl, rfl, rfl, rfl, rfl, rfl, ?_, trivial⟩ rfl
        rw [if_neg hz]
        show some _ = some _
        congr 2
        omega
    rintro _ w12 rfl
    have hql : (if rws k = 0 then n - 1 else rws k - 1) < n := by split <;> omega
    generalize (if rws k = 0 then n - 1 else rws k - 1) = q at hql hcol
    have hcell : w12.cell? ⟨bk, 0 + k, none⟩ = some (.int .u8 ((f q : Nat) : Int)) := by rw [← hcol]; exact hbk9 k hlt
    refine CC.seq ?_
    refine CC.regionQ (by decide +kernel) ?_
    refine RR.pv (pv_mv rfl) rfl ?_
    refine RR.pv (pv_mv rfl) rfl ?_
    first | refine RR.pv (pv_ixN rfl rfl st22 (by omega)) rfl ?_ | refine RR.pv (pv_ixZ rfl rfl st22 (by omega)) rfl ?_
    refine RR.pv (pv_ld rfl ct5 (hcell)) rfl ?_
    refine RR.pv (pv_mv rfl) rfl ?_
    refine RR.pv (pv_mv rfl) rfl ?_
    first | refine RR.pv (pv_ixN rfl rfl st22 (by omega)) rfl ?_ | refine RR.pv (pv_ixZ rfl rfl st22 (by omega)) rfl ?_
    refine RR.pv (pv_ld rfl ct5 (ho9 q hql)) rfl ?_
    first | refine RR.pv (pv_neq_t rfl rfl (by omega)) rfl ?_ | refine RR.pv (pv_neq_f rfl rfl (by omega)) rfl ?_ | refine RR.pv (pv_neq rfl rfl) rfl ?_
    refine RR.nil ?_
    refine CC.cond_f rfl ?_
    refine CC.skip ?_
    refine CC.region ?_
    refine RR.pv (pv_mv rfl) rfl ?_
    first | refine RR.pv (pv_addN (n := 1) rfl rfl (by omega)) rfl ?_ | refine RR.pv (pv_add64 rfl rfl (by omega)) rfl ?_
    refine RR.pv (pv_as rfl) rfl ?_
    refine RR.nil ?_
    exact Nxt.go (k + 1) ⟨rfl, rfl, rfl, rfl, rfl, rfl, rfl, rfl, rfl, rfl, rfl, rfl, rfl, trivial⟩ ⟨rfl, hlt⟩ (by omega)
  refine CC.seq ?_
  refine CC.seq ?_
  refine CC.region ?_
  refine RR.pv (pv_mv rfl) rfl ?_
  refine RR.pv (pv_mv rfl) rfl ?_
  first | refine RR.pv (pv_lss_t rfl rfl (by omega)) rfl ?_ | refine RR.pv (pv_lss_f rfl rfl (by omega)) rfl ?_ | refine RR.pv (pv_lss rfl rfl) rfl ?_
  refine RR.nil ?_
  refine CC.cond_f rfl ?_
  refine CC.exit ?_
  refine CC.seq ?_
  refine CC.seq ?_
  refine CC.region ?_
  refine RR.pv (pv_mv rfl) rfl ?_
  first | refine RR.pv (pv_lss_t rfl rfl (by omega)) rfl ?_ | refine RR.pv (pv_lss_f rfl rfl (by omega)) rfl ?_ | refine RR.pv (pv_lss rfl rfl) rfl ?_
  refine RR.pv (pv_mv rfl) rfl ?_
  first | refine RR.gy rfl rfl (pv_mv rfl) rfl ?_ | refine RR.gn rfl rfl rfl rfl ?_
  first | refine RR.gy rfl rfl (pv_mv rfl) rfl ?_ | refine RR.gn rfl rfl rfl rfl ?_
  first | refine RR.gy rfl rfl (pv_geq_t rfl rfl (by omega)) rfl ?_ | refine RR.gy rfl rfl (pv_geq_f rfl rfl (by omega)) rfl ?_ | refine RR.gy rfl rfl (pv_geq rfl rfl) rfl ?_ | refine RR.gn rfl rfl rfl rfl ?_
  first | refine RR.pv (pv_pick_t rfl rfl) rfl ?_ | refine RR.pv (pv_pick_f rfl rfl) rfl ?_
  refine RR.nil ?_
  refine CC.cond_f rfl ?_
  -- sa[:n]
  refine CC.skip ?_
  refine CC.seq ?_
  refine CC.region ?_
  refine RR.pv (pv_mv rfl) rfl ?_
  refine RR.mk36 rfl (by omega) rfl ?_
  have ht13 := SB.new0 w11 4 n
  have wt13 := WR.new w11 (Array.replicate n (.bool false)) 4 0 n
  have hT13 : Touch (fun _ _ => False) w11 (w11.alloc (.cells (Array.replicate n (.bool false)) 4)) := Touch.alloc _ _ _
  generalize w11.alloc (.cells (Array.replicate n (.bool false)) 4) = w13 at ht13 wt13 hT13 ⊢
  obtain ⟨bt, hbt⟩ : ∃ bt, w11.heap.size = bt := ⟨_, rfl⟩
  rw [hbt] at ht13 wt13 ⊢
  refine RR.pv (pv_as rfl) rfl ?_
  refine RR.nil ?_
  obtain ⟨lv, hlv0, hlvS⟩ : ∃ lv : Nat → Int, lv 0 = -1 ∧ ∀ k, lv (k + 1) = ((rank ((r + (A k).toNat) % n) : Nat) : Int) := ⟨fun k => if k = 0 then -1 else ((rank ((r + (A (k - 1)).toNat) % n) : Nat) : Int), by simp, by simp⟩
  have hbR : bR < w11.heap.size := hR9.lt hn1
  have hba9 : ba < w11.heap.size := hsa9.lt (by omega)
  refine CC.seq ?_
  refine CC.region ?_
  refine RR.pv (pv_as rfl) rfl ?_
  refine RR.nil ?_
  refine CC.seq ?_
  refine CC.seq ?_
  refine CC.region ?_
  refine RR.pv (pv_as rfl) rfl ?_
  refine RR.nil ?_
  refine CC.block ?_
  refine CC.loop (γ := Nat × (Nat → Bool)) (F := fun g => [(0, own aw L), (1, .slice (some ⟨ba, 0, none⟩) la la), (2, .slice (some ⟨bk, 0, none⟩) n n), (7, .int .i64 (n : Int)), (8, own av L), (9, .slice (some ⟨bq, 0, none⟩) la la), (10, .slice (some ⟨bo, 0, none⟩) n n), (11, .int .i64 (o : Int)), (12, .slice (some ⟨b2, 0, none⟩) (2 * n) c3), (13, .slice (some ⟨bR, 0, none⟩) n n), (14, .slice (some ⟨bW, 0, none⟩) n n), (15, .int .i64 (lst : Int)), (19, .slice (some ⟨bt, 0, none⟩) n n), (20, .int .i64 (lv g.1)), (21, .int .i64 (g.1 : Int))])
    (I := fun g v => g.1 ≤ n ∧ SB v bt 0 n g.2 ∧ WR v bt 0 n ∧ (∀ x, x < n → g.2 x = true → ∃ k, k < g.1 ∧ (A k).toNat = x) ∧ SI .i32 v ba 0 la (fun i => if i < n then A i else sa0 i) ∧ SN .i64 v bR 0 n rank ∧ Touch (fun b o => b = bt) w13 v) (μ := fun g => n - g.1) (0, fun _ => false)
    ⟨rfl, rfl, rfl, rfl, rfl, rfl, rfl, rfl, rfl, rfl, rfl, rfl, rfl, by dsimp only; rw [hlv0]; rfl, rfl, trivial⟩ ⟨Nat.zero_le _, ht13, wt13, (fun x _ h => Bool.noConfusion h), hsa9.touch hT13 (fun _ _ h => h), hR9.touch hT13 (fun _ _ h => h), Touch.refl _ _⟩ ?_
  rintro ⟨k, tk⟩ w14 ⟨hk, ht14, wt14, htk, hsa14, hR14, hT14⟩
  dsimp only at hk ht14 htk ⊢
  by_cases hlt : k < n
  · have hAk := hA k hlt
    have hak : (A k).toNat < n := h5.alt k hlt
    have hlk := hleast _ hak
    have hcell : w14.cell? ⟨ba, 0 + k, none⟩ = some (.int .i32 (((A k).toNat : Nat) : Int)) := by
      have := hsa14 k (by omega)
      dsimp only at this
      rw [if_pos hlt] at this
      rw [← hAk]; exact this
    have hntk : tk ((A k).toNat) = false := by
      cases hc : tk ((A k).toNat) with
      | false => rfl
      | true =>
        obtain ⟨k', h3, h4⟩ := htk _ hak hc
        have := h5.ainj k' k (by omega) hlt h4
        omega
    have hctk : w14.cell? ⟨bt, 0 + (A k).toNat, none⟩ = some (.bool false) := by rw [← hntk]; exact ht14 _ hak
    have hlvk : lv k ≤ ((rank ((r + (A k).toNat) % n) : Nat) : Int) := by
      rcases Nat.eq_zero_or_pos k with h3 | h3
      · rw [h3, hlv0]; omega
      · rw [show k = k - 1 + 1 from by omega, hlvS]
        have := h5.ord (k - 1) (k - 1 + 1) (by omega) (by omega)
        omega
    have hlvk1 := hlvS k
    have horgk : k = o → rank ((r + (A k).toNat) % n) = rank 0 := fun e => by rw [e]; exact h5.org
    have hmodl : (lst + (A k).toNat) % n = if n ≤ lst + (A k).toNat then lst + (A k).toNat - n else lst + (A k).toNat := by
      split
      · rename_i h3; rw [Nat.mod_eq_sub_mod h3, Nat.mod_eq_of_lt (by omega)]
      · rename_i h3; rw [Nat.mod_eq_of_lt (by omega)]
    have htk' : ∀ q, (A k).toNat = q → ∀ x, x < n → upd tk q true x = true → ∃ k', k' < k + 1 ∧ (A k').toNat = x := fun q hq x hx h3 => by
      by_cases e : x = q
      · exact ⟨k, by omega, by rw [hq, e]⟩
      · rw [upd_ne _ _ e] at h3
        obtain ⟨k', h4, h6⟩ := htk x hx h3
        exact ⟨k', by omega, h6⟩
    rw [← hlk, hmodl] at hlvk hlvk1 horgk
    clear hmodl hlk
    have htk'' := htk' _ rfl
    clear htk'
    generalize (A k).toNat = q at hak hcell hntk hctk hlvk hlvk1 horgk htk''
    refine CC.seq ?_
    refine CC.seq ?_
    refine CC.region ?_
    refine RR.pv (pv_mv rfl) rfl ?_
    refine RR.pv (pv_mv rfl) rfl ?_
    first | refine RR.pv (pv_lss_t rfl rfl (by omega)) rfl ?_ | refine RR.pv (pv_lss_f rfl rfl (by omega)) rfl ?_ | refine RR.pv (pv_lss rfl rfl) rfl ?_
    refine RR.nil ?_
    refine CC.cond_t rfl ?_
    refine CC.skip ?_
    refine CC.seq ?_
    refine CC.block ?_
    refine CC.seq ?_
    refine CC.region ?_
    refine RR.pv (pv_mv rfl) rfl ?_
    refine RR.pv (pv_mv rfl) rfl ?_
    first | refine RR.pv (pv_ixN rfl rfl st28 (by omega)) rfl ?_ | refine RR.pv (pv_ixZ rfl rfl st28 (by omega)) rfl ?_
    refine RR.pv (pv_ld rfl ct21 (hcell)) rfl ?_
    refine RR.pv (pv_c21_3 rfl (by omega)) rfl ?_
    refine RR.pv (pv_as rfl) rfl ?_
    refine RR.nil ?_
    refine CC.seq ?_
    refine CC.seq ?_
    refine CC.region ?_
    refine RR.pv (pv_mv rfl) rfl ?_
    first | refine RR.pv (pv_lss_t rfl rfl (by omega)) rfl ?_ | refine RR.pv (pv_lss_f rfl rfl (by omega)) rfl ?_ | refine RR.pv (pv_lss rfl rfl) rfl ?_
    refine RR.pv (pv_mv rfl) rfl ?_
    first | refine RR.gy rfl rfl (pv_mv rfl) rfl ?_ | refine RR.gn rfl rfl rfl rfl ?_
    first | refine RR.gy rfl rfl (pv_mv rfl) rfl ?_ | refine RR.gn rfl rfl rfl rfl ?_
    first | refine RR.gy rfl rfl (pv_geq_t rfl rfl (by omega)) rfl ?_ | refine RR.gy rfl rfl (pv_geq_f rfl rfl (by omega)) rfl ?_ | refine RR.gy rfl rfl (pv_geq rfl rfl) rfl ?_ | refine RR.gn rfl rfl rfl rfl ?_
    first | refine RR.pv (pv_pick_t rfl rfl) rfl ?_ | refine RR.pv (pv_pick_f rfl rfl) rfl ?_
    refine RR.pv (pv_mv rfl) rfl ?_
    first | refine RR.gy rfl rfl (pv_mv rfl) rfl ?_ | refine RR.gn rfl rfl rfl rfl ?_
    first | refine RR.gy rfl rfl (pv_mv rfl) rfl ?_ | refine RR.gn rfl rfl rfl rfl ?_
    first | refine RR.gy rfl rfl (pv_ixN rfl rfl st36 (by omega)) rfl ?_ | refine RR.gy rfl rfl (pv_ixZ rfl rfl st36 (by omega)) rfl ?_ | refine RR.gn rfl rfl rfl rfl ?_
    first | refine RR.gy rfl rfl (pv_ld rfl ct4 (hctk)) rfl ?_ | refine RR.gn rfl rfl rfl rfl ?_
    first | refine RR.pv (pv_pick_t rfl rfl) rfl ?_ | refine RR.pv (pv_pick_f rfl rfl) rfl ?_
    refine RR.nil ?_
    refine CC.cond_f rfl ?_
    refine CC.skip ?_
    refine CC.seq ?_
    refine CC.region ?_
    refine RR.pv (pv_mv rfl) rfl ?_
    refine RR.pv (pv_mv rfl) rfl ?_
    first | refine RR.pv (pv_ixN rfl rfl st36 (by omega)) rfl ?_ | refine RR.pv (pv_ixZ rfl rfl st36 (by omega)) rfl ?_
    refine RR.st rfl rfl ct4 OneV.b (ht14 q hak) (wt14 _ hak) ?_
    have ht15 := ht14.set hak true
    have wt15 := wt14.set (ad := ⟨bt, 0 + q, none⟩) (v := .bool true)
    have hsa15 := hsa14.set_ne (b' := bt) (o' := 0 + q) (v := .bool true) (fun i hi e => by have := e.1; omega)
    have hR15 := hR14.set_ne (b' := bt) (o' := 0 + q) (v := .bool true) (fun i hi e => by have := e.1; omega)
    have hT15 : Touch (fun b o => b = bt) w13 (w14.setCell ⟨bt, 0 + q, none⟩ (.bool true)) := hT14.trans (Touch.setCell _ _ _ _) (fun _ _ _ h => h) (fun _ _ _ h => h.1)
    generalize w14.setCell _ _ = w15 at ht15 wt15 hsa15 hR15 hT15 ⊢
    refine RR.nil ?_
    refine CC.seq ?_
    refine CC.region ?_
    refine RR.pv (pv_mv rfl) rfl ?_
    refine RR.pv (pv_mv rfl) rfl ?_
    first | refine RR.pv (pv_addN rfl rfl (by omega)) rfl ?_ | refine RR.pv (pv_add64 rfl rfl (by omega)) rfl ?_
    refine RR.pv (pv_as rfl) rfl ?_
    refine RR.nil ?_
    refine CC.seqCut (γ := Unit) (fun _ => [(0, own aw L), (1, .slice (some ⟨ba, 0, none⟩) la la), (2, .slice (some ⟨bk, 0, none⟩) n n), (7, .int .i64 (n : Int)), (8, own av L), (9, .slice (some ⟨bq, 0, none⟩) la la), (10, .slice (some ⟨bo, 0, none⟩) n n), (11, .int .i64 (o : Int)), (12, .slice (some ⟨b2, 0, none⟩) (2 * n) c3), (13, .slice (some ⟨bR, 0, none⟩) n n), (14, .slice (some ⟨bW, 0, none⟩) n n), (15, .int .i64 (lst : Int)), (19, .slice (some ⟨bt, 0, none⟩) n n), (20, .int .i64 (lv k)), (21, .int .i64 (k : Int)), (23, .int .i64 (((if n ≤ lst + q then lst + q - n else lst + q) : Nat) : Int))]) (fun _ w' => w' = w15) ?_ ?_
    · by_cases hz : n ≤ lst + q
      · refine CC.seq ?_
        refine CC.region ?_
        refine RR.pv (pv_mv rfl) rfl ?_
        refine RR.pv (pv_mv rfl) rfl ?_
        first | refine RR.pv (pv_geq_t rfl rfl (by omega)) rfl ?_ | refine RR.pv (pv_geq_f rfl rfl (by omega)) rfl ?_ | refine RR.pv (pv_geq rfl rfl) rfl ?_
        refine RR.nil ?_
        refine CC.cond_t rfl ?_
        refine CC.region ?_
        refine RR.pv (pv_mv rfl) rfl ?_
        refine RR.pv (pv_mv rfl) rfl ?_
        first | refine RR.pv (pv_subN rfl rfl (by omega)) rfl ?_ | refine RR.pv (pv_sub64 rfl rfl (by omega)) rfl ?_
        refine RR.pv (pv_as rfl) rfl ?_
        refine RR.nil ?_
        refine CutQ.go () ⟨rfl, rfl, rfl, rfl, rfl, rfl, rfl, rfl, rfl, rfl, rfl, rfl, rfl, rfl, rfl, ?_, trivial⟩ rfl
        rw [if_pos hz]; rfl
      · refine CC.seq ?_
        refine CC.region ?_
        refine RR.pv (pv_mv rfl) rfl ?_
        refine RR.pv (pv_mv rfl) rfl ?_
        first | refine RR.pv (pv_geq_t rfl rfl (by omega)) rfl ?_ | refine RR.pv (pv_geq_f rfl rfl (by omega)) rfl ?_ | refine RR.pv (pv_geq rfl rfl) rfl ?_
        refine RR.nil ?_
        refine CC.cond_f rfl ?_
        refine CC.skip ?_
        refine CutQ.go () ⟨rfl, rfl, rfl, rfl, rfl, rfl, rfl, rfl, rfl, rfl, rfl, rfl, rfl, rfl, rfl, ?_, trivial⟩ rfl
        rw [if_neg hz]; rfl
    rintro _ w16 rfl
    have hpl : (if n ≤ lst + q then lst + q - n else lst + q) < n := by split <;> omega
    generalize (if n ≤ lst + q then lst + q - n else lst + q) = p' at hpl hlvk hlvk1 horgk
    refine CC.seq ?_
    refine CC.seq ?_
    refine CC.region ?_
    refine RR.pv (pv_mv rfl) rfl ?_
    refine RR.pv (pv_mv rfl) rfl ?_
    first | refine RR.pv (pv_ixN rfl rfl st33 (by omega)) rfl ?_ | refine RR.pv (pv_ixZ rfl rfl st33 (by omega)) rfl ?_
    refine RR.pv (pv_ld rfl ct3 (hR15 p' hpl)) rfl ?_
    refine RR.pv (pv_mv rfl) rfl ?_
    first | refine RR.pv (pv_lss_t rfl rfl (by omega)) rfl ?_ | refine RR.pv (pv_lss_f rfl rfl (by omega)) rfl ?_ | refine RR.pv (pv_lss rfl rfl) rfl ?_
    refine RR.nil ?_
    refine CC.cond_f rfl ?_
    refine CC.skip ?_
    refine CC.seq ?_
    refine CC.region ?_
    refine RR.pv (pv_mv rfl) rfl ?_
    refine RR.pv (pv_mv rfl) rfl ?_
    first | refine RR.pv (pv_ixN rfl rfl st33 (by omega)) rfl ?_ | refine RR.pv (pv_ixZ rfl rfl st33 (by omega)) rfl ?_
    refine RR.pv (pv_ld rfl ct3 (hR15 p' hpl)) rfl ?_
    refine RR.pv (pv_as rfl) rfl ?_
    refine RR.nil ?_
    by_cases hko : k = o
    · have hro := horgk hko
      refine CC.seq ?_
      refine CC.regionQ (by decide +kernel) ?_
      refine RR.pv (pv_mv rfl) rfl ?_
      refine RR.pv (pv_mv rfl) rfl ?_
      first | refine RR.pv (pv_eql_t rfl rfl (by omega)) rfl ?_ | refine RR.pv (pv_eql_f rfl rfl (by omega)) rfl ?_ | refine RR.pv (pv_eql rfl rfl) rfl ?_
      refine RR.pv (pv_mv rfl) rfl ?_
      first | refine RR.gy rfl rfl (pv_mv rfl) rfl ?_ | refine RR.gn rfl rfl rfl rfl ?_
      first | refine RR.gy rfl rfl (pv_mv rfl) rfl ?_ | refine RR.gn rfl rfl rfl rfl ?_
      first | refine RR.gy rfl rfl (pv_ixN rfl rfl st33 (by omega)) rfl ?_ | refine RR.gy rfl rfl (pv_ixZ rfl rfl st33 (by omega)) rfl ?_ | refine RR.gn rfl rfl rfl rfl ?_
      first | refine RR.gy rfl rfl (pv_ld rfl ct3 (hR15 p' hpl)) rfl ?_ | refine RR.gn rfl rfl rfl rfl ?_
      first | refine RR.gy rfl rfl (pv_mv rfl) rfl ?_ | refine RR.gn rfl rfl rfl rfl ?_
      first | refine RR.gy rfl rfl (pv_ixN (i := 0) rfl rfl st33 (by omega)) rfl ?_ | refine RR.gy rfl rfl (pv_ixZ rfl rfl st33 (by omega)) rfl ?_ | refine RR.gn rfl rfl rfl rfl ?_
      first | refine RR.gy rfl rfl (pv_ld rfl ct3 (hR15 0 hn1)) rfl ?_ | refine RR.gn rfl rfl rfl rfl ?_
      first | refine RR.gy rfl rfl (pv_neq_t rfl rfl (by omega)) rfl ?_ | refine RR.gy rfl rfl (pv_neq_f rfl rfl (by omega)) rfl ?_ | refine RR.gy rfl rfl (pv_neq rfl rfl) rfl ?_ | refine RR.gn rfl rfl rfl rfl ?_
      first | refine RR.pv (pv_pick_t rfl rfl) rfl ?_ | refine RR.pv (pv_pick_f rfl rfl) rfl ?_
      refine RR.nil ?_
      refine CC.cond_f rfl ?_
      refine CC.skip ?_
      refine CC.region ?_
      refine RR.pv (pv_mv rfl) rfl ?_
      first | refine RR.pv (pv_addN (n := 1) rfl rfl (by omega)) rfl ?_ | refine RR.pv (pv_add64 rfl rfl (by omega)) rfl ?_
      refine RR.pv (pv_as rfl) rfl ?_
      refine RR.nil ?_
      exact Nxt.go (k + 1, upd tk q true) ⟨rfl, rfl, rfl, rfl, rfl, rfl, rfl, rfl, rfl, rfl, rfl, rfl, rfl, by dsimp only; rw [hlvk1]; rfl, rfl, trivial⟩ ⟨hlt, ht15, wt15, htk'', hsa15, hR15, hT15⟩ (by dsimp only; omega)
    · refine CC.seq ?_
      refine CC.regionQ (by decide +kernel) ?_
      refine RR.pv (pv_mv rfl) rfl ?_
      refine RR.pv (pv_mv rfl) rfl ?_
      first | refine RR.pv (pv_eql_t rfl rfl (by omega)) rfl ?_ | refine RR.pv (pv_eql_f rfl rfl (by omega)) rfl ?_ | refine RR.pv (pv_eql rfl rfl) rfl ?_
      refine RR.pv (pv_mv rfl) rfl ?_
      first | refine RR.gy rfl rfl (pv_mv rfl) rfl ?_ | refine RR.gn rfl rfl rfl rfl ?_
      first | refine RR.gy rfl rfl (pv_mv rfl) rfl ?_ | refine RR.gn rfl rfl rfl rfl ?_
      first | refine RR.gy rfl rfl (pv_ixN rfl rfl st33 (by omega)) rfl ?_ | refine RR.gy rfl rfl (pv_ixZ rfl rfl st33 (by omega)) rfl ?_ | refine RR.gn rfl rfl rfl rfl ?_
      first | refine RR.gy rfl rfl (pv_ld rfl ct3 (HOLE)) rfl ?_ | refine RR.gn rfl rfl rfl rfl ?_
      first | refine RR.gy rfl rfl (pv_mv rfl) rfl ?_ | refine RR.gn rfl rfl rfl rfl ?_
      first | refine RR.gy rfl rfl (pv_ixN (i := 0) rfl rfl st33 (by omega)) rfl ?_ | refine RR.gy rfl rfl (pv_ixZ rfl rfl st33 (by omega)) rfl ?_ | refine RR.gn rfl rfl rfl rfl ?_
      first | refine RR.gy rfl rfl (pv_ld rfl ct3 (HOLE)) rfl ?_ | refine RR.gn rfl rfl rfl rfl ?_
      first | refine RR.gy rfl rfl (pv_neq_t rfl rfl (by omega)) rfl ?_ | refine RR.gy rfl rfl (pv_neq_f rfl rfl (by omega)) rfl ?_ | refine RR.gy rfl rfl (pv_neq rfl rfl) rfl ?_ | refine RR.gn rfl rfl rfl rfl ?_
      first | refine RR.pv (pv_pick_t rfl rfl) rfl ?_ | refine RR.pv (pv_pick_f rfl rfl) rfl ?_
      refine RR.nil ?_
      refine CC.cond_f rfl ?_
      refine CC.skip ?_
      refine CC.region ?_
      refine RR.pv (pv_mv rfl) rfl ?_
      first | refine RR.pv (pv_addN (n := 1) rfl rfl (by omega)) rfl ?_ | refine RR.pv (pv_add64 rfl rfl (by omega)) rfl ?_
      refine RR.pv (pv_as rfl) rfl ?_
      refine RR.nil ?_
      exact Nxt.go (k + 1, upd tk q true) ⟨rfl, rfl, rfl, rfl, rfl, rfl, rfl, rfl, rfl, rfl, rfl, rfl, rfl, by dsimp only; rw [hlvk1]; rfl, rfl, trivial⟩ ⟨hlt, ht15, wt15, htk'', hsa15, hR15, hT15⟩ (by dsimp only; omega)
  have hkn : k = n := by omega
  refine CC.seq ?_
  refine CC.seq ?_
  refine CC.region ?_
  refine RR.pv (pv_mv rfl) rfl ?_
  refine RR.pv (pv_mv rfl) rfl ?_
  first | refine RR.pv (pv_lss_t rfl rfl (by omega)) rfl ?_ | refine RR.pv (pv_lss_f rfl rfl (by omega)) rfl ?_ | refine RR.pv (pv_lss rfl rfl) rfl ?_
  refine RR.nil ?_
  refine CC.cond_f rfl ?_
  refine CC.exit ?_
  have hT914 : Touch (fun _ _ => False) w11 w14 := hT13.trans hT14 (fun _ _ _ h => h) (fun b o hb h => by omega)
  have hTw14 : Touch (fun _ _ => False) w' w14 := hTw9.trans hT914 (fun _ _ _ h => h) (fun _ _ _ h => h)
  have hq14 := hq9.touch hT914 (fun _ _ h => h)
  have ho14 := ho9.touch hT914 (fun _ _ h => h)
  have htw14 := htw9.touch hT914 (fun _ _ h => h)
  have hv14 : ∀ b, av = some b → SN .u8 w14 b 0 L s0 := fun b hb => (hv9 b hb).touch hT914 (fun _ _ h => h)
  have hrm14 : ∀ b0, aw = some b0 → SN .u8 w14 b0 0 L (roomAfter n L f s0) := fun b hb => (hrm9 b hb).touch hT914 (fun _ _ h => h)
  -- sa past n
  refine CC.seq ?_
  refine CC.seq ?_
  refine CC.region ?_
  refine RR.pv (pv_mv rfl) rfl ?_
  refine RR.pv (pv_as rfl) rfl ?_
  refine RR.nil ?_
  refine CC.block ?_
  refine CC.loop (γ := Nat) (F := fun i => [(0, own aw L), (1, .slice (some ⟨ba, 0, none⟩) la la), (2, .slice (some ⟨bk, 0, none⟩) n n), (7, .int .i64 (n : Int)), (8, own av L), (9, .slice (some ⟨bq, 0, none⟩) la la), (10, .slice (some ⟨bo, 0, none⟩) n n), (11, .int .i64 (o : Int)), (12, .slice (some ⟨b2, 0, none⟩) (2 * n) c3), (13, .slice (some ⟨bR, 0, none⟩) n n), (14, .slice (some ⟨bW, 0, none⟩) n n), (24, .int .i64 (i : Int))])
    (I := fun i v => v = w14 ∧ n ≤ i ∧ i ≤ la) (μ := fun i => la - i) n
    ⟨rfl, rfl, rfl, rfl, rfl, rfl, rfl, rfl, rfl, rfl, rfl, rfl, trivial⟩ ⟨rfl, Nat.le_refl _, by omega⟩ ?_
  rintro i w15 ⟨rfl, hi1, hi⟩
  by_cases hlt : i < la
  · have hcell : w15.cell? ⟨ba, 0 + i, none⟩ = some (.int .i32 (sa0 i)) := by
      have := hsa14 i hlt
      dsimp only at this
      rw [if_neg (by omega)] at this; exact this
    refine CC.seq ?_
    refine CC.seq ?_
    refine CC.region ?_
    refine RR.pv (pv_mv rfl) rfl ?_
    refine RR.pv (pv_mv rfl) rfl ?_
    refine RR.pv (pv_len rfl st28) rfl ?_
    first | refine RR.pv (pv_lss_t rfl rfl (by omega)) rfl ?_ | refine RR.pv (pv_lss_f rfl rfl (by omega)) rfl ?_ | refine RR.pv (pv_lss rfl rfl) rfl ?_
    refine RR.nil ?_
    refine CC.cond_t rfl ?_
    refine CC.skip ?_
    refine CC.seq ?_
    refine CC.block ?_
    refine CC.seq ?_
    refine CC.regionQ (by decide +kernel) ?_
    refine RR.pv (pv_mv rfl) rfl ?_
    refine RR.pv (pv_mv rfl) rfl ?_
    first | refine RR.pv (pv_ixN rfl rfl st28 (by omega)) rfl ?_ | refine RR.pv (pv_ixZ rfl rfl st28 (by omega)) rfl ?_
    refine RR.pv (pv_ld rfl ct21 (hcell)) rfl ?_
    refine RR.pv (pv_mv rfl) rfl ?_
    refine RR.pv (pv_mv rfl) rfl ?_
    first | refine RR.pv (pv_ixN rfl rfl st28 (by omega)) rfl ?_ | refine RR.pv (pv_ixZ rfl rfl st28 (by omega)) rfl ?_
    refine RR.pv (pv_ld rfl ct21 (hq14 i hlt)) rfl ?_
    first | refine RR.pv (pv_neq_t rfl rfl (by omega)) rfl ?_ | refine RR.pv (pv_neq_f rfl rfl (by omega)) rfl ?_ | refine RR.pv (pv_neq rfl rfl) rfl ?_
    refine RR.nil ?_
    refine CC.cond_f rfl ?_
    refine CC.skip ?_
    refine CC.region ?_
    refine RR.pv (pv_mv rfl) rfl ?_
    first | refine RR.pv (pv_addN (n := 1) rfl rfl (by omega)) rfl ?_ | refine RR.pv (pv_add64 rfl rfl (by omega)) rfl ?_
    refine RR.pv (pv_as rfl) rfl ?_
    refine RR.nil ?_
    exact Nxt.go (i + 1) ⟨rfl, rfl, rfl, rfl, rfl, rfl, rfl, rfl, rfl, rfl, rfl, rfl, trivial⟩ ⟨rfl, by omega, hlt⟩ (by omega)
  refine CC.seq ?_
  refine CC.seq ?_
  refine CC.region ?_
  refine RR.pv (pv_mv rfl) rfl ?_
  refine RR.pv (pv_mv rfl) rfl ?_
  refine RR.pv (pv_len rfl st28) rfl ?_
  first | refine RR.pv (pv_lss_t rfl rfl (by omega)) rfl ?_ | refine RR.pv (pv_lss_f rfl rfl (by omega)) rfl ?_ | refine RR.pv (pv_lss rfl rfl) rfl ?_
  refine RR.nil ?_
  refine CC.cond_f rfl ?_
  refine CC.exit ?_
  -- the room
  refine CC.seq ?_
  refine CC.seq ?_
  refine CC.region ?_
  refine RR.pv (pv_mv rfl) rfl ?_
  refine RR.pv (pv_len rfl st22) rfl ?_
  refine RR.pv (pv_mv rfl) rfl ?_
  first | refine RR.pv (pv_mulN (m := 2) rfl rfl (by omega)) rfl ?_ | refine RR.pv (pv_mul64 rfl rfl (by omega)) rfl ?_
  first | refine RR.pv (pv_neq_t rfl rfl (by omega)) rfl ?_ | refine RR.pv (pv_neq_f rfl rfl (by omega)) rfl ?_ | refine RR.pv (pv_neq rfl rfl) rfl ?_
  refine RR.nil ?_
  refine CC.cond_f rfl ?_
  refine CC.skip ?_
  refine CC.seq ?_
  refine CC.seq ?_
  refine CC.region ?_
  refine RR.pv (pv_as rfl) rfl ?_
  refine RR.nil ?_
  refine CC.block ?_
  refine CC.loop (γ := Nat) (F := fun i => [(0, own aw L), (1, .slice (some ⟨ba, 0, none⟩) la la), (2, .slice (some ⟨bk, 0, none⟩) n n), (7, .int .i64 (n : Int)), (8, own av L), (9, .slice (some ⟨bq, 0, none⟩) la la), (10, .slice (some ⟨bo, 0, none⟩) n n), (11, .int .i64 (o : Int)), (12, .slice (some ⟨b2, 0, none⟩) (2 * n) c3), (13, .slice (some ⟨bR, 0, none⟩) n n), (14, .slice (some ⟨bW, 0, none⟩) n n), (25, .int .i64 (i : Int))])
    (I := fun i v => v = w15 ∧ i ≤ 2 * n) (μ := fun i => 2 * n - i) 0
    ⟨rfl, rfl, rfl, rfl, rfl, rfl, rfl, rfl, rfl, rfl, rfl, rfl, trivial⟩ ⟨rfl, Nat.zero_le _⟩ ?_
  rintro i2 w16 ⟨rfl, hi2⟩
  by_cases hlt : i2 < 2 * n
  · have him : i2 % n < n := Nat.mod_lt _ hn1
    have hct : w16.cell? ⟨b2, 0 + i2, none⟩ = some (.int .u8 ((f (i2 % n) : Nat) : Int)) := htw14 i2 hlt
    refine CC.seq ?_
    refine CC.seq ?_
    refine CC.region ?_
    refine RR.pv (pv_mv rfl) rfl ?_
    refine RR.pv (pv_mv rfl) rfl ?_
    first | refine RR.pv (pv_mulN (m := 2) rfl rfl (by omega)) rfl ?_ | refine RR.pv (pv_mul64 rfl rfl (by omega)) rfl ?_
    first | refine RR.pv (pv_lss_t rfl rfl (by omega)) rfl ?_ | refine RR.pv (pv_lss_f rfl rfl (by omega)) rfl ?_ | refine RR.pv (pv_lss rfl rfl) rfl ?_
    refine RR.nil ?_
    refine CC.cond_t rfl ?_
    refine CC.skip ?_
    refine CC.seq ?_
    refine CC.block ?_
    refine CC.seq ?_
    refine CC.regionQ (by decide +kernel) ?_
    refine RR.pv (pv_mv rfl) rfl ?_
    refine RR.pv (pv_mv rfl) rfl ?_
    first | refine RR.pv (pv_ixN rfl rfl st22 (by omega)) rfl ?_ | refine RR.pv (pv_ixZ rfl rfl st22 (by omega)) rfl ?_
    refine RR.pv (pv_ld rfl ct5 (hct)) rfl ?_
    refine RR.pv (pv_mv rfl) rfl ?_
    refine RR.pv (pv_mv rfl) rfl ?_
    refine RR.pv (pv_mv rfl) rfl ?_
    refine RR.pv (pv_remN rfl rfl (by omega) (by omega)) rfl ?_
    first | refine RR.pv (pv_ixN rfl rfl st22 (by omega)) rfl ?_ | refine RR.pv (pv_ixZ rfl rfl st22 (by omega)) rfl ?_
    refine RR.pv (pv_ld rfl ct5 (ho14 _ him)) rfl ?_
    first | refine RR.pv (pv_neq_t rfl rfl (by omega)) rfl ?_ | refine RR.pv (pv_neq_f rfl rfl (by omega)) rfl ?_ | refine RR.pv (pv_neq rfl rfl) rfl ?_
    refine RR.nil ?_
    refine CC.cond_f rfl ?_
    refine CC.skip ?_
    refine CC.region ?_
    refine RR.pv (pv_mv rfl) rfl ?_
    first | refine RR.pv (pv_addN (n := 1) rfl rfl (by omega)) rfl ?_ | refine RR.pv (pv_add64 rfl rfl (by omega)) rfl ?_
    refine RR.pv (pv_as rfl) rfl ?_
    refine RR.nil ?_
    exact Nxt.go (i2 + 1) ⟨rfl, rfl, rfl, rfl, rfl, rfl, rfl, rfl, rfl, rfl, rfl, rfl, trivial⟩ ⟨rfl, hlt⟩ (by omega)
  refine CC.seq ?_
  refine CC.seq ?_
  refine CC.region ?_
  refine RR.pv (pv_mv rfl) rfl ?_
  refine RR.pv (pv_mv rfl) rfl ?_
  first | refine RR.pv (pv_mulN (m := 2) rfl rfl (by omega)) rfl ?_ | refine RR.pv (pv_mul64 rfl rfl (by omega)) rfl ?_
  first | refine RR.pv (pv_lss_t rfl rfl (by omega)) rfl ?_ | refine RR.pv (pv_lss_f rfl rfl (by omega)) rfl ?_ | refine RR.pv (pv_lss rfl rfl) rfl ?_
  refine RR.nil ?_
  refine CC.cond_f rfl ?_
  refine CC.exit ?_
  -- w
  refine CC.seq ?_
  refine CC.seq ?_
  refine CC.region ?_
  refine RR.pv (pv_as rfl) rfl ?_
  refine RR.nil ?_
  refine CC.block ?_
  refine CC.loop (γ := Nat) (F := fun i => [(0, own aw L), (1, .slice (some ⟨ba, 0, none⟩) la la), (2, .slice (some ⟨bk, 0, none⟩) n n), (7, .int .i64 (n : Int)), (8, own av L), (9, .slice (some ⟨bq, 0, none⟩) la la), (10, .slice (some ⟨bo, 0, none⟩) n n), (11, .int .i64 (o : Int)), (12, .slice (some ⟨b2, 0, none⟩) (2 * n) c3), (13, .slice (some ⟨bR, 0, none⟩) n n), (14, .slice (some ⟨bW, 0, none⟩) n n), (26, .int .i64 (i : Int))])
    (I := fun i v => v = w16 ∧ i ≤ L) (μ := fun i => L - i) 0
    ⟨rfl, rfl, rfl, rfl, rfl, rfl, rfl, rfl, rfl, rfl, rfl, rfl, trivial⟩ ⟨rfl, Nat.zero_le _⟩ ?_
  rintro j w17 ⟨rfl, hj⟩
  by_cases hlt : j < L
  rotate_left
  · refine CC.seq ?_
    refine CC.seq ?_
    refine CC.region ?_
    refine RR.pv (pv_mv rfl) rfl ?_
    refine RR.pv (pv_mv rfl) rfl ?_
    refine RR.pv (pv_len rfl st22) rfl ?_
    first | refine RR.pv (pv_lss_t rfl rfl (by omega)) rfl ?_ | refine RR.pv (pv_lss_f rfl rfl (by omega)) rfl ?_ | refine RR.pv (pv_lss rfl rfl) rfl ?_
    refine RR.nil ?_
    refine CC.cond_f rfl ?_
    refine CC.exit ?_
    refine CC.seq ?_
    refine CC.region ?_
    refine RR.pv (pv_as rfl) rfl ?_
    refine RR.nil ?_
    refine CC.ret ?_
    exact EndQ.r1 Try.results5 rfl ⟨rfl, hTw14⟩
  cases aw with
  | none => have := hawn rfl; omega
  | some bw =>
  cases av with
  | none => have := havn rfl; omega
  | some bv =>
  have hrow := hrm14 bw rfl j hlt
  have hbef := hv14 bv rfl j hlt
  have him : j % n < n := Nat.mod_lt _ hn1
  refine CC.seq ?_
  refine CC.seq ?_
  refine CC.region ?_
  refine RR.pv (pv_mv rfl) rfl ?_
  refine RR.pv (pv_mv rfl) rfl ?_
  refine RR.pv (pv_len rfl st22) rfl ?_
  first | refine RR.pv (pv_lss_t rfl rfl (by omega)) rfl ?_ | refine RR.pv (pv_lss_f rfl rfl (by omega)) rfl ?_ | refine RR.pv (pv_lss rfl rfl) rfl ?_
  refine RR.nil ?_
  refine CC.cond_t rfl ?_
  refine CC.skip ?_
  refine CC.seq ?_
  refine CC.block ?_
  refine CC.seq ?_
  refine CC.region ?_
  refine RR.pv (pv_mv rfl) rfl ?_
  refine RR.pv (pv_mv rfl) rfl ?_
  first | refine RR.pv (pv_ixN rfl rfl st22 (by omega)) rfl ?_ | refine RR.pv (pv_ixZ rfl rfl st22 (by omega)) rfl ?_
  refine RR.pv (pv_ld rfl ct5 (hbef)) rfl ?_
  refine RR.pv (pv_as rfl) rfl ?_
  refine RR.nil ?_
  refine CC.seqCut (γ := Unit) (fun _ => [(0, .slice (some ⟨bw, 0, none⟩) L L), (1, .slice (some ⟨ba, 0, none⟩) la la), (2, .slice (some ⟨bk, 0, none⟩) n n), (7, .int .i64 (n : Int)), (8, .slice (some ⟨bv, 0, none⟩) L L), (9, .slice (some ⟨bq, 0, none⟩) la la), (10, .slice (some ⟨bo, 0, none⟩) n n), (11, .int .i64 (o : Int)), (12, .slice (some ⟨b2, 0, none⟩) (2 * n) c3), (13, .slice (some ⟨bR, 0, none⟩) n n), (14, .slice (some ⟨bW, 0, none⟩) n n), (26, .int .i64 (j : Int)), (27, .int .u8 ((roomAfter n L f s0 j : Nat) : Int))]) (fun _ w' => w' = w17) ?_ ?_
  · by_cases hA1 : 2 * n ≤ L ∧ j < 2 * n
    · obtain ⟨q1, q2⟩ := hA1
      refine CC.seq ?_
      refine CC.region ?_
      refine RR.pv (pv_mv rfl) rfl ?_
      refine RR.pv (pv_len rfl st22) rfl ?_
      refine RR.pv (pv_mv rfl) rfl ?_
      first | refine RR.pv (pv_mulN (m := 2) rfl rfl (by omega)) rfl ?_ | refine RR.pv (pv_mul64 rfl rfl (by omega)) rfl ?_
      first | refine RR.pv (pv_geq_t rfl rfl (by omega)) rfl ?_ | refine RR.pv (pv_geq_f rfl rfl (by omega)) rfl ?_ | refine RR.pv (pv_geq rfl rfl) rfl ?_
      refine RR.pv (pv_mv rfl) rfl ?_
      first | refine RR.gy rfl rfl (pv_mv rfl) rfl ?_ | refine RR.gn rfl rfl rfl rfl ?_
      first | refine RR.gy rfl rfl (pv_mv rfl) rfl ?_ | refine RR.gn rfl rfl rfl rfl ?_
      first | refine RR.gy rfl rfl (pv_mulN (m := 2) rfl rfl (by omega)) rfl ?_ | refine RR.gy rfl rfl (pv_mul64 rfl rfl (by omega)) rfl ?_ | refine RR.gn rfl rfl rfl rfl ?_
      first | refine RR.gy rfl rfl (pv_lss_t rfl rfl (by omega)) rfl ?_ | refine RR.gy rfl rfl (pv_lss_f rfl rfl (by omega)) rfl ?_ | refine RR.gy rfl rfl (pv_lss rfl rfl) rfl ?_ | refine RR.gn rfl rfl rfl rfl ?_
      first | refine RR.pv (pv_pick_t rfl rfl) rfl ?_ | refine RR.pv (pv_pick_f rfl rfl) rfl ?_
      refine RR.nil ?_
      refine CC.cond_t rfl ?_
      refine CC.region ?_
      refine RR.pv (pv_mv rfl) rfl ?_
      refine RR.pv (pv_mv rfl) rfl ?_
      refine RR.pv (pv_mv rfl) rfl ?_
      refine RR.pv (pv_remN rfl rfl (by omega) (by omega)) rfl ?_
      first | refine RR.pv (pv_ixN rfl rfl st22 (by omega)) rfl ?_ | refine RR.pv (pv_ixZ rfl rfl st22 (by omega)) rfl ?_
      refine RR.pv (pv_ld rfl ct5 (ho14 _ him)) rfl ?_
      refine RR.pv (pv_as rfl) rfl ?_
      refine RR.nil ?_
      refine CutQ.go () ⟨rfl, rfl, rfl, rfl, rfl, rfl, rfl, rfl, rfl, rfl, rfl, rfl, ?_, trivial⟩ rfl
      unfold roomAfter; rw [if_pos ⟨q1, q2⟩]; rfl
    by_cases hA2 : n ≤ L ∧ j < n
    · obtain ⟨q1, q2⟩ := hA2
      have q3 : ¬ 2 * n ≤ L := fun e => hA1 ⟨e, by omega⟩
      refine CC.seq ?_
      refine CC.region ?_
      refine RR.pv (pv_mv rfl) rfl ?_
      refine RR.pv (pv_len rfl st22) rfl ?_
      refine RR.pv (pv_mv rfl) rfl ?_
      first | refine RR.pv (pv_mulN (m := 2) rfl rfl (by omega)) rfl ?_ | refine RR.pv (pv_mul64 rfl rfl (by omega)) rfl ?_
      first | refine RR.pv (pv_geq_t rfl rfl (by omega)) rfl ?_ | refine RR.pv (pv_geq_f rfl rfl (by omega)) rfl ?_ | refine RR.pv (pv_geq rfl rfl) rfl ?_
      refine RR.pv (pv_mv rfl) rfl ?_
      first | refine RR.gy rfl rfl (pv_mv rfl) rfl ?_ | refine RR.gn rfl rfl rfl rfl ?_
      first | refine RR.gy rfl rfl (pv_mv rfl) rfl ?_ | refine RR.gn rfl rfl rfl rfl ?_
      first | refine RR.gy rfl rfl (pv_mulN (m := 2) rfl rfl (by omega)) rfl ?_ | refine RR.gy rfl rfl (pv_mul64 rfl rfl (by omega)) rfl ?_ | refine RR.gn rfl rfl rfl rfl ?_
      first | refine RR.gy rfl rfl (pv_lss_t rfl rfl (by omega)) rfl ?_ | refine RR.gy rfl rfl (pv_lss_f rfl rfl (by omega)) rfl ?_ | refine RR.gy rfl rfl (pv_lss rfl rfl) rfl ?_ | refine RR.gn rfl rfl rfl rfl ?_
      first | refine RR.pv (pv_pick_t rfl rfl) rfl ?_ | refine RR.pv (pv_pick_f rfl rfl) rfl ?_
      refine RR.nil ?_
      refine CC.cond_f rfl ?_
      refine CC.seq ?_
      refine CC.region ?_
      refine RR.pv (pv_mv rfl) rfl ?_
      refine RR.pv (pv_len rfl st22) rfl ?_
      refine RR.pv (pv_mv rfl) rfl ?_
      first | refine RR.pv (pv_geq_t rfl rfl (by omega)) rfl ?_ | refine RR.pv (pv_geq_f rfl rfl (by omega)) rfl ?_ | refine RR.pv (pv_geq rfl rfl) rfl ?_
      refine RR.pv (pv_mv rfl) rfl ?_
      first | refine RR.gy rfl rfl (pv_mv rfl) rfl ?_ | refine RR.gn rfl rfl rfl rfl ?_
      first | refine RR.gy rfl rfl (pv_mv rfl) rfl ?_ | refine RR.gn rfl rfl rfl rfl ?_
      first | refine RR.gy rfl rfl (pv_lss_t rfl rfl (by omega)) rfl ?_ | refine RR.gy rfl rfl (pv_lss_f rfl rfl (by omega)) rfl ?_ | refine RR.gy rfl rfl (pv_lss rfl rfl) rfl ?_ | refine RR.gn rfl rfl rfl rfl ?_
      first | refine RR.pv (pv_pick_t rfl rfl) rfl ?_ | refine RR.pv (pv_pick_f rfl rfl) rfl ?_
      refine RR.nil ?_
      refine CC.cond_t rfl ?_
      refine CC.region ?_
      refine RR.pv (pv_mv rfl) rfl ?_
      refine RR.pv (pv_mv rfl) rfl ?_
      first | refine RR.pv (pv_ixN rfl rfl st22 (by omega)) rfl ?_ | refine RR.pv (pv_ixZ rfl rfl st22 (by omega)) rfl ?_
      refine RR.pv (pv_ld rfl ct5 (ho14 j q2)) rfl ?_
      refine RR.pv (pv_as rfl) rfl ?_
      refine RR.nil ?_
      refine CutQ.go () ⟨rfl, rfl, rfl, rfl, rfl, rfl, rfl, rfl, rfl, rfl, rfl, rfl, ?_, trivial⟩ rfl
      unfold roomAfter; rw [if_neg hA1, if_pos ⟨q1, q2⟩]; rfl
    have hfin : (27 : Nat) = 27 := rfl
    by_cases q0 : 2 * n ≤ L
    · have q2 : ¬ j < n := fun e => hA2 ⟨by omega, e⟩
      have q3 : ¬ j < 2 * n := fun e => hA1 ⟨q0, e⟩
      refine CC.seq ?_
      refine CC.region ?_
      refine RR.pv (pv_mv rfl) rfl ?_
      refine RR.pv (pv_len rfl st22) rfl ?_
      refine RR.pv (pv_mv rfl) rfl ?_
      first | refine RR.pv (pv_mulN (m := 2) rfl rfl (by omega)) rfl ?_ | refine RR.pv (pv_mul64 rfl rfl (by omega)) rfl ?_
      first | refine RR.pv (pv_geq_t rfl rfl (by omega)) rfl ?_ | refine RR.pv (pv_geq_f rfl rfl (by omega)) rfl ?_ | refine RR.pv (pv_geq rfl rfl) rfl ?_
      refine RR.pv (pv_mv rfl) rfl ?_
      first | refine RR.gy rfl rfl (pv_mv rfl) rfl ?_ | refine RR.gn rfl rfl rfl rfl ?_
      first | refine RR.gy rfl rfl (pv_mv rfl) rfl ?_ | refine RR.gn rfl rfl rfl rfl ?_
      first | refine RR.gy rfl rfl (pv_mulN (m := 2) rfl rfl (by omega)) rfl ?_ | refine RR.gy rfl rfl (pv_mul64 rfl rfl (by omega)) rfl ?_ | refine RR.gn rfl rfl rfl rfl ?_
      first | refine RR.gy rfl rfl (pv_lss_t rfl rfl (by omega)) rfl ?_ | refine RR.gy rfl rfl (pv_lss_f rfl rfl (by omega)) rfl ?_ | refine RR.gy rfl rfl (pv_lss rfl rfl) rfl ?_ | refine RR.gn rfl rfl rfl rfl ?_
      first | refine RR.pv (pv_pick_t rfl rfl) rfl ?_ | refine RR.pv (pv_pick_f rfl rfl) rfl ?_
      refine RR.nil ?_
      refine CC.cond_f rfl ?_
      refine CC.seq ?_
      refine CC.region ?_
      refine RR.pv (pv_mv rfl) rfl ?_
      refine RR.pv (pv_len rfl st22) rfl ?_
      refine RR.pv (pv_mv rfl) rfl ?_
      first | refine RR.pv (pv_geq_t rfl rfl (by omega)) rfl ?_ | refine RR.pv (pv_geq_f rfl rfl (by omega)) rfl ?_ | refine RR.pv (pv_geq rfl rfl) rfl ?_
      refine RR.pv (pv_mv rfl) rfl ?_
      first | refine RR.gy rfl rfl (pv_mv rfl) rfl ?_ | refine RR.gn rfl rfl rfl rfl ?_
      first | refine RR.gy rfl rfl (pv_mv rfl) rfl ?_ | refine RR.gn rfl rfl rfl rfl ?_
      first | refine RR.gy rfl rfl (pv_lss_t rfl rfl (by omega)) rfl ?_ | refine RR.gy rfl rfl (pv_lss_f rfl rfl (by omega)) rfl ?_ | refine RR.gy rfl rfl (pv_lss rfl rfl) rfl ?_ | refine RR.gn rfl rfl rfl rfl ?_
      first | refine RR.pv (pv_pick_t rfl rfl) rfl ?_ | refine RR.pv (pv_pick_f rfl rfl) rfl ?_
      refine RR.nil ?_
      refine CC.cond_f rfl ?_
      refine CC.skip ?_
      refine CutQ.go () ⟨rfl, rfl, rfl, rfl, rfl, rfl, rfl, rfl, rfl, rfl, rfl, rfl, ?_, trivial⟩ rfl
      unfold roomAfter; rw [if_neg hA1, if_neg hA2]; rfl
    by_cases q1 : n ≤ L
    · have q2 : ¬ j < n := fun e => hA2 ⟨q1, e⟩
      refine CC.seq ?_
      refine CC.region ?_
      refine RR.pv (pv_mv rfl) rfl ?_
      refine RR.pv (pv_len rfl st22) rfl ?_
      refine RR.pv (pv_mv rfl) rfl ?_
      first | refine RR.pv (pv_mulN (m := 2) rfl rfl (by omega)) rfl ?_ | refine RR.pv (pv_mul64 rfl rfl (by omega)) rfl ?_
      first | refine RR.pv (pv_geq_t rfl rfl (by omega)) rfl ?_ | refine RR.pv (pv_geq_f rfl rfl (by omega)) rfl ?_ | refine RR.pv (pv_geq rfl rfl) rfl ?_
      refine RR.pv (pv_mv rfl) rfl ?_
      first | refine RR.gy rfl rfl (pv_mv rfl) rfl ?_ | refine RR.gn rfl rfl rfl rfl ?_
      first | refine RR.gy rfl rfl (pv_mv rfl) rfl ?_ | refine RR.gn rfl rfl rfl rfl ?_
      first | refine RR.gy rfl rfl (pv_mulN (m := 2) rfl rfl (by omega)) rfl ?_ | refine RR.gy rfl rfl (pv_mul64 rfl rfl (by omega)) rfl ?_ | refine RR.gn rfl rfl rfl rfl ?_
      first | refine RR.gy rfl rfl (pv_lss_t rfl rfl (by omega)) rfl ?_ | refine RR.gy rfl rfl (pv_lss_f rfl rfl (by omega)) rfl ?_ | refine RR.gy rfl rfl (pv_lss rfl rfl) rfl ?_ | refine RR.gn rfl rfl rfl rfl ?_
      first | refine RR.pv (pv_pick_t rfl rfl) rfl ?_ | refine RR.pv (pv_pick_f rfl rfl) rfl ?_
      refine RR.nil ?_
      refine CC.cond_f rfl ?_
      refine CC.seq ?_
      refine CC.region ?_
      refine RR.pv (pv_mv rfl) rfl ?_
      refine RR.pv (pv_len rfl st22) rfl ?_
      refine RR.pv (pv_mv rfl) rfl ?_
      first | refine RR.pv (pv_geq_t rfl rfl (by omega)) rfl ?_ | refine RR.pv (pv_geq_f rfl rfl (by omega)) rfl ?_ | refine RR.pv (pv_geq rfl rfl) rfl ?_
      refine RR.pv (pv_mv rfl) rfl ?_
      first | refine RR.gy rfl rfl (pv_mv rfl) rfl ?_ | refine RR.gn rfl rfl rfl rfl ?_
      first | refine RR.gy rfl rfl (pv_mv rfl) rfl ?_ | refine RR.gn rfl rfl rfl rfl ?_
      first | refine RR.gy rfl rfl (pv_lss_t rfl rfl (by omega)) rfl ?_ | refine RR.gy rfl rfl (pv_lss_f rfl rfl (by omega)) rfl ?_ | refine RR.gy rfl rfl (pv_lss rfl rfl) rfl ?_ | refine RR.gn rfl rfl rfl rfl ?_
      first | refine RR.pv (pv_pick_t rfl rfl) rfl ?_ | refine RR.pv (pv_pick_f rfl rfl) rfl ?_
      refine RR.nil ?_
      refine CC.cond_f rfl ?_
      refine CC.skip ?_
      refine CutQ.go () ⟨rfl, rfl, rfl, rfl, rfl, rfl, rfl, rfl, rfl, rfl, rfl, rfl, ?_, trivial⟩ rfl
      unfold roomAfter; rw [if_neg hA1, if_neg hA2]; rfl
    · refine CC.seq ?_
      refine CC.region ?_
      refine RR.pv (pv_mv rfl) rfl ?_
      refine RR.pv (pv_len rfl st22) rfl ?_
      refine RR.pv (pv_mv rfl) rfl ?_
      first | refine RR.pv (pv_mulN (m := 2) rfl rfl (by omega)) rfl ?_ | refine RR.pv (pv_mul64 rfl rfl (by omega)) rfl ?_
      first | refine RR.pv (pv_geq_t rfl rfl (by omega)) rfl ?_ | refine RR.pv (pv_geq_f rfl rfl (by omega)) rfl ?_ | refine RR.pv (pv_geq rfl rfl) rfl ?_
      refine RR.pv (pv_mv rfl) rfl ?_
      first | refine RR.gy rfl rfl (pv_mv rfl) rfl ?_ | refine RR.gn rfl rfl rfl rfl ?_
      first | refine RR.gy rfl rfl (pv_mv rfl) rfl ?_ | refine RR.gn rfl rfl rfl rfl ?_
      first | refine RR.gy rfl rfl (pv_mulN (m := 2) rfl rfl (by omega)) rfl ?_ | refine RR.gy rfl rfl (pv_mul64 rfl rfl (by omega)) rfl ?_ | refine RR.gn rfl rfl rfl rfl ?_
      first | refine RR.gy rfl rfl (pv_lss_t rfl rfl (by omega)) rfl ?_ | refine RR.gy rfl rfl (pv_lss_f rfl rfl (by omega)) rfl ?_ | refine RR.gy rfl rfl (pv_lss rfl rfl) rfl ?_ | refine RR.gn rfl rfl rfl rfl ?_
      first | refine RR.pv (pv_pick_t rfl rfl) rfl ?_ | refine RR.pv (pv_pick_f rfl rfl) rfl ?_
      refine RR.nil ?_
      refine CC.cond_f rfl ?_
      refine CC.seq ?_
      refine CC.region ?_
      refine RR.pv (pv_mv rfl) rfl ?_
      refine RR.pv (pv_len rfl st22) rfl ?_
      refine RR.pv (pv_mv rfl) rfl ?_
      first | refine RR.pv (pv_geq_t rfl rfl (by omega)) rfl ?_ | refine RR.pv (pv_geq_f rfl rfl (by omega)) rfl ?_ | refine RR.pv (pv_geq rfl rfl) rfl ?_
      refine RR.pv (pv_mv rfl) rfl ?_
      first | refine RR.gy rfl rfl (pv_mv rfl) rfl ?_ | refine RR.gn rfl rfl rfl rfl ?_
      first | refine RR.gy rfl rfl (pv_mv rfl) rfl ?_ | refine RR.gn rfl rfl rfl rfl ?_
      first | refine RR.gy rfl rfl (pv_lss_t rfl rfl (by omega)) rfl ?_ | refine RR.gy rfl rfl (pv_lss_f rfl rfl (by omega)) rfl ?_ | refine RR.gy rfl rfl (pv_lss rfl rfl) rfl ?_ | refine RR.gn rfl rfl rfl rfl ?_
      first | refine RR.pv (pv_pick_t rfl rfl) rfl ?_ | refine RR.pv (pv_pick_f rfl rfl) rfl ?_
      refine RR.nil ?_
      refine CC.cond_f rfl ?_
      refine CC.skip ?_
      refine CutQ.go () ⟨rfl, rfl, rfl, rfl, rfl, rfl, rfl, rfl, rfl, rfl, rfl, rfl, ?_, trivial⟩ rfl
      unfold roomAfter; rw [if_neg hA1, if_neg hA2]; rfl
  rintro _ w18 rfl
  refine CC.seq ?_
  refine CC.region ?_
  refine RR.pv (pv_mv rfl) rfl ?_
  refine RR.pv (pv_mv rfl) rfl ?_
  first | refine RR.pv (pv_ixN rfl rfl st22 (by omega)) rfl ?_ | refine RR.pv (pv_ixZ rfl rfl st22 (by omega)) rfl ?_
  refine RR.pv (pv_ld rfl ct5 (hrow)) rfl ?_
  refine RR.pv (pv_mv rfl) rfl ?_
  first | refine RR.pv (pv_neq_t rfl rfl (by omega)) rfl ?_ | refine RR.pv (pv_neq_f rfl rfl (by omega)) rfl ?_ | refine RR.pv (pv_neq rfl rfl) rfl ?_
  refine RR.nil ?_
  refine CC.cond_f rfl ?_
  refine CC.skip ?_
  refine CC.region ?_
  refine RR.pv (pv_mv rfl) rfl ?_
  first | refine RR.pv (pv_addN (n := 1) rfl rfl (by omega)) rfl ?_ | refine RR.pv (pv_add64 rfl rfl (by omega)) rfl ?_
  refine RR.pv (pv_as rfl) rfl ?_
  refine RR.nil ?_
  exact Nxt.go (j + 1) ⟨rfl, rfl, rfl, rfl, rfl, rfl, rfl, rfl, rfl, rfl, rfl, rfl, trivial⟩ ⟨rfl, hlt⟩ (by omega)

end Go.Proofs.Qxb6602663a.Vc
