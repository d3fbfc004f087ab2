/-
  The law FnTransformInvertsByLastToFirst.
-/
import Derived.Test.Qxb6602663aTr
import Derived.Test.Qxb6602663aLf
namespace Go.Proofs.Qxb6602663a.Vc
open Go.RowKit
open Go.Proofs.Qxb6602663a.Sa (Nc Bk Bk_le)
set_option linter.unusedVariables false
set_option linter.unusedSimpArgs false
set_option maxRecDepth 10000

theorem nm12t : (Try.f12.name == "runtime.NumGoroutine") = false := by kernel_rfl
theorem nm17t : (Try.f17.name == "runtime.NumGoroutine") = false := by kernel_rfl
theorem nm18 : (Try.f18.name == "runtime.NumGoroutine") = false := by kernel_rfl
theorem nm21 : (Try.f21.name == "runtime.NumGoroutine") = false := by kernel_rfl

theorem zz21 (a0 : Option Addr) (n0 c0 : Nat) (a1 : Option Addr) (n1 c1 : Nat) (a2 : Option Addr) (n2 c2 : Nat) (w : World) : ∃ r : Bool, FF 21 #[.slice a0 n0 c0, .slice a1 n1 c1, .slice a2 n2 c2] w (fun v w' => v = .bool r ∧ w' = w) := by
  by_cases h1 : 1048576 < n0
  · refine ⟨false, FF.of_cc (l := [_, _, _]) Try.func21 rfl Try.ntmps21 rfl (CC.keep (F := [(0, _), (1, _), (2, _)]) ⟨rfl, rfl, rfl, trivial⟩ ?_)⟩
    refine CC.seq ?_
    refine CC.region ?_
    refine RR.pv (pv_as rfl) rfl ?_
    refine RR.nil ?_
    refine CC.seq ?_
    refine CC.region ?_
    refine RR.pv (pv_as rfl) rfl ?_
    refine RR.nil ?_
    refine CC.seq ?_
    refine CC.seq ?_
    refine CC.region ?_
    refine RR.pv (pv_mv rfl) rfl ?_
    refine RR.pv (pv_len rfl st22) rfl ?_
    first | refine RR.pv (pv_gtr_t rfl rfl (by omega)) rfl ?_ | refine RR.pv (pv_gtr_f rfl rfl (by omega)) rfl ?_ | refine RR.pv (pv_gtr rfl rfl) rfl ?_
    refine RR.nil ?_
    refine CC.cond_t rfl ?_
    refine CC.seq ?_
    refine CC.region ?_
    refine RR.pv (pv_as rfl) rfl ?_
    refine RR.nil ?_
    refine CC.ret ?_
    exact EndQ.r1 Try.results21 rfl ⟨rfl, rfl⟩
  by_cases h2 : 1048576 < n1
  · refine ⟨false, FF.of_cc (l := [_, _, _]) Try.func21 rfl Try.ntmps21 rfl (CC.keep (F := [(0, _), (1, _), (2, _)]) ⟨rfl, rfl, rfl, trivial⟩ ?_)⟩
    refine CC.seq ?_
    refine CC.region ?_
    refine RR.pv (pv_as rfl) rfl ?_
    refine RR.nil ?_
    refine CC.seq ?_
    refine CC.region ?_
    refine RR.pv (pv_as rfl) rfl ?_
    refine RR.nil ?_
    refine CC.seq ?_
    refine CC.seq ?_
    refine CC.region ?_
    refine RR.pv (pv_mv rfl) rfl ?_
    refine RR.pv (pv_len rfl st22) rfl ?_
    first | refine RR.pv (pv_gtr_t rfl rfl (by omega)) rfl ?_ | refine RR.pv (pv_gtr_f rfl rfl (by omega)) rfl ?_ | refine RR.pv (pv_gtr rfl rfl) rfl ?_
    refine RR.nil ?_
    refine CC.cond_f rfl ?_
    refine CC.skip ?_
    refine CC.seq ?_
    refine CC.region ?_
    refine RR.pv (pv_mv rfl) rfl ?_
    refine RR.pv (pv_mv rfl) rfl ?_
    refine RR.pv (pv_len rfl st22) rfl ?_
    first | refine RR.pv (pv_addN rfl rfl (by omega)) rfl ?_ | refine RR.pv (pv_add64 rfl rfl (by omega)) rfl ?_
    refine RR.pv (pv_as rfl) rfl ?_
    refine RR.nil ?_
    refine CC.seq ?_
    refine CC.seq ?_
    refine CC.region ?_
    refine RR.pv (pv_mv rfl) rfl ?_
    first | refine RR.pv (pv_gtr_t rfl rfl (by omega)) rfl ?_ | refine RR.pv (pv_gtr_f rfl rfl (by omega)) rfl ?_ | refine RR.pv (pv_gtr rfl rfl) rfl ?_
    refine RR.nil ?_
    refine CC.cond_f rfl ?_
    refine CC.skip ?_
    refine CC.seq ?_
    refine CC.seq ?_
    refine CC.region ?_
    refine RR.pv (pv_mv rfl) rfl ?_
    refine RR.pv (pv_len rfl st28) rfl ?_
    first | refine RR.pv (pv_gtr_t rfl rfl (by omega)) rfl ?_ | refine RR.pv (pv_gtr_f rfl rfl (by omega)) rfl ?_ | refine RR.pv (pv_gtr rfl rfl) rfl ?_
    refine RR.nil ?_
    refine CC.cond_t rfl ?_
    refine CC.seq ?_
    refine CC.region ?_
    refine RR.pv (pv_as rfl) rfl ?_
    refine RR.nil ?_
    refine CC.ret ?_
    exact EndQ.r1 Try.results21 rfl ⟨rfl, rfl⟩
  by_cases h3 : 1048576 < n0 + n1
  · refine ⟨false, FF.of_cc (l := [_, _, _]) Try.func21 rfl Try.ntmps21 rfl (CC.keep (F := [(0, _), (1, _), (2, _)]) ⟨rfl, rfl, rfl, trivial⟩ ?_)⟩
    refine CC.seq ?_
    refine CC.region ?_
    refine RR.pv (pv_as rfl) rfl ?_
    refine RR.nil ?_
    refine CC.seq ?_
    refine CC.region ?_
    refine RR.pv (pv_as rfl) rfl ?_
    refine RR.nil ?_
    refine CC.seq ?_
    refine CC.seq ?_
    refine CC.region ?_
    refine RR.pv (pv_mv rfl) rfl ?_
    refine RR.pv (pv_len rfl st22) rfl ?_
    first | refine RR.pv (pv_gtr_t rfl rfl (by omega)) rfl ?_ | refine RR.pv (pv_gtr_f rfl rfl (by omega)) rfl ?_ | refine RR.pv (pv_gtr rfl rfl) rfl ?_
    refine RR.nil ?_
    refine CC.cond_f rfl ?_
    refine CC.skip ?_
    refine CC.seq ?_
    refine CC.region ?_
    refine RR.pv (pv_mv rfl) rfl ?_
    refine RR.pv (pv_mv rfl) rfl ?_
    refine RR.pv (pv_len rfl st22) rfl ?_
    first | refine RR.pv (pv_addN rfl rfl (by omega)) rfl ?_ | refine RR.pv (pv_add64 rfl rfl (by omega)) rfl ?_
    refine RR.pv (pv_as rfl) rfl ?_
    refine RR.nil ?_
    refine CC.seq ?_
    refine CC.seq ?_
    refine CC.region ?_
    refine RR.pv (pv_mv rfl) rfl ?_
    first | refine RR.pv (pv_gtr_t rfl rfl (by omega)) rfl ?_ | refine RR.pv (pv_gtr_f rfl rfl (by omega)) rfl ?_ | refine RR.pv (pv_gtr rfl rfl) rfl ?_
    refine RR.nil ?_
    refine CC.cond_f rfl ?_
    refine CC.skip ?_
    refine CC.seq ?_
    refine CC.seq ?_
    refine CC.region ?_
    refine RR.pv (pv_mv rfl) rfl ?_
    refine RR.pv (pv_len rfl st28) rfl ?_
    first | refine RR.pv (pv_gtr_t rfl rfl (by omega)) rfl ?_ | refine RR.pv (pv_gtr_f rfl rfl (by omega)) rfl ?_ | refine RR.pv (pv_gtr rfl rfl) rfl ?_
    refine RR.nil ?_
    refine CC.cond_f rfl ?_
    refine CC.skip ?_
    refine CC.seq ?_
    refine CC.region ?_
    refine RR.pv (pv_mv rfl) rfl ?_
    refine RR.pv (pv_mv rfl) rfl ?_
    refine RR.pv (pv_len rfl st28) rfl ?_
    first | refine RR.pv (pv_addN rfl rfl (by omega)) rfl ?_ | refine RR.pv (pv_add64 rfl rfl (by omega)) rfl ?_
    refine RR.pv (pv_as rfl) rfl ?_
    refine RR.nil ?_
    refine CC.seq ?_
    refine CC.seq ?_
    refine CC.region ?_
    refine RR.pv (pv_mv rfl) rfl ?_
    first | refine RR.pv (pv_gtr_t rfl rfl (by omega)) rfl ?_ | refine RR.pv (pv_gtr_f rfl rfl (by omega)) rfl ?_ | refine RR.pv (pv_gtr rfl rfl) rfl ?_
    refine RR.nil ?_
    refine CC.cond_t rfl ?_
    refine CC.seq ?_
    refine CC.region ?_
    refine RR.pv (pv_as rfl) rfl ?_
    refine RR.nil ?_
    refine CC.ret ?_
    exact EndQ.r1 Try.results21 rfl ⟨rfl, rfl⟩
  by_cases h4 : 1048576 < n2
  · refine ⟨false, FF.of_cc (l := [_, _, _]) Try.func21 rfl Try.ntmps21 rfl (CC.keep (F := [(0, _), (1, _), (2, _)]) ⟨rfl, rfl, rfl, trivial⟩ ?_)⟩
    refine CC.seq ?_
    refine CC.region ?_
    refine RR.pv (pv_as rfl) rfl ?_
    refine RR.nil ?_
    refine CC.seq ?_
    refine CC.region ?_
    refine RR.pv (pv_as rfl) rfl ?_
    refine RR.nil ?_
    refine CC.seq ?_
    refine CC.seq ?_
    refine CC.region ?_
    refine RR.pv (pv_mv rfl) rfl ?_
    refine RR.pv (pv_len rfl st22) rfl ?_
    first | refine RR.pv (pv_gtr_t rfl rfl (by omega)) rfl ?_ | refine RR.pv (pv_gtr_f rfl rfl (by omega)) rfl ?_ | refine RR.pv (pv_gtr rfl rfl) rfl ?_
    refine RR.nil ?_
    refine CC.cond_f rfl ?_
    refine CC.skip ?_
    refine CC.seq ?_
    refine CC.region ?_
    refine RR.pv (pv_mv rfl) rfl ?_
    refine RR.pv (pv_mv rfl) rfl ?_
    refine RR.pv (pv_len rfl st22) rfl ?_
    first | refine RR.pv (pv_addN rfl rfl (by omega)) rfl ?_ | refine RR.pv (pv_add64 rfl rfl (by omega)) rfl ?_
    refine RR.pv (pv_as rfl) rfl ?_
    refine RR.nil ?_
    refine CC.seq ?_
    refine CC.seq ?_
    refine CC.region ?_
    refine RR.pv (pv_mv rfl) rfl ?_
    first | refine RR.pv (pv_gtr_t rfl rfl (by omega)) rfl ?_ | refine RR.pv (pv_gtr_f rfl rfl (by omega)) rfl ?_ | refine RR.pv (pv_gtr rfl rfl) rfl ?_
    refine RR.nil ?_
    refine CC.cond_f rfl ?_
    refine CC.skip ?_
    refine CC.seq ?_
    refine CC.seq ?_
    refine CC.region ?_
    refine RR.pv (pv_mv rfl) rfl ?_
    refine RR.pv (pv_len rfl st28) rfl ?_
    first | refine RR.pv (pv_gtr_t rfl rfl (by omega)) rfl ?_ | refine RR.pv (pv_gtr_f rfl rfl (by omega)) rfl ?_ | refine RR.pv (pv_gtr rfl rfl) rfl ?_
    refine RR.nil ?_
    refine CC.cond_f rfl ?_
    refine CC.skip ?_
    refine CC.seq ?_
    refine CC.region ?_
    refine RR.pv (pv_mv rfl) rfl ?_
    refine RR.pv (pv_mv rfl) rfl ?_
    refine RR.pv (pv_len rfl st28) rfl ?_
    first | refine RR.pv (pv_addN rfl rfl (by omega)) rfl ?_ | refine RR.pv (pv_add64 rfl rfl (by omega)) rfl ?_
    refine RR.pv (pv_as rfl) rfl ?_
    refine RR.nil ?_
    refine CC.seq ?_
    refine CC.seq ?_
    refine CC.region ?_
    refine RR.pv (pv_mv rfl) rfl ?_
    first | refine RR.pv (pv_gtr_t rfl rfl (by omega)) rfl ?_ | refine RR.pv (pv_gtr_f rfl rfl (by omega)) rfl ?_ | refine RR.pv (pv_gtr rfl rfl) rfl ?_
    refine RR.nil ?_
    refine CC.cond_f rfl ?_
    refine CC.skip ?_
    refine CC.seq ?_
    refine CC.seq ?_
    refine CC.region ?_
    refine RR.pv (pv_mv rfl) rfl ?_
    refine RR.pv (pv_len rfl st22) rfl ?_
    first | refine RR.pv (pv_gtr_t rfl rfl (by omega)) rfl ?_ | refine RR.pv (pv_gtr_f rfl rfl (by omega)) rfl ?_ | refine RR.pv (pv_gtr rfl rfl) rfl ?_
    refine RR.nil ?_
    refine CC.cond_t rfl ?_
    refine CC.seq ?_
    refine CC.region ?_
    refine RR.pv (pv_as rfl) rfl ?_
    refine RR.nil ?_
    refine CC.ret ?_
    exact EndQ.r1 Try.results21 rfl ⟨rfl, rfl⟩
  by_cases h5 : 1048576 < n0 + n1 + n2
  · refine ⟨false, FF.of_cc (l := [_, _, _]) Try.func21 rfl Try.ntmps21 rfl (CC.keep (F := [(0, _), (1, _), (2, _)]) ⟨rfl, rfl, rfl, trivial⟩ ?_)⟩
    refine CC.seq ?_
    refine CC.region ?_
    refine RR.pv (pv_as rfl) rfl ?_
    refine RR.nil ?_
    refine CC.seq ?_
    refine CC.region ?_
    refine RR.pv (pv_as rfl) rfl ?_
    refine RR.nil ?_
    refine CC.seq ?_
    refine CC.seq ?_
    refine CC.region ?_
    refine RR.pv (pv_mv rfl) rfl ?_
    refine RR.pv (pv_len rfl st22) rfl ?_
    first | refine RR.pv (pv_gtr_t rfl rfl (by omega)) rfl ?_ | refine RR.pv (pv_gtr_f rfl rfl (by omega)) rfl ?_ | refine RR.pv (pv_gtr rfl rfl) rfl ?_
    refine RR.nil ?_
    refine CC.cond_f rfl ?_
    refine CC.skip ?_
    refine CC.seq ?_
    refine CC.region ?_
    refine RR.pv (pv_mv rfl) rfl ?_
    refine RR.pv (pv_mv rfl) rfl ?_
    refine RR.pv (pv_len rfl st22) rfl ?_
    first | refine RR.pv (pv_addN rfl rfl (by omega)) rfl ?_ | refine RR.pv (pv_add64 rfl rfl (by omega)) rfl ?_
    refine RR.pv (pv_as rfl) rfl ?_
    refine RR.nil ?_
    refine CC.seq ?_
    refine CC.seq ?_
    refine CC.region ?_
    refine RR.pv (pv_mv rfl) rfl ?_
    first | refine RR.pv (pv_gtr_t rfl rfl (by omega)) rfl ?_ | refine RR.pv (pv_gtr_f rfl rfl (by omega)) rfl ?_ | refine RR.pv (pv_gtr rfl rfl) rfl ?_
    refine RR.nil ?_
    refine CC.cond_f rfl ?_
    refine CC.skip ?_
    refine CC.seq ?_
    refine CC.seq ?_
    refine CC.region ?_
    refine RR.pv (pv_mv rfl) rfl ?_
    refine RR.pv (pv_len rfl st28) rfl ?_
    first | refine RR.pv (pv_gtr_t rfl rfl (by omega)) rfl ?_ | refine RR.pv (pv_gtr_f rfl rfl (by omega)) rfl ?_ | refine RR.pv (pv_gtr rfl rfl) rfl ?_
    refine RR.nil ?_
    refine CC.cond_f rfl ?_
    refine CC.skip ?_
    refine CC.seq ?_
    refine CC.region ?_
    refine RR.pv (pv_mv rfl) rfl ?_
    refine RR.pv (pv_mv rfl) rfl ?_
    refine RR.pv (pv_len rfl st28) rfl ?_
    first | refine RR.pv (pv_addN rfl rfl (by omega)) rfl ?_ | refine RR.pv (pv_add64 rfl rfl (by omega)) rfl ?_
    refine RR.pv (pv_as rfl) rfl ?_
    refine RR.nil ?_
    refine CC.seq ?_
    refine CC.seq ?_
    refine CC.region ?_
    refine RR.pv (pv_mv rfl) rfl ?_
    first | refine RR.pv (pv_gtr_t rfl rfl (by omega)) rfl ?_ | refine RR.pv (pv_gtr_f rfl rfl (by omega)) rfl ?_ | refine RR.pv (pv_gtr rfl rfl) rfl ?_
    refine RR.nil ?_
    refine CC.cond_f rfl ?_
    refine CC.skip ?_
    refine CC.seq ?_
    refine CC.seq ?_
    refine CC.region ?_
    refine RR.pv (pv_mv rfl) rfl ?_
    refine RR.pv (pv_len rfl st22) rfl ?_
    first | refine RR.pv (pv_gtr_t rfl rfl (by omega)) rfl ?_ | refine RR.pv (pv_gtr_f rfl rfl (by omega)) rfl ?_ | refine RR.pv (pv_gtr rfl rfl) rfl ?_
    refine RR.nil ?_
    refine CC.cond_f rfl ?_
    refine CC.skip ?_
    refine CC.seq ?_
    refine CC.region ?_
    refine RR.pv (pv_mv rfl) rfl ?_
    refine RR.pv (pv_mv rfl) rfl ?_
    refine RR.pv (pv_len rfl st22) rfl ?_
    first | refine RR.pv (pv_addN rfl rfl (by omega)) rfl ?_ | refine RR.pv (pv_add64 rfl rfl (by omega)) rfl ?_
    refine RR.pv (pv_as rfl) rfl ?_
    refine RR.nil ?_
    refine CC.seq ?_
    refine CC.seq ?_
    refine CC.region ?_
    refine RR.pv (pv_mv rfl) rfl ?_
    first | refine RR.pv (pv_gtr_t rfl rfl (by omega)) rfl ?_ | refine RR.pv (pv_gtr_f rfl rfl (by omega)) rfl ?_ | refine RR.pv (pv_gtr rfl rfl) rfl ?_
    refine RR.nil ?_
    refine CC.cond_t rfl ?_
    refine CC.seq ?_
    refine CC.region ?_
    refine RR.pv (pv_as rfl) rfl ?_
    refine RR.nil ?_
    refine CC.ret ?_
    exact EndQ.r1 Try.results21 rfl ⟨rfl, rfl⟩
  · refine ⟨true, FF.of_cc (l := [_, _, _]) Try.func21 rfl Try.ntmps21 rfl (CC.keep (F := [(0, _), (1, _), (2, _)]) ⟨rfl, rfl, rfl, trivial⟩ ?_)⟩
    refine CC.seq ?_
    refine CC.region ?_
    refine RR.pv (pv_as rfl) rfl ?_
    refine RR.nil ?_
    refine CC.seq ?_
    refine CC.region ?_
    refine RR.pv (pv_as rfl) rfl ?_
    refine RR.nil ?_
    refine CC.seq ?_
    refine CC.seq ?_
    refine CC.region ?_
    refine RR.pv (pv_mv rfl) rfl ?_
    refine RR.pv (pv_len rfl st22) rfl ?_
    first | refine RR.pv (pv_gtr_t rfl rfl (by omega)) rfl ?_ | refine RR.pv (pv_gtr_f rfl rfl (by omega)) rfl ?_ | refine RR.pv (pv_gtr rfl rfl) rfl ?_
    refine RR.nil ?_
    refine CC.cond_f rfl ?_
    refine CC.skip ?_
    refine CC.seq ?_
    refine CC.region ?_
    refine RR.pv (pv_mv rfl) rfl ?_
    refine RR.pv (pv_mv rfl) rfl ?_
    refine RR.pv (pv_len rfl st22) rfl ?_
    first | refine RR.pv (pv_addN rfl rfl (by omega)) rfl ?_ | refine RR.pv (pv_add64 rfl rfl (by omega)) rfl ?_
    refine RR.pv (pv_as rfl) rfl ?_
    refine RR.nil ?_
    refine CC.seq ?_
    refine CC.seq ?_
    refine CC.region ?_
    refine RR.pv (pv_mv rfl) rfl ?_
    first | refine RR.pv (pv_gtr_t rfl rfl (by omega)) rfl ?_ | refine RR.pv (pv_gtr_f rfl rfl (by omega)) rfl ?_ | refine RR.pv (pv_gtr rfl rfl) rfl ?_
    refine RR.nil ?_
    refine CC.cond_f rfl ?_
    refine CC.skip ?_
    refine CC.seq ?_
    refine CC.seq ?_
    refine CC.region ?_
    refine RR.pv (pv_mv rfl) rfl ?_
    refine RR.pv (pv_len rfl st28) rfl ?_
    first | refine RR.pv (pv_gtr_t rfl rfl (by omega)) rfl ?_ | refine RR.pv (pv_gtr_f rfl rfl (by omega)) rfl ?_ | refine RR.pv (pv_gtr rfl rfl) rfl ?_
    refine RR.nil ?_
    refine CC.cond_f rfl ?_
    refine CC.skip ?_
    refine CC.seq ?_
    refine CC.region ?_
    refine RR.pv (pv_mv rfl) rfl ?_
    refine RR.pv (pv_mv rfl) rfl ?_
    refine RR.pv (pv_len rfl st28) rfl ?_
    first | refine RR.pv (pv_addN rfl rfl (by omega)) rfl ?_ | refine RR.pv (pv_add64 rfl rfl (by omega)) rfl ?_
    refine RR.pv (pv_as rfl) rfl ?_
    refine RR.nil ?_
    refine CC.seq ?_
    refine CC.seq ?_
    refine CC.region ?_
    refine RR.pv (pv_mv rfl) rfl ?_
    first | refine RR.pv (pv_gtr_t rfl rfl (by omega)) rfl ?_ | refine RR.pv (pv_gtr_f rfl rfl (by omega)) rfl ?_ | refine RR.pv (pv_gtr rfl rfl) rfl ?_
    refine RR.nil ?_
    refine CC.cond_f rfl ?_
    refine CC.skip ?_
    refine CC.seq ?_
    refine CC.seq ?_
    refine CC.region ?_
    refine RR.pv (pv_mv rfl) rfl ?_
    refine RR.pv (pv_len rfl st22) rfl ?_
    first | refine RR.pv (pv_gtr_t rfl rfl (by omega)) rfl ?_ | refine RR.pv (pv_gtr_f rfl rfl (by omega)) rfl ?_ | refine RR.pv (pv_gtr rfl rfl) rfl ?_
    refine RR.nil ?_
    refine CC.cond_f rfl ?_
    refine CC.skip ?_
    refine CC.seq ?_
    refine CC.region ?_
    refine RR.pv (pv_mv rfl) rfl ?_
    refine RR.pv (pv_mv rfl) rfl ?_
    refine RR.pv (pv_len rfl st22) rfl ?_
    first | refine RR.pv (pv_addN rfl rfl (by omega)) rfl ?_ | refine RR.pv (pv_add64 rfl rfl (by omega)) rfl ?_
    refine RR.pv (pv_as rfl) rfl ?_
    refine RR.nil ?_
    refine CC.seq ?_
    refine CC.seq ?_
    refine CC.region ?_
    refine RR.pv (pv_mv rfl) rfl ?_
    first | refine RR.pv (pv_gtr_t rfl rfl (by omega)) rfl ?_ | refine RR.pv (pv_gtr_f rfl rfl (by omega)) rfl ?_ | refine RR.pv (pv_gtr rfl rfl) rfl ?_
    refine RR.nil ?_
    refine CC.cond_f rfl ?_
    refine CC.skip ?_
    refine CC.seq ?_
    refine CC.region ?_
    refine RR.pv (pv_as rfl) rfl ?_
    refine RR.nil ?_
    refine CC.ret ?_
    exact EndQ.r1 Try.results21 rfl ⟨rfl, rfl⟩


/-- Rows of a text that came in: read through its slice. -/
theorem InN.own {w : World} {b n : Nat} {f : Nat → Nat} (h : SN .u8 w b 0 n f) : InN w (some ⟨b, 0, none⟩) n n f := .inr ⟨_, rfl, fun _ => ⟨b, 0, rfl, h⟩⟩

theorem nc_succ (t : Nat → Nat) (k c : Nat) : Nc (k + 1) t c = if t k = c then Nc k t c + 1 else Nc k t c := by
  unfold Nc
  rw [Sa.cnt_succ]
  by_cases h : t k = c
  · simp [h]
  · simp [h]

theorem nc_upd (t : Nat → Nat) (k c : Nat) : upd (Nc k t) (t k) (Nc k t (t k) + 1) c = Nc (k + 1) t c := by
  rw [nc_succ]
  by_cases h : c = t k
  · subst h; rw [upd_same, if_pos rfl]
  · rw [upd_ne _ _ h, if_neg (fun e => h e.symm)]

set_option maxHeartbeats 2000000 in
theorem law6_any (a0 : Option Addr) (L c0 : Nat) (s0 : Nat → Nat) (a1 : Option Addr) (la c1 : Nat) (sa0 : Nat → Int) (a2 : Option Addr) (n c2 : Nat) (f : Nat → Nat) (w : World)
    (h0 : InN w a0 L c0 s0) (h1 : InI w a1 la c1 sa0) (h2 : InN w a2 n c2 f) (hf : ∀ i, f i < 256) :
    FF 6 #[.slice a0 L c0, .slice a1 la c1, .slice a2 n c2] w (fun v w' => v = .bool true ∧ Touch (fun _ _ => False) w w') := by
  refine FF.of_cc (l := [_, _, _]) Try.func6 rfl Try.ntmps6 rfl (CC.keep (F := [(0, _), (1, _), (2, _)]) ⟨rfl, rfl, rfl, trivial⟩ ?_)
  obtain ⟨zr, hzz⟩ := zz21 a0 L c0 a1 la c1 a2 n c2 w
  refine CC.seq ?_
  refine CC.region ?_
  refine RR.pv (pv_as rfl) rfl ?_
  refine RR.nil ?_
  refine CC.seq ?_
  refine CC.seq ?_
  refine CC.region ?_
  refine RR.pv (pv_mv rfl) rfl ?_
  refine RR.pv (pv_mv rfl) rfl ?_
  refine RR.pv (pv_mv rfl) rfl ?_
  refine RR.call Try.func21 nm21 rfl rfl hzz rfl ?_
  rintro v w' ⟨rfl, rfl⟩
  first | refine RR.pv (pv_not_t rfl) rfl ?_ | refine RR.pv (pv_not_f rfl) rfl ?_ | refine RR.pv (pv_not rfl) rfl ?_
  refine RR.nil ?_
  cases zr with
  | false =>
    refine CC.cond_t rfl ?_
    refine CC.seq ?_
    refine CC.region ?_
    refine RR.pv (pv_as rfl) rfl ?_
    refine RR.nil ?_
    refine CC.ret ?_
    exact EndQ.r1 Try.results6 rfl ⟨rfl, Touch.refl _ _⟩
  | true =>
  refine CC.cond_f rfl ?_
  by_cases hn : 65536 < n
  · refine CC.skip ?_
    refine CC.seq ?_
    refine CC.seq ?_
    refine CC.region ?_
    refine RR.pv (pv_mv rfl) rfl ?_
    refine RR.pv (pv_len rfl st22) rfl ?_
    first | refine RR.pv (pv_gtr_t rfl rfl (by omega)) rfl ?_ | refine RR.pv (pv_gtr_f rfl rfl (by omega)) rfl ?_ | refine RR.pv (pv_gtr rfl rfl) rfl ?_
    refine RR.nil ?_
    refine CC.cond_t rfl ?_
    refine CC.seq ?_
    refine CC.region ?_
    refine RR.pv (pv_as rfl) rfl ?_
    refine RR.nil ?_
    refine CC.ret ?_
    exact EndQ.r1 Try.results6 rfl ⟨rfl, Touch.refl _ _⟩
  refine CC.skip ?_
  refine CC.seq ?_
  refine CC.seq ?_
  refine CC.region ?_
  refine RR.pv (pv_mv rfl) rfl ?_
  refine RR.pv (pv_len rfl st22) rfl ?_
  first | refine RR.pv (pv_gtr_t rfl rfl (by omega)) rfl ?_ | refine RR.pv (pv_gtr_f rfl rfl (by omega)) rfl ?_ | refine RR.pv (pv_gtr rfl rfl) rfl ?_
  refine RR.nil ?_
  refine CC.cond_f rfl ?_
  by_cases hL : 262144 < L
  · refine CC.skip ?_
    refine CC.seq ?_
    refine CC.seq ?_
    refine CC.region ?_
    refine RR.pv (pv_mv rfl) rfl ?_
    refine RR.pv (pv_len rfl st22) rfl ?_
    first | refine RR.pv (pv_gtr_t rfl rfl (by omega)) rfl ?_ | refine RR.pv (pv_gtr_f rfl rfl (by omega)) rfl ?_ | refine RR.pv (pv_gtr rfl rfl) rfl ?_
    refine RR.nil ?_
    refine CC.cond_t rfl ?_
    refine CC.seq ?_
    refine CC.region ?_
    refine RR.pv (pv_as rfl) rfl ?_
    refine RR.nil ?_
    refine CC.ret ?_
    exact EndQ.r1 Try.results6 rfl ⟨rfl, Touch.refl _ _⟩
  refine CC.skip ?_
  refine CC.seq ?_
  refine CC.seq ?_
  refine CC.region ?_
  refine RR.pv (pv_mv rfl) rfl ?_
  refine RR.pv (pv_len rfl st22) rfl ?_
  first | refine RR.pv (pv_gtr_t rfl rfl (by omega)) rfl ?_ | refine RR.pv (pv_gtr_f rfl rfl (by omega)) rfl ?_ | refine RR.pv (pv_gtr rfl rfl) rfl ?_
  refine RR.nil ?_
  refine CC.cond_f rfl ?_
  by_cases hla : 65536 < la
  · refine CC.skip ?_
    refine CC.seq ?_
    refine CC.seq ?_
    refine CC.region ?_
    refine RR.pv (pv_mv rfl) rfl ?_
    refine RR.pv (pv_len rfl st28) rfl ?_
    first | refine RR.pv (pv_gtr_t rfl rfl (by omega)) rfl ?_ | refine RR.pv (pv_gtr_f rfl rfl (by omega)) rfl ?_ | refine RR.pv (pv_gtr rfl rfl) rfl ?_
    refine RR.nil ?_
    refine CC.cond_t rfl ?_
    refine CC.seq ?_
    refine CC.region ?_
    refine RR.pv (pv_as rfl) rfl ?_
    refine RR.nil ?_
    refine CC.ret ?_
    exact EndQ.r1 Try.results6 rfl ⟨rfl, Touch.refl _ _⟩
  refine CC.skip ?_
  refine CC.seq ?_
  refine CC.seq ?_
  refine CC.region ?_
  refine RR.pv (pv_mv rfl) rfl ?_
  refine RR.pv (pv_len rfl st28) rfl ?_
  first | refine RR.pv (pv_gtr_t rfl rfl (by omega)) rfl ?_ | refine RR.pv (pv_gtr_f rfl rfl (by omega)) rfl ?_ | refine RR.pv (pv_gtr rfl rfl) rfl ?_
  refine RR.nil ?_
  refine CC.cond_f rfl ?_
  refine CC.skip ?_
  refine CC.seq ?_
  refine CC.region ?_
  refine RR.pv (pv_mv rfl) rfl ?_
  refine RR.pv (pv_len rfl st22) rfl ?_
  refine RR.pv (pv_as rfl) rfl ?_
  refine RR.nil ?_
  by_cases hn0 : n = 0
  · refine CC.seq ?_
    refine CC.seq ?_
    refine CC.region ?_
    refine RR.pv (pv_mv rfl) rfl ?_
    first | refine RR.pv (pv_eql_t rfl rfl (by omega)) rfl ?_ | refine RR.pv (pv_eql_f rfl rfl (by omega)) rfl ?_ | refine RR.pv (pv_eql rfl rfl) rfl ?_
    refine RR.pv (pv_mv rfl) rfl ?_
    first | refine RR.gy rfl rfl (pv_mv rfl) rfl ?_ | refine RR.gn rfl rfl rfl rfl ?_
    first | refine RR.gy rfl rfl (pv_len rfl st28) rfl ?_ | refine RR.gn rfl rfl rfl rfl ?_
    first | refine RR.gy rfl rfl (pv_mv rfl) rfl ?_ | refine RR.gn rfl rfl rfl rfl ?_
    first | refine RR.gy rfl rfl (pv_lss_t rfl rfl (by omega)) rfl ?_ | refine RR.gy rfl rfl (pv_lss_f rfl rfl (by omega)) rfl ?_ | refine RR.gy rfl rfl (pv_lss rfl rfl) rfl ?_ | refine RR.gn rfl rfl rfl rfl ?_
    first | refine RR.pv (pv_pick_t rfl rfl) rfl ?_ | refine RR.pv (pv_pick_f rfl rfl) rfl ?_
    refine RR.nil ?_
    refine CC.cond_t rfl ?_
    refine CC.seq ?_
    refine CC.region ?_
    refine RR.pv (pv_as rfl) rfl ?_
    refine RR.nil ?_
    refine CC.ret ?_
    exact EndQ.r1 Try.results6 rfl ⟨rfl, Touch.refl _ _⟩
  by_cases hlan : la < n
  · refine CC.seq ?_
    refine CC.seq ?_
    refine CC.region ?_
    refine RR.pv (pv_mv rfl) rfl ?_
    first | refine RR.pv (pv_eql_t rfl rfl (by omega)) rfl ?_ | refine RR.pv (pv_eql_f rfl rfl (by omega)) rfl ?_ | refine RR.pv (pv_eql rfl rfl) rfl ?_
    refine RR.pv (pv_mv rfl) rfl ?_
    first | refine RR.gy rfl rfl (pv_mv rfl) rfl ?_ | refine RR.gn rfl rfl rfl rfl ?_
    first | refine RR.gy rfl rfl (pv_len rfl st28) rfl ?_ | refine RR.gn rfl rfl rfl rfl ?_
    first | refine RR.gy rfl rfl (pv_mv rfl) rfl ?_ | refine RR.gn rfl rfl rfl rfl ?_
    first | refine RR.gy rfl rfl (pv_lss_t rfl rfl (by omega)) rfl ?_ | refine RR.gy rfl rfl (pv_lss_f rfl rfl (by omega)) rfl ?_ | refine RR.gy rfl rfl (pv_lss rfl rfl) rfl ?_ | refine RR.gn rfl rfl rfl rfl ?_
    first | refine RR.pv (pv_pick_t rfl rfl) rfl ?_ | refine RR.pv (pv_pick_f rfl rfl) rfl ?_
    refine RR.nil ?_
    refine CC.cond_t rfl ?_
    refine CC.seq ?_
    refine CC.region ?_
    refine RR.pv (pv_as rfl) rfl ?_
    refine RR.nil ?_
    refine CC.ret ?_
    exact EndQ.r1 Try.results6 rfl ⟨rfl, Touch.refl _ _⟩
  refine CC.seq ?_
  refine CC.seq ?_
  refine CC.region ?_
  refine RR.pv (pv_mv rfl) rfl ?_
  first | refine RR.pv (pv_eql_t rfl rfl (by omega)) rfl ?_ | refine RR.pv (pv_eql_f rfl rfl (by omega)) rfl ?_ | refine RR.pv (pv_eql rfl rfl) rfl ?_
  refine RR.pv (pv_mv rfl) rfl ?_
  first | refine RR.gy rfl rfl (pv_mv rfl) rfl ?_ | refine RR.gn rfl rfl rfl rfl ?_
  first | refine RR.gy rfl rfl (pv_len rfl st28) rfl ?_ | refine RR.gn rfl rfl rfl rfl ?_
  first | refine RR.gy rfl rfl (pv_mv rfl) rfl ?_ | refine RR.gn rfl rfl rfl rfl ?_
  first | refine RR.gy rfl rfl (pv_lss_t rfl rfl (by omega)) rfl ?_ | refine RR.gy rfl rfl (pv_lss_f rfl rfl (by omega)) rfl ?_ | refine RR.gy rfl rfl (pv_lss rfl rfl) rfl ?_ | refine RR.gn rfl rfl rfl rfl ?_
  first | refine RR.pv (pv_pick_t rfl rfl) rfl ?_ | refine RR.pv (pv_pick_f rfl rfl) rfl ?_
  refine RR.nil ?_
  refine CC.cond_f rfl ?_
  -- the copies
  refine CC.skip ?_
  refine CC.seq ?_
  refine CC.region ?_
  refine RR.pv (pv_mv rfl) rfl ?_
  refine RR.call Try.func12 nm12t rfl rfl (cloneBytes_gen a0 L c0 s0 w' (by omega) h0) rfl (fun v1 w1 hp1 => ?_)
  obtain ⟨aw, rfl, hawn, haw, hT1⟩ := hp1
  refine RR.pv (pv_as rfl) rfl ?_
  refine RR.nil ?_
  refine CC.seq ?_
  refine CC.region ?_
  refine RR.pv (pv_mv rfl) rfl ?_
  refine RR.call Try.func17 nm17t rfl rfl (cloneInts_gen a1 la c1 sa0 w1 (by omega) (h1.touch hT1)) rfl (fun v2 w2 hp2 => ?_)
  obtain ⟨aas, rfl, hasn, has, hT2⟩ := hp2
  refine RR.pv (pv_as rfl) rfl ?_
  refine RR.nil ?_
  cases aas with
  | none => have := hasn rfl; omega
  | some ba =>
  obtain ⟨hba1, hba2, hsa2, hwa2⟩ := has ba rfl
  have hTw2 : Touch (fun _ _ => False) w' w2 := hT1.trans hT2 (fun _ _ _ h => h) (fun _ _ _ h => h)
  refine CC.seq ?_
  refine CC.region ?_
  refine RR.pv (pv_mv rfl) rfl ?_
  refine RR.call Try.func12 nm12t rfl rfl (cloneBytes_gen a2 n c2 f w2 (by omega) (h2.touch hTw2)) rfl (fun v3 w3 hp3 => ?_)
  obtain ⟨ak, rfl, hakn, hak, hT3⟩ := hp3
  refine RR.pv (pv_as rfl) rfl ?_
  refine RR.nil ?_
  cases ak with
  | none => have := hakn rfl; omega
  | some bk =>
  obtain ⟨hbk1, hbk2, hb3, hwb3⟩ := hak bk rfl
  have hTw3 : Touch (fun _ _ => False) w' w3 := hTw2.trans hT3 (fun _ _ _ h => h) (fun _ _ _ h => h)
  refine CC.seq ?_
  refine CC.region ?_
  refine RR.pv (pv_mv rfl) rfl ?_
  refine RR.call Try.func12 nm12t rfl rfl (cloneBytes_gen (some ⟨bk, 0, none⟩) n n f w3 (by omega) (InN.own hb3)) rfl (fun v4 w4 hp4 => ?_)
  obtain ⟨ao, rfl, haon, hao, hT4⟩ := hp4
  refine RR.pv (pv_as rfl) rfl ?_
  refine RR.nil ?_
  cases ao with
  | none => have := haon rfl; omega
  | some bo =>
  obtain ⟨hbo1, hbo2, ho4, hwo4⟩ := hao bo rfl
  have hTw4 : Touch (fun _ _ => False) w' w4 := hTw3.trans hT4 (fun _ _ _ h => h) (fun _ _ _ h => h)
  have hsz1 := hT1.size
  have hsz2 := hT2.size
  have hsz3 := hT3.size
  have hsz4 := hT4.size
  have hT14 : Touch (fun _ _ => False) w1 w4 := (hT2.trans hT3 (T := fun _ _ => False) (fun _ _ _ h => h) (fun _ _ _ h => h)).trans hT4 (fun _ _ _ h => h) (fun _ _ _ h => h)
  have hT24 : Touch (fun _ _ => False) w2 w4 := hT3.trans hT4 (fun _ _ _ h => h) (fun _ _ _ h => h)
  have hsa4 := hsa2.touch hT24 (fun _ _ h => h)
  have hwa4 := hwa2.touch (fun _ => hba2) hT24
  have hb4 := hb3.touch hT4 (fun _ _ h => h)
  have hwb4 := hwb3.touch (fun _ => hbk2) hT4
  refine CC.seq ?_
  refine CC.region ?_
  refine RR.pv (pv_mv rfl) rfl ?_
  refine RR.pv (pv_mv rfl) rfl ?_
  refine RR.pv (pv_mv rfl) rfl ?_
  refine RR.call Try.func18 nm18 rfl rfl (zzTransform_any aw L s0 ba la sa0 bk n f w4 (by omega) (by omega) hawn (fun b0 hb0 => ?_) hsa4 hwa4 (by omega) hb4 hwb4 hf (by omega)) rfl ?_
  · obtain ⟨e1, e2, e3, e4⟩ := haw b0 hb0
    exact ⟨by omega, e3.touch hT14 (fun _ _ h => h), e4.touch (fun _ => e2) hT14, by omega, by omega⟩
  rintro v5 w5 ⟨r, o, A, b2, c3, rfl, wx, hwx, hO, hT5⟩
  refine RR.pv (pv_mv rfl) rfl ?_
  refine RR.pv (pv_extr rfl rfl) rfl ?_
  refine RR.pv (pv_extr rfl rfl) rfl ?_
  refine RR.pv (pv_as rfl) rfl ?_
  refine RR.pv (pv_as rfl) rfl ?_
  refine RR.nil ?_
  have hrn := hO.fst.1
  have hn1 : 0 < n := by omega
  obtain ⟨hper, hbad⟩ := Lf.turned hn1 hO.fst
  have hback : ∀ i, i < n → (fun i => f ((r + i) % n)) ((n - r) % n + i) = f i := fun i hi => Lf.turned_back hn1 hrn hi
  obtain ⟨hrows, hA⟩ := Lf.rows_of (G := fun i => f ((r + i) % n)) hper hbad (fun _ _ => rfl) hO.sa
  have hblk : SN .u8 w5 bk 0 n (Lf.Lc n (fun i => f ((r + i) % n)) (fun k => (A k).toNat)) := (hO.rbk.v.congr (fun k hk => by
    have := Rot.per_mod hper ((A k).toNat + (n - 1)) 0
    simp only [Nat.add_zero] at this
    show f ((r + (A k).toNat + (n - 1)) % n) = f ((r + ((A k).toNat + (n - 1)) % n) % n)
    rw [this, Nat.add_assoc])).nn
  have hLc : ∀ k, Lf.Lc n (fun i => f ((r + i) % n)) (fun k => (A k).toNat) k < 256 := fun k => hf _
  have horg : Rot.Same n (fun i => f ((r + i) % n)) ((A o).toNat) ((n - r) % n + n) := fun d hd => by
    rw [hO.org]
    have := hper ((n - r) % n + d)
    rw [show (n - r) % n + n + d = (n - r) % n + d + n from by omega, this]
    rfl
  have hlfs := fun k (hk : k < n) => Lf.lf_same hper hn1 hrows hk
  have hlflt := fun k (hk : k < n) => Lf.lf_lt (G := fun i => f ((r + i) % n)) (a := fun k => (A k).toNat) hk
  have hlfe := fun k (hk : k < n) => Lf.lf_eq (G := fun i => f ((r + i) % n)) (a := fun k => (A k).toNat) hk
  have hpsym := fun k y (h : Rot.Same n (fun i => f ((r + i) % n)) ((A k).toNat) (y + 1)) => Lf.prv_sym hper hn1 h
  have hpsam := fun k y (h : Rot.Same n (fun i => f ((r + i) % n)) ((A k).toNat) (y + 1)) => Lf.same_prv hper hn1 h
  have holt := hO.olt
  have ho5 := ho4.touch hT5 (fun i hi h => by
    rcases h with h | h | h
    · have := (haw bo h).2.1; omega
    · omega
    · omega)
  have hTw5 : Touch (fun _ _ => False) w' w5 := hTw4.trans hT5 (fun _ _ _ h => h) (fun b o hb h => by
    rcases h with h | h | h
    · have := (haw b h).1; omega
    · omega
    · omega)
  clear hO hT5 hsa4 hwa4 hb4 hwb4 hTw4 hT14 hT24 hT4 hT3 hT2 hT1 hTw3 hTw2 ho4 hwo4 hb3 hwb3 hsa2 hwa2
  have hlfe' : ∀ k, k < n → Lf.lf n (fun i => f ((r + i) % n)) (fun k => (A k).toNat) k = Bk n (fun k => (fun i => f ((r + i) % n)) (Lf.prv n ((A k).toNat))) ((fun i => f ((r + i) % n)) (Lf.prv n ((A k).toNat))) + Nc k (fun k => (fun i => f ((r + i) % n)) (Lf.prv n ((A k).toNat))) ((fun i => f ((r + i) % n)) (Lf.prv n ((A k).toNat))) := fun k hk => by
    rw [hlfe k hk, Sa.Bk_eq]; rfl
  clear hlfe
  obtain ⟨Bl, hBl⟩ : ∃ Bl : Nat → Nat, Bl = fun k => (fun i => f ((r + i) % n)) (Lf.prv n ((A k).toNat)) := ⟨_, rfl⟩
  have hlfe2 : ∀ k, k < n → Lf.lf n (fun i => f ((r + i) % n)) (fun k => (A k).toNat) k = Bk n Bl (Bl k) + Nc k Bl (Bl k) := by rw [hBl]; exact hlfe'
  have hblk2 : SN .u8 w5 bk 0 n Bl := by rw [hBl]; exact hblk
  have hLc2 : ∀ k, Bl k < 256 := by rw [hBl]; exact hLc
  have hpsym2 : ∀ k y, Rot.Same n (fun i => f ((r + i) % n)) ((A k).toNat) (y + 1) → Bl k = (fun i => f ((r + i) % n)) y := by rw [hBl]; exact hpsym
  clear hlfe' hblk hLc hpsym hBl
  generalize Lf.lf n (fun i => f ((r + i) % n)) (fun k => (A k).toNat) = lfm at hlfe2 hlfs hlflt
  refine CC.seq ?_
  refine CC.seq ?_
  refine CC.region ?_
  refine RR.pv (pv_mv rfl) rfl ?_
  first | refine RR.pv (pv_lss_t rfl rfl (by omega)) rfl ?_ | refine RR.pv (pv_lss_f rfl rfl (by omega)) rfl ?_ | refine RR.pv (pv_lss rfl rfl) rfl ?_
  refine RR.pv (pv_mv rfl) rfl ?_
  first | refine RR.gy rfl rfl (pv_mv rfl) rfl ?_ | refine RR.gn rfl rfl rfl rfl ?_
  first | refine RR.gy rfl rfl (pv_mv rfl) rfl ?_ | refine RR.gn rfl rfl rfl rfl ?_
  first | refine RR.gy rfl rfl (pv_geq_t rfl rfl (by omega)) rfl ?_ | refine RR.gy rfl rfl (pv_geq_f rfl rfl (by omega)) rfl ?_ | refine RR.gy rfl rfl (pv_geq rfl rfl) rfl ?_ | refine RR.gn rfl rfl rfl rfl ?_
  first | refine RR.pv (pv_pick_t rfl rfl) rfl ?_ | refine RR.pv (pv_pick_f rfl rfl) rfl ?_
  refine RR.nil ?_
  refine CC.cond_f rfl ?_
  -- count
  have hbk5 : bk < w5.heap.size := hblk2.lt hn1
  have hbo5 : bo < w5.heap.size := ho5.lt hn1
  have hsz5 := hTw5.size
  refine CC.skip ?_
  refine CC.seq ?_
  refine CC.region ?_
  refine RR.al37 rfl ?_
  refine RR.nil ?_
  have hc6 := SN.new0 .i64 w5 37 256
  have wc6 := WR.new w5 (Array.replicate 256 (.int .i64 0)) 37 0 256
  have hb6 := hblk2.alloc (.cells (Array.replicate 256 (.int .i64 0)) 37)
  have hT6 : Touch (fun _ _ => False) w5 (w5.alloc (.cells (Array.replicate 256 (.int .i64 0)) 37)) := Touch.alloc _ _ _
  generalize w5.alloc (.cells (Array.replicate 256 (.int .i64 0)) 37) = w6 at hc6 wc6 hb6 hT6 ⊢
  obtain ⟨bc, hbc⟩ : ∃ bc, w5.heap.size = bc := ⟨_, rfl⟩
  rw [hbc] at hc6 wc6 ⊢
  refine CC.seq ?_
  refine CC.seq ?_
  refine CC.region ?_
  refine RR.pv (pv_as rfl) rfl ?_
  refine RR.nil ?_
  refine CC.block ?_
  refine CC.loop (γ := Nat) (F := fun k => [(2, .slice (some ⟨bk, 0, none⟩) n n), (7, .int .i64 (n : Int)), (8, .slice (some ⟨bo, 0, none⟩) n n), (9, .int .i64 (o : Int)), (11, .pointer (some ⟨bc, 0, none⟩)), (12, .int .i64 (k : Int))])
    (I := fun k v => k ≤ n ∧ SN .i64 v bc 0 256 (Nc k Bl) ∧ WR v bc 0 256 ∧ SN .u8 v bk 0 n Bl ∧ Touch (fun b o => b = bc) w6 v) (μ := fun k => n - k) 0
    ⟨rfl, rfl, rfl, rfl, rfl, rfl, trivial⟩ ⟨Nat.zero_le _, hc6, wc6, hb6, Touch.refl _ _⟩ ?_
  rintro k w7 ⟨hk, hc7, wc7, hb7, hT7⟩
  by_cases hlt : k < n
  · have hle : Nc k Bl (Bl k) ≤ k := Sa.cnt_le_n _ _
    have hBlk := hLc2 k
    refine CC.seq ?_
    refine CC.seq ?_
    refine CC.region ?_
    refine RR.pv (pv_mv rfl) rfl ?_
    refine RR.pv (pv_mv rfl) rfl ?_
    first | refine RR.pv (pv_lss_t rfl rfl (by omega)) rfl ?_ | refine RR.pv (pv_lss_f rfl rfl (by omega)) rfl ?_ | refine RR.pv (pv_lss rfl rfl) rfl ?_
    refine RR.nil ?_
    refine CC.cond_t rfl ?_
    refine CC.skip ?_
    refine CC.seq ?_
    refine CC.block ?_
    refine CC.region ?_
    refine RR.pv (pv_mv rfl) rfl ?_
    refine RR.pv (pv_mv rfl) rfl ?_
    first | refine RR.pv (pv_ixN rfl rfl st22 (by omega)) rfl ?_ | refine RR.pv (pv_ixZ rfl rfl st22 (by omega)) rfl ?_
    refine RR.pv (pv_ld rfl ct5 (hb7 k hlt)) rfl ?_
    first | refine RR.pv (pv_iaN rfl rfl at37 (by omega)) rfl ?_ | refine RR.pv (pv_iaZ rfl rfl at37 (by omega)) rfl ?_
    refine RR.pv (pv_ld rfl ct3 (hc7 (Bl k) hBlk)) rfl ?_
    first | refine RR.pv (pv_addN (n := 1) rfl rfl (by omega)) rfl ?_ | refine RR.pv (pv_add64 rfl rfl (by omega)) rfl ?_
    first | refine RR.pv (pv_iaN rfl rfl at37 (by omega)) rfl ?_ | refine RR.pv (pv_iaZ rfl rfl at37 (by omega)) rfl ?_
    refine RR.st rfl rfl ct3 OneV.i (hc7 (Bl k) hBlk) (wc7 _ hBlk) ?_
    refine RR.nil ?_
    refine CC.region ?_
    refine RR.pv (pv_mv rfl) rfl ?_
    first | refine RR.pv (pv_addN (n := 1) rfl rfl (by omega)) rfl ?_ | refine RR.pv (pv_add64 rfl rfl (by omega)) rfl ?_
    refine RR.pv (pv_as rfl) rfl ?_
    refine RR.nil ?_
    exact Nxt.go (k + 1) ⟨rfl, rfl, rfl, rfl, rfl, rfl, trivial⟩ ⟨hlt, ((hc7.set hBlk _).v.congr (fun c _ => nc_upd Bl k c)).nn, wc7.set, hb7.set_ne (fun i hi e => by have := e.1; omega), hT7.trans (Touch.setCell _ _ _ _) (fun _ _ _ h => h) (fun _ _ _ h => h.1)⟩ (by omega)
  have hkn : k = n := by omega
  subst hkn
  refine CC.seq ?_
  refine CC.seq ?_
  refine CC.region ?_
  refine RR.pv (pv_mv rfl) rfl ?_
  refine RR.pv (pv_mv rfl) rfl ?_
  first | refine RR.pv (pv_lss_t rfl rfl (by omega)) rfl ?_ | refine RR.pv (pv_lss_f rfl rfl (by omega)) rfl ?_ | refine RR.pv (pv_lss rfl rfl) rfl ?_
  refine RR.nil ?_
  refine CC.cond_f rfl ?_
  refine CC.exit ?_
  have hTw7 : Touch (fun _ _ => False) w5 w7 := hT6.trans hT7 (fun _ _ _ h => h) (fun b o hb h => by omega)
  have hbc7 : bc < w7.heap.size := hc7.lt (by omega)
  clear hT6 hT7 hc6 wc6 hb6
  -- start
  refine CC.seq ?_
  refine CC.region ?_
  refine RR.al37 rfl ?_
  refine RR.nil ?_
  have hs8 := SN.new0 .i64 w7 37 256
  have ws8 := WR.new w7 (Array.replicate 256 (.int .i64 0)) 37 0 256
  have hc8 := hc7.alloc (.cells (Array.replicate 256 (.int .i64 0)) 37)
  have hT8 : Touch (fun _ _ => False) w5 (w7.alloc (.cells (Array.replicate 256 (.int .i64 0)) 37)) := hTw7.trans (Touch.alloc (fun _ _ => False) _ _) (fun _ _ _ h => h) (fun _ _ _ h => h)
  generalize w7.alloc (.cells (Array.replicate 256 (.int .i64 0)) 37) = w8 at hs8 ws8 hc8 hT8 ⊢
  obtain ⟨bs, hbs⟩ : ∃ bs, w7.heap.size = bs := ⟨_, rfl⟩
  rw [hbs] at hs8 ws8 hbc7 ⊢
  refine CC.seq ?_
  refine CC.region ?_
  refine RR.pv (pv_as rfl) rfl ?_
  refine RR.nil ?_
  refine CC.seq ?_
  refine CC.seq ?_
  refine CC.region ?_
  refine RR.pv (pv_as rfl) rfl ?_
  refine RR.nil ?_
  refine CC.block ?_
  refine CC.loop (γ := Nat × (Nat → Nat)) (F := fun g => [(2, .slice (some ⟨bk, 0, none⟩) k k), (7, .int .i64 (k : Int)), (8, .slice (some ⟨bo, 0, none⟩) k k), (9, .int .i64 (o : Int)), (11, .pointer (some ⟨bc, 0, none⟩)), (13, .pointer (some ⟨bs, 0, none⟩)), (14, .int .i64 ((Bk k Bl g.1 : Nat) : Int)), (15, .int .i64 (g.1 : Int))])
    (I := fun g v => g.1 ≤ 256 ∧ SN .i64 v bs 0 256 g.2 ∧ WR v bs 0 256 ∧ SN .i64 v bc 0 256 (Nc k Bl) ∧ (∀ c, c < g.1 → g.2 c = Bk k Bl c) ∧ Touch (fun b o => b = bs) w8 v) (μ := fun g => 256 - g.1) (0, fun _ => 0)
    ⟨rfl, rfl, rfl, rfl, rfl, rfl, rfl, rfl, trivial⟩ ⟨Nat.zero_le _, hs8, ws8, hc8, fun c hc => absurd hc (Nat.not_lt_zero _), Touch.refl _ _⟩ ?_
  rintro ⟨c, h⟩ w9 ⟨hc, hs9, ws9, hc9, hall, hT9⟩
  dsimp only at hc hs9 hall ⊢
  by_cases hlt : c < 256
  · have e1 : Bk k Bl (c + 1) = Bk k Bl c + Nc k Bl c := rfl
    have e2 := Bk_le k Bl (c + 1)
    refine CC.seq ?_
    refine CC.seq ?_
    refine CC.region ?_
    refine RR.pv (pv_mv rfl) rfl ?_
    first | refine RR.pv (pv_lss_t rfl rfl (by omega)) rfl ?_ | refine RR.pv (pv_lss_f rfl rfl (by omega)) rfl ?_ | refine RR.pv (pv_lss rfl rfl) rfl ?_
    refine RR.nil ?_
    refine CC.cond_t rfl ?_
    refine CC.skip ?_
    refine CC.seq ?_
    refine CC.block ?_
    refine CC.seq ?_
    refine CC.region ?_
    refine RR.pv (pv_mv rfl) rfl ?_
    refine RR.pv (pv_mv rfl) rfl ?_
    first | refine RR.pv (pv_iaN rfl rfl at37 (by omega)) rfl ?_ | refine RR.pv (pv_iaZ rfl rfl at37 (by omega)) rfl ?_
    refine RR.st rfl rfl ct3 OneV.i (hs9 c hlt) (ws9 _ hlt) ?_
    have hs10 := hs9.set hlt (Bk k Bl c)
    have ws10 := ws9.set (ad := ⟨bs, 0 + c, none⟩) (v := .int .i64 ((Bk k Bl c : Nat) : Int))
    have hc10 := hc9.set_ne (b' := bs) (o' := 0 + c) (v := .int .i64 ((Bk k Bl c : Nat) : Int)) (fun i hi e => by have := e.1; omega)
    have hT10 : Touch (fun b o => b = bs) w8 (w9.setCell ⟨bs, 0 + c, none⟩ (.int .i64 ((Bk k Bl c : Nat) : Int))) := hT9.trans (Touch.setCell _ _ _ _) (fun _ _ _ h => h) (fun _ _ _ h => h.1)
    generalize w9.setCell _ _ = w10 at hs10 ws10 hc10 hT10 ⊢
    refine RR.nil ?_
    refine CC.region ?_
    refine RR.pv (pv_mv rfl) rfl ?_
    refine RR.pv (pv_mv rfl) rfl ?_
    first | refine RR.pv (pv_iaN rfl rfl at37 (by omega)) rfl ?_ | refine RR.pv (pv_iaZ rfl rfl at37 (by omega)) rfl ?_
    refine RR.pv (pv_ld rfl ct3 (hc10 c hlt)) rfl ?_
    refine RR.pv (pv_addN rfl rfl (by omega)) rfl ?_
    rw [← e1]
    refine RR.pv (pv_as rfl) rfl ?_
    refine RR.nil ?_
    refine CC.region ?_
    refine RR.pv (pv_mv rfl) rfl ?_
    first | refine RR.pv (pv_addN (n := 1) rfl rfl (by omega)) rfl ?_ | refine RR.pv (pv_add64 rfl rfl (by omega)) rfl ?_
    refine RR.pv (pv_as rfl) rfl ?_
    refine RR.nil ?_
    refine Nxt.go (c + 1, upd h c (Bk k Bl c)) ⟨rfl, rfl, rfl, rfl, rfl, rfl, rfl, rfl, trivial⟩ ⟨hlt, hs10, ws10, hc10, fun c' hc' => ?_, hT10⟩ (by dsimp only; omega)
    dsimp only at hc' ⊢
    by_cases e : c' = c
    · subst e; rw [upd_same]
    · rw [upd_ne _ _ e]; exact hall c' (by omega)
  have hc256 : c = 256 := by omega
  subst hc256
  refine CC.seq ?_
  refine CC.seq ?_
  refine CC.region ?_
  refine RR.pv (pv_mv rfl) rfl ?_
  first | refine RR.pv (pv_lss_t rfl rfl (by omega)) rfl ?_ | refine RR.pv (pv_lss_f rfl rfl (by omega)) rfl ?_ | refine RR.pv (pv_lss rfl rfl) rfl ?_
  refine RR.nil ?_
  refine CC.cond_f rfl ?_
  refine CC.exit ?_
  have hst : SN .i64 w9 bs 0 256 (Bk k Bl) := (hs9.v.congr hall).nn
  have hTw9 : Touch (fun _ _ => False) w5 w9 := hT8.trans hT9 (fun _ _ _ h => h) (fun b o hb h => by have := hTw7.size; omega)
  have hbs9 : bs < w9.heap.size := hst.lt (by omega)
  clear hT8 hT9 hs8 ws8 hc8 hs9 ws9 hc9 hall
  -- lf
  refine CC.seq ?_
  refine CC.region ?_
  refine RR.al37 rfl ?_
  refine RR.nil ?_
  have hm11 := SN.new0 .i64 w9 37 256
  have wm11 := WR.new w9 (Array.replicate 256 (.int .i64 0)) 37 0 256
  have hst11 := hst.alloc (.cells (Array.replicate 256 (.int .i64 0)) 37)
  have hT11 : Touch (fun _ _ => False) w5 (w9.alloc (.cells (Array.replicate 256 (.int .i64 0)) 37)) := hTw9.trans (Touch.alloc (fun _ _ => False) _ _) (fun _ _ _ h => h) (fun _ _ _ h => h)
  generalize w9.alloc (.cells (Array.replicate 256 (.int .i64 0)) 37) = w11 at hm11 wm11 hst11 hT11 ⊢
  obtain ⟨bm, hbm⟩ : ∃ bm, w9.heap.size = bm := ⟨_, rfl⟩
  rw [hbm] at hm11 wm11 hbs9 ⊢
  have hbm11 : bm < w11.heap.size := hm11.lt (by omega)
  refine CC.seq ?_
  refine CC.region ?_
  refine RR.pv (pv_mv rfl) rfl ?_
  refine RR.mk33 rfl (by omega) rfl ?_
  have hl12 := SN.new0 .i64 w11 3 k
  have wl12 := WR.new w11 (Array.replicate k (.int .i64 0)) 3 0 k
  have hst12 := hst11.alloc (.cells (Array.replicate k (.int .i64 0)) 3)
  have hm12 := hm11.alloc (.cells (Array.replicate k (.int .i64 0)) 3)
  have wm12 := wm11.alloc (fun _ => hbm11) (.cells (Array.replicate k (.int .i64 0)) 3)
  have hT12 : Touch (fun _ _ => False) w5 (w11.alloc (.cells (Array.replicate k (.int .i64 0)) 3)) := hT11.trans (Touch.alloc (fun _ _ => False) _ _) (fun _ _ _ h => h) (fun _ _ _ h => h)
  generalize w11.alloc (.cells (Array.replicate k (.int .i64 0)) 3) = w12 at hl12 wl12 hst12 hm12 wm12 hT12 ⊢
  obtain ⟨bl, hbl⟩ : ∃ bl, w11.heap.size = bl := ⟨_, rfl⟩
  rw [hbl] at hl12 wl12 hbm11 ⊢
  have hb12 := hblk2.touch hT12 (fun _ _ h => h)
  refine RR.pv (pv_as rfl) rfl ?_
  refine RR.nil ?_
  clear hm11 wm11 hst11 hT11 hst hTw9 hb7 hc7 wc7 hTw7
  refine CC.seq ?_
  refine CC.seq ?_
  refine CC.region ?_
  refine RR.pv (pv_as rfl) rfl ?_
  refine RR.nil ?_
  refine CC.block ?_
  refine CC.loop (γ := Nat × (Nat → Nat)) (F := fun g => [(2, .slice (some ⟨bk, 0, none⟩) k k), (7, .int .i64 (k : Int)), (8, .slice (some ⟨bo, 0, none⟩) k k), (9, .int .i64 (o : Int)), (13, .pointer (some ⟨bs, 0, none⟩)), (16, .pointer (some ⟨bm, 0, none⟩)), (17, .slice (some ⟨bl, 0, none⟩) k k), (18, .int .i64 (g.1 : Int))])
    (I := fun g v => g.1 ≤ k ∧ SN .i64 v bl 0 k g.2 ∧ WR v bl 0 k ∧ SN .i64 v bm 0 256 (Nc g.1 Bl) ∧ WR v bm 0 256 ∧ SN .i64 v bs 0 256 (Bk k Bl) ∧ SN .u8 v bk 0 k Bl ∧ (∀ x, x < g.1 → g.2 x = lfm x) ∧ Touch (fun b o => b = bl ∨ b = bm) w12 v) (μ := fun g => k - g.1) (0, fun _ => 0)
    ⟨rfl, rfl, rfl, rfl, rfl, rfl, rfl, rfl, trivial⟩ ⟨Nat.zero_le _, hl12, wl12, hm12, wm12, hst12, hb12, fun c hc => absurd hc (Nat.not_lt_zero _), Touch.refl _ _⟩ ?_
  rintro ⟨x, h⟩ w13 ⟨hx, hl13, wl13, hm13, wm13, hst13, hb13, hall, hT13⟩
  dsimp only at hx hl13 hm13 hall ⊢
  by_cases hlt : x < k
  · have hBlk := hLc2 x
    have e0 := hlfe2 x hlt
    have e1 := hlflt x hlt
    refine CC.seq ?_
    refine CC.seq ?_
    refine CC.region ?_
    refine RR.pv (pv_mv rfl) rfl ?_
    refine RR.pv (pv_mv rfl) rfl ?_
    first | refine RR.pv (pv_lss_t rfl rfl (by omega)) rfl ?_ | refine RR.pv (pv_lss_f rfl rfl (by omega)) rfl ?_ | refine RR.pv (pv_lss rfl rfl) rfl ?_
    refine RR.nil ?_
    refine CC.cond_t rfl ?_
    refine CC.skip ?_
    refine CC.seq ?_
    refine CC.block ?_
    refine CC.seq ?_
    refine CC.region ?_
    refine RR.pv (pv_mv rfl) rfl ?_
    refine RR.pv (pv_mv rfl) rfl ?_
    first | refine RR.pv (pv_ixN rfl rfl st22 (by omega)) rfl ?_ | refine RR.pv (pv_ixZ rfl rfl st22 (by omega)) rfl ?_
    refine RR.pv (pv_ld rfl ct5 (hb13 x hlt)) rfl ?_
    refine RR.pv (pv_as rfl) rfl ?_
    refine RR.nil ?_
    refine CC.seq ?_
    refine CC.regionT 9 (by decide +kernel) ?_
    refine RS.pv (pv_mv rfl) rfl ?_
    refine RS.pv (pv_mv rfl) rfl ?_
    refine RS.pv (pv_mv rfl) rfl ?_
    first | refine RS.pv (pv_iaN rfl rfl at37 (by omega)) rfl ?_ | refine RS.pv (pv_iaZ rfl rfl at37 (by omega)) rfl ?_
    refine RS.pv (pv_ld rfl ct3 (hst13 (Bl x) hBlk)) rfl ?_
    refine RS.pv (pv_mv rfl) rfl ?_
    first | refine RS.pv (pv_iaN rfl rfl at37 (by omega)) rfl ?_ | refine RS.pv (pv_iaZ rfl rfl at37 (by omega)) rfl ?_
    refine RS.pv (pv_ld rfl ct3 (hm13 (Bl x) hBlk)) rfl ?_
    refine RS.pv (pv_addN rfl rfl (by omega)) rfl ?_
    rw [← e0]
    refine RS.nil ?_
    first | refine RR.pv (pv_ixN rfl rfl st33 (by omega)) rfl ?_ | refine RR.pv (pv_ixZ rfl rfl st33 (by omega)) rfl ?_
    refine RR.st rfl rfl ct3 OneV.i (hl13 x hlt) (wl13 _ hlt) ?_
    have hl14 := hl13.set hlt (lfm x)
    have wl14 := wl13.set (ad := ⟨bl, 0 + x, none⟩) (v := .int .i64 ((lfm x : Nat) : Int))
    have hm14 := hm13.set_ne (b' := bl) (o' := 0 + x) (v := .int .i64 ((lfm x : Nat) : Int)) (fun i hi e => by have := e.1; omega)
    have wm14 := wm13.set (ad := ⟨bl, 0 + x, none⟩) (v := .int .i64 ((lfm x : Nat) : Int))
    have hst14 := hst13.set_ne (b' := bl) (o' := 0 + x) (v := .int .i64 ((lfm x : Nat) : Int)) (fun i hi e => by have := e.1; omega)
    have hb14 := hb13.set_ne (b' := bl) (o' := 0 + x) (v := .int .i64 ((lfm x : Nat) : Int)) (fun i hi e => by have := e.1; omega)
    have hT14 : Touch (fun b o => b = bl ∨ b = bm) w12 (w13.setCell ⟨bl, 0 + x, none⟩ (.int .i64 ((lfm x : Nat) : Int))) := hT13.trans (Touch.setCell _ _ _ _) (fun _ _ _ h => h) (fun _ _ _ h => .inl h.1)
    generalize w13.setCell _ _ = w14 at hl14 wl14 hm14 wm14 hst14 hb14 hT14 ⊢
    refine RR.nil ?_
    have hle : Nc x Bl (Bl x) ≤ x := Sa.cnt_le_n _ _
    refine CC.region ?_
    refine RR.pv (pv_mv rfl) rfl ?_
    first | refine RR.pv (pv_iaN rfl rfl at37 (by omega)) rfl ?_ | refine RR.pv (pv_iaZ rfl rfl at37 (by omega)) rfl ?_
    refine RR.pv (pv_ld rfl ct3 (hm14 (Bl x) hBlk)) rfl ?_
    first | refine RR.pv (pv_addN (n := 1) rfl rfl (by omega)) rfl ?_ | refine RR.pv (pv_add64 rfl rfl (by omega)) rfl ?_
    first | refine RR.pv (pv_iaN rfl rfl at37 (by omega)) rfl ?_ | refine RR.pv (pv_iaZ rfl rfl at37 (by omega)) rfl ?_
    refine RR.st rfl rfl ct3 OneV.i (hm14 (Bl x) hBlk) (wm14 _ hBlk) ?_
    refine RR.nil ?_
    refine CC.region ?_
    refine RR.pv (pv_mv rfl) rfl ?_
    first | refine RR.pv (pv_addN (n := 1) rfl rfl (by omega)) rfl ?_ | refine RR.pv (pv_add64 rfl rfl (by omega)) rfl ?_
    refine RR.pv (pv_as rfl) rfl ?_
    refine RR.nil ?_
    refine Nxt.go (x + 1, upd h x (lfm x)) ⟨rfl, rfl, rfl, rfl, rfl, rfl, rfl, rfl, trivial⟩ ⟨hlt, hl14.set_ne (fun i hi e => by have := e.1; omega), wl14.set, ((hm14.set hBlk _).v.congr (fun c _ => nc_upd Bl x c)).nn, wm14.set, hst14.set_ne (fun i hi e => by have := e.1; omega), hb14.set_ne (fun i hi e => by have := e.1; omega), fun x' hx' => ?_, hT14.trans (Touch.setCell _ _ _ _) (fun _ _ _ h => h) (fun _ _ _ h => .inr h.1)⟩ (by dsimp only; omega)
    dsimp only at hx' ⊢
    by_cases e : x' = x
    · subst e; rw [upd_same]
    · rw [upd_ne _ _ e]; exact hall x' (by omega)
  have hxk : x = k := by omega
  rw [hxk] at hall
  refine CC.seq ?_
  refine CC.seq ?_
  refine CC.region ?_
  refine RR.pv (pv_mv rfl) rfl ?_
  refine RR.pv (pv_mv rfl) rfl ?_
  first | refine RR.pv (pv_lss_t rfl rfl (by omega)) rfl ?_ | refine RR.pv (pv_lss_f rfl rfl (by omega)) rfl ?_ | refine RR.pv (pv_lss rfl rfl) rfl ?_
  refine RR.nil ?_
  refine CC.cond_f rfl ?_
  refine CC.exit ?_
  have hlf13 : SN .i64 w13 bl 0 k lfm := (hl13.v.congr hall).nn
  have ho13 : SN .u8 w13 bo 0 k f := (ho5.touch hT12 (fun _ _ h => h)).touch hT13 (fun i hi h => by omega)
  have hTw13 : Touch (fun _ _ => False) w' w13 := hTw5.trans (hT12.trans hT13 (T := fun b o => b = bl ∨ b = bm) (fun _ _ _ h => h.elim) (fun _ _ _ h => h)) (fun _ _ _ h => h) (fun b o hb h => by omega)
  -- the walk back
  refine CC.seq ?_
  refine CC.region ?_
  refine RR.pv (pv_mv rfl) rfl ?_
  refine RR.pv (pv_as rfl) rfl ?_
  refine RR.nil ?_
  refine CC.seq ?_
  refine CC.seq ?_
  refine CC.region ?_
  refine RR.pv (pv_mv rfl) rfl ?_
  first | refine RR.pv (pv_subN (n := 1) rfl rfl (by omega)) rfl ?_ | refine RR.pv (pv_sub64 rfl rfl (by omega)) rfl ?_
  refine RR.pv (pv_as rfl) rfl ?_
  refine RR.nil ?_
  refine CC.block ?_
  refine CC.loop (γ := Nat × Nat) (F := fun g => [(2, .slice (some ⟨bk, 0, none⟩) k k), (8, .slice (some ⟨bo, 0, none⟩) k k), (17, .slice (some ⟨bl, 0, none⟩) k k), (20, .int .i64 (g.2 : Int)), (21, .int .i64 ((g.1 : Int) - 1))])
    (I := fun g v => v = w13 ∧ g.1 ≤ k ∧ g.2 < k ∧ Rot.Same k (fun i => f ((r + i) % k)) ((A g.2).toNat) ((k - r) % k + g.1)) (μ := fun g => g.1) (k, o)
    ⟨rfl, rfl, rfl, rfl, by show some _ = some _; congr 2; show ((k - 1 : Nat) : Int) = (k : Int) - 1; omega, trivial⟩ ⟨rfl, Nat.le_refl _, holt, horg⟩ ?_
  rintro ⟨X, q⟩ w15 ⟨rfl, hX, hq, hsame⟩
  dsimp only at hX hq hsame ⊢
  by_cases hX0 : X = 0
  · subst hX0
    refine CC.seq ?_
    refine CC.seq ?_
    refine CC.region ?_
    refine RR.pv (pv_mv rfl) rfl ?_
    first | refine RR.pv (pv_geq_t rfl rfl (by omega)) rfl ?_ | refine RR.pv (pv_geq_f rfl rfl (by omega)) rfl ?_ | refine RR.pv (pv_geq rfl rfl) rfl ?_
    refine RR.nil ?_
    refine CC.cond_f rfl ?_
    refine CC.exit ?_
    refine CC.seq ?_
    refine CC.region ?_
    refine RR.pv (pv_as rfl) rfl ?_
    refine RR.nil ?_
    refine CC.ret ?_
    exact EndQ.r1 Try.results6 rfl ⟨rfl, hTw13⟩
  obtain ⟨i, rfl⟩ : ∃ i, X = i + 1 := ⟨X - 1, by omega⟩
  rw [show ((i + 1 : Nat) : Int) - 1 = (i : Int) from by omega]
  have hsame' : Rot.Same k (fun i => f ((r + i) % k)) ((A q).toNat) ((k - r) % k + i + 1) := hsame
  have hsym : Bl q = f i := (hpsym2 q _ hsame').trans (hback i (by omega))
  have hcell : w15.cell? ⟨bk, 0 + q, none⟩ = some (.int .u8 ((f i : Nat) : Int)) := by rw [← hsym]; exact hb13 q hq
  have hqlt := hlflt q hq
  refine CC.seq ?_
  refine CC.seq ?_
  refine CC.region ?_
  refine RR.pv (pv_mv rfl) rfl ?_
  first | refine RR.pv (pv_geq_t rfl rfl (by omega)) rfl ?_ | refine RR.pv (pv_geq_f rfl rfl (by omega)) rfl ?_ | refine RR.pv (pv_geq rfl rfl) rfl ?_
  refine RR.nil ?_
  refine CC.cond_t rfl ?_
  refine CC.skip ?_
  refine CC.seq ?_
  refine CC.block ?_
  refine CC.seq ?_
  refine CC.seq ?_
  refine CC.regionQ (by decide +kernel) ?_
  refine RR.pv (pv_mv rfl) rfl ?_
  refine RR.pv (pv_mv rfl) rfl ?_
  first | refine RR.pv (pv_ixN rfl rfl st22 (by omega)) rfl ?_ | refine RR.pv (pv_ixZ rfl rfl st22 (by omega)) rfl ?_
  refine RR.pv (pv_ld rfl ct5 (hcell)) rfl ?_
  refine RR.pv (pv_mv rfl) rfl ?_
  refine RR.pv (pv_mv rfl) rfl ?_
  first | refine RR.pv (pv_ixN rfl rfl st22 (by omega)) rfl ?_ | refine RR.pv (pv_ixZ rfl rfl st22 (by omega)) rfl ?_
  refine RR.pv (pv_ld rfl ct5 (ho13 i (by omega))) rfl ?_
  first | refine RR.pv (pv_neq_t rfl rfl (by omega)) rfl ?_ | refine RR.pv (pv_neq_f rfl rfl (by omega)) rfl ?_ | refine RR.pv (pv_neq rfl rfl) rfl ?_
  refine RR.nil ?_
  refine CC.cond_f rfl ?_
  refine CC.skip ?_
  refine CC.region ?_
  refine RR.pv (pv_mv rfl) rfl ?_
  refine RR.pv (pv_mv rfl) rfl ?_
  first | refine RR.pv (pv_ixN rfl rfl st33 (by omega)) rfl ?_ | refine RR.pv (pv_ixZ rfl rfl st33 (by omega)) rfl ?_
  refine RR.pv (pv_ld rfl ct3 (hlf13 q hq)) rfl ?_
  refine RR.pv (pv_as rfl) rfl ?_
  refine RR.nil ?_
  refine CC.region ?_
  refine RR.pv (pv_mv rfl) rfl ?_
  refine RR.pv (pv_sub64 rfl rfl (by omega)) rfl ?_
  refine RR.pv (pv_as rfl) rfl ?_
  refine RR.nil ?_
  exact Nxt.go (i, lfm q) ⟨rfl, rfl, rfl, rfl, rfl, trivial⟩ ⟨rfl, by dsimp only; omega, hqlt, (hlfs q hq).trans (hpsam q _ hsame')⟩ (by dsimp only; omega)

end Go.Proofs.Qxb6602663a.Vc
