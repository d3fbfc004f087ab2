/-
  The walks of leastRotation, zzc1IsDoubled, zzc1CloneBytes, zzc1CompareRotations and the length tests.
-/
import Derived.Test.Qxb6602663aMem2
import Derived.Test.Qxb6602663aRot
namespace Go.Proofs.Qxb6602663a.Vc
open Go.RowKit
set_option linter.unusedVariables false
set_option linter.unusedSimpArgs false
set_option maxRecDepth 10000

theorem one_u8 : ∀ x : Nat, OneV ((fun m : Nat => Value.int .u8 (m : Int)) x) := fun _ => OneV.i
theorem size5 : (Try.prog.info? 5).map (·.size) = some 1 := by kernel_rfl
theorem size21 : (Try.prog.info? 21).map (·.size) = some 1 := by kernel_rfl

/-! ### the length tests -/
theorem zz10 (a : Option Addr) (n c : Nat) (w : World) (h : n ≤ 1048576) : FF 10 #[.slice a n c] w (fun v w' => v = .bool true ∧ w' = w) := by
  refine FF.of_cc (l := [_]) Try.func10 rfl Try.ntmps10 rfl (CC.keep (F := [(0, _)]) ⟨rfl, trivial⟩ ?_)
  refine CC.seq ?_
  refine CC.region ?_
  refine RR.pv (pv_as rfl) rfl ?_
  refine RR.nil ?_
  refine CC.seq ?_
  refine CC.region ?_
  refine RR.pv (pv_as rfl) rfl ?_
  refine RR.nil ?_
  refine CC.seq ?_
  refine CC.seq ?_
  refine CC.region ?_
  refine RR.pv (pv_mv rfl) rfl ?_
  refine RR.pv (pv_len rfl st22) rfl ?_
  first | refine RR.pv (pv_gtr_t rfl rfl (by omega)) rfl ?_ | refine RR.pv (pv_gtr_f rfl rfl (by omega)) rfl ?_ | refine RR.pv (pv_gtr rfl rfl) rfl ?_
  refine RR.nil ?_
  refine CC.cond_f rfl ?_
  refine CC.skip ?_
  refine CC.seq ?_
  refine CC.region ?_
  refine RR.pv (pv_mv rfl) rfl ?_
  refine RR.pv (pv_mv rfl) rfl ?_
  refine RR.pv (pv_len rfl st22) rfl ?_
  first | refine RR.pv (pv_addN rfl rfl (by omega)) rfl ?_ | refine RR.pv (pv_add64 rfl rfl (by omega)) rfl ?_
  refine RR.pv (pv_as rfl) rfl ?_
  refine RR.nil ?_
  refine CC.seq ?_
  refine CC.seq ?_
  refine CC.region ?_
  refine RR.pv (pv_mv rfl) rfl ?_
  first | refine RR.pv (pv_gtr_t rfl rfl (by omega)) rfl ?_ | refine RR.pv (pv_gtr_f rfl rfl (by omega)) rfl ?_ | refine RR.pv (pv_gtr rfl rfl) rfl ?_
  refine RR.nil ?_
  refine CC.cond_f rfl ?_
  refine CC.skip ?_
  refine CC.seq ?_
  refine CC.region ?_
  refine RR.pv (pv_as rfl) rfl ?_
  refine RR.nil ?_
  refine CC.ret ?_
  exact EndQ.r1 Try.results10 rfl ⟨rfl, rfl⟩

theorem zz10_no (a : Option Addr) (n c : Nat) (w : World) (h : 1048576 < n) : FF 10 #[.slice a n c] w (fun v w' => v = .bool false ∧ w' = w) := by
  refine FF.of_cc (l := [_]) Try.func10 rfl Try.ntmps10 rfl (CC.keep (F := [(0, _)]) ⟨rfl, trivial⟩ ?_)
  refine CC.seq ?_
  refine CC.region ?_
  refine RR.pv (pv_as rfl) rfl ?_
  refine RR.nil ?_
  refine CC.seq ?_
  refine CC.region ?_
  refine RR.pv (pv_as rfl) rfl ?_
  refine RR.nil ?_
  refine CC.seq ?_
  refine CC.seq ?_
  refine CC.region ?_
  refine RR.pv (pv_mv rfl) rfl ?_
  refine RR.pv (pv_len rfl st22) rfl ?_
  first | refine RR.pv (pv_gtr_t rfl rfl (by omega)) rfl ?_ | refine RR.pv (pv_gtr_f rfl rfl (by omega)) rfl ?_ | refine RR.pv (pv_gtr rfl rfl) rfl ?_
  refine RR.nil ?_
  refine CC.cond_t rfl ?_
  refine CC.seq ?_
  refine CC.region ?_
  refine RR.pv (pv_as rfl) rfl ?_
  refine RR.nil ?_
  refine CC.ret ?_
  exact EndQ.r1 Try.results10 rfl ⟨rfl, rfl⟩

theorem zz15 (a : Option Addr) (n c : Nat) (t : Int) (w : World) (h : n ≤ 1048576) : FF 15 #[.slice a n c, .int .i64 t] w (fun v w' => v = .bool true ∧ w' = w) := by
  refine FF.of_cc (l := [_, _]) Try.func15 rfl Try.ntmps15 rfl (CC.keep (F := [(0, _)]) ⟨rfl, trivial⟩ ?_)
  refine CC.seq ?_
  refine CC.region ?_
  refine RR.pv (pv_as rfl) rfl ?_
  refine RR.nil ?_
  refine CC.seq ?_
  refine CC.region ?_
  refine RR.pv (pv_as rfl) rfl ?_
  refine RR.nil ?_
  refine CC.seq ?_
  refine CC.seq ?_
  refine CC.region ?_
  refine RR.pv (pv_mv rfl) rfl ?_
  refine RR.pv (pv_len rfl st22) rfl ?_
  first | refine RR.pv (pv_gtr_t rfl rfl (by omega)) rfl ?_ | refine RR.pv (pv_gtr_f rfl rfl (by omega)) rfl ?_ | refine RR.pv (pv_gtr rfl rfl) rfl ?_
  refine RR.nil ?_
  refine CC.cond_f rfl ?_
  refine CC.skip ?_
  refine CC.seq ?_
  refine CC.region ?_
  refine RR.pv (pv_mv rfl) rfl ?_
  refine RR.pv (pv_mv rfl) rfl ?_
  refine RR.pv (pv_len rfl st22) rfl ?_
  first | refine RR.pv (pv_addN rfl rfl (by omega)) rfl ?_ | refine RR.pv (pv_add64 rfl rfl (by omega)) rfl ?_
  refine RR.pv (pv_as rfl) rfl ?_
  refine RR.nil ?_
  refine CC.seq ?_
  refine CC.seq ?_
  refine CC.region ?_
  refine RR.pv (pv_mv rfl) rfl ?_
  first | refine RR.pv (pv_gtr_t rfl rfl (by omega)) rfl ?_ | refine RR.pv (pv_gtr_f rfl rfl (by omega)) rfl ?_ | refine RR.pv (pv_gtr rfl rfl) rfl ?_
  refine RR.nil ?_
  refine CC.cond_f rfl ?_
  refine CC.skip ?_
  refine CC.seq ?_
  refine CC.region ?_
  refine RR.pv (pv_as rfl) rfl ?_
  refine RR.nil ?_
  refine CC.ret ?_
  exact EndQ.r1 Try.results15 rfl ⟨rfl, rfl⟩

theorem zz15_no (a : Option Addr) (n c : Nat) (t : Int) (w : World) (h : 1048576 < n) : FF 15 #[.slice a n c, .int .i64 t] w (fun v w' => v = .bool false ∧ w' = w) := by
  refine FF.of_cc (l := [_, _]) Try.func15 rfl Try.ntmps15 rfl (CC.keep (F := [(0, _)]) ⟨rfl, trivial⟩ ?_)
  refine CC.seq ?_
  refine CC.region ?_
  refine RR.pv (pv_as rfl) rfl ?_
  refine RR.nil ?_
  refine CC.seq ?_
  refine CC.region ?_
  refine RR.pv (pv_as rfl) rfl ?_
  refine RR.nil ?_
  refine CC.seq ?_
  refine CC.seq ?_
  refine CC.region ?_
  refine RR.pv (pv_mv rfl) rfl ?_
  refine RR.pv (pv_len rfl st22) rfl ?_
  first | refine RR.pv (pv_gtr_t rfl rfl (by omega)) rfl ?_ | refine RR.pv (pv_gtr_f rfl rfl (by omega)) rfl ?_ | refine RR.pv (pv_gtr rfl rfl) rfl ?_
  refine RR.nil ?_
  refine CC.cond_t rfl ?_
  refine CC.seq ?_
  refine CC.region ?_
  refine RR.pv (pv_as rfl) rfl ?_
  refine RR.nil ?_
  refine CC.ret ?_
  exact EndQ.r1 Try.results15 rfl ⟨rfl, rfl⟩

/-! ### zzc1IsDoubled -/
def dbl (f : Nat → Nat) (n : Nat) : Bool := (List.range n).all (fun i => f i == f (n + i))
theorem dbl_true {f : Nat → Nat} {n : Nat} (h : ∀ i, i < n → f i = f (n + i)) : dbl f n = true := by
  simp only [dbl, List.all_eq_true, List.mem_range, beq_iff_eq]
  exact h
theorem dbl_false {f : Nat → Nat} {n i : Nat} (hi : i < n) (h : f i ≠ f (n + i)) : dbl f n = false := by
  rw [Bool.eq_false_iff]
  intro he
  simp only [dbl, List.all_eq_true, List.mem_range, beq_iff_eq] at he
  exact h (he i hi)
theorem dbl_spec {f : Nat → Nat} {n : Nat} (h : dbl f n = true) : ∀ i, i < n → f i = f (n + i) := by
  simp only [dbl, List.all_eq_true, List.mem_range, beq_iff_eq] at h
  exact h

theorem isDoubled_any (b off n cap : Nat) (f : Nat → Nat) (w : World) (hn : n ≤ 1048576) (ht : SN .u8 w b off n f) :
    FF 11 #[.slice (some ⟨b, off, none⟩) n cap] w (fun v w' => v = .bool (dbl f (n / 2)) ∧ w' = w) := by
  refine FF.of_cc (l := [_]) Try.func11 rfl Try.ntmps11 rfl (CC.keep (F := [(0, _)]) ⟨rfl, trivial⟩ ?_)
  refine CC.seq ?_
  refine CC.region ?_
  refine RR.pv (pv_as rfl) rfl ?_
  refine RR.nil ?_
  refine CC.seq ?_
  refine CC.region ?_
  refine RR.pv (pv_mv rfl) rfl ?_
  refine RR.pv (pv_len rfl st22) rfl ?_
  refine RR.pv (pv_quoN (n := 2) rfl rfl (by omega) (by omega)) rfl ?_
  refine RR.pv (pv_as rfl) rfl ?_
  refine RR.nil ?_
  refine CC.seq ?_
  refine CC.seq ?_
  refine CC.region ?_
  refine RR.pv (pv_as rfl) rfl ?_
  refine RR.nil ?_
  refine CC.block ?_
  refine CC.loop (γ := Nat) (F := fun i => [(0, .slice (some ⟨b, off, none⟩) n cap), (3, .int .i64 ((n / 2 : Nat) : Int)), (4, .int .i64 (i : Int))])
    (I := fun i w' => w' = w ∧ i ≤ n / 2 ∧ ∀ j, j < i → f j = f (n / 2 + j)) (μ := fun i => n / 2 - i) 0 ⟨rfl, rfl, rfl, trivial⟩ ⟨rfl, Nat.zero_le _, fun j hj => absurd hj (Nat.not_lt_zero _)⟩ ?_
  rintro i w' ⟨rfl, hi, hj⟩
  by_cases hlt : i < n / 2
  · refine CC.seq ?_
    refine CC.seq ?_
    refine CC.region ?_
    refine RR.pv (pv_mv rfl) rfl ?_
    refine RR.pv (pv_mv rfl) rfl ?_
    first | refine RR.pv (pv_lss_t rfl rfl (by omega)) rfl ?_ | refine RR.pv (pv_lss_f rfl rfl (by omega)) rfl ?_ | refine RR.pv (pv_lss rfl rfl) rfl ?_
    refine RR.nil ?_
    refine CC.cond_t rfl ?_
    refine CC.skip ?_
    refine CC.seq ?_
    refine CC.block ?_
    refine CC.seq ?_
    refine CC.regionQ (by decide +kernel) ?_
    refine RR.pv (pv_mv rfl) rfl ?_
    refine RR.pv (pv_mv rfl) rfl ?_
    first | refine RR.pv (pv_ixN rfl rfl st22 (by omega)) rfl ?_ | refine RR.pv (pv_ixZ rfl rfl st22 (by omega)) rfl ?_
    refine RR.pv (pv_ld rfl ct5 (ht _ (by omega))) rfl ?_
    refine RR.pv (pv_mv rfl) rfl ?_
    refine RR.pv (pv_mv rfl) rfl ?_
    refine RR.pv (pv_mv rfl) rfl ?_
    first | refine RR.pv (pv_addN rfl rfl (by omega)) rfl ?_ | refine RR.pv (pv_add64 rfl rfl (by omega)) rfl ?_
    first | refine RR.pv (pv_ixN rfl rfl st22 (by omega)) rfl ?_ | refine RR.pv (pv_ixZ rfl rfl st22 (by omega)) rfl ?_
    refine RR.pv (pv_ld rfl ct5 (ht _ (by omega))) rfl ?_
    first | refine RR.pv (pv_neq_t rfl rfl (by omega)) rfl ?_ | refine RR.pv (pv_neq_f rfl rfl (by omega)) rfl ?_ | refine RR.pv (pv_neq rfl rfl) rfl ?_
    refine RR.nil ?_
    refine CC.cond_d rfl (fun hc => ?_) (fun hc => ?_)
    · refine CC.seq ?_
      refine CC.region ?_
      refine RR.pv (pv_as rfl) rfl ?_
      refine RR.nil ?_
      refine CC.ret ?_
      exact EndQ.r1 Try.results11 rfl ⟨by rw [dbl_false hlt (by omega)], rfl⟩
    · refine CC.skip ?_
      refine CC.region ?_
      refine RR.pv (pv_mv rfl) rfl ?_
      first | refine RR.pv (pv_addN (n := 1) rfl rfl (by omega)) rfl ?_ | refine RR.pv (pv_add64 rfl rfl (by omega)) rfl ?_
      refine RR.pv (pv_as rfl) rfl ?_
      refine RR.nil ?_
      refine Nxt.go (i + 1) ⟨rfl, rfl, rfl, trivial⟩ ⟨rfl, by omega, fun j hj' => ?_⟩ (by omega)
      by_cases e : j = i
      · subst e; omega
      · exact hj j (by omega)
  · refine CC.seq ?_
    refine CC.seq ?_
    refine CC.region ?_
    refine RR.pv (pv_mv rfl) rfl ?_
    refine RR.pv (pv_mv rfl) rfl ?_
    first | refine RR.pv (pv_lss_t rfl rfl (by omega)) rfl ?_ | refine RR.pv (pv_lss_f rfl rfl (by omega)) rfl ?_ | refine RR.pv (pv_lss rfl rfl) rfl ?_
    refine RR.nil ?_
    refine CC.cond_f rfl ?_
    refine CC.exit ?_
    refine CC.seq ?_
    refine CC.region ?_
    refine RR.pv (pv_as rfl) rfl ?_
    refine RR.nil ?_
    refine CC.ret ?_
    exact EndQ.r1 Try.results11 rfl ⟨by rw [dbl_true (fun j hj' => hj j (by omega))], rfl⟩

/-! ### zzc1CloneBytes -/
theorem cloneBytes_nil (w : World) : FF 12 #[.slice none 0 0] w (fun v w' => v = .slice none 0 0 ∧ w' = w) := by
  refine FF.of_cc (l := [_]) Try.func12 rfl Try.ntmps12 rfl (CC.keep (F := [(0, _)]) ⟨rfl, trivial⟩ ?_)
  refine CC.seq ?_
  refine CC.region ?_
  refine RR.pv (pv_as rfl) rfl ?_
  refine RR.nil ?_
  refine CC.seq ?_
  refine CC.seq ?_
  refine CC.region ?_
  refine RR.pv (pv_mv rfl) rfl ?_
  refine RR.pv (pv_eqnil rfl st22) rfl ?_
  refine RR.nil ?_
  refine CC.cond_t rfl ?_
  refine CC.seq ?_
  refine CC.region ?_
  refine RR.pv (pv_as rfl) rfl ?_
  refine RR.nil ?_
  refine CC.ret ?_
  exact EndQ.r1 Try.results12 rfl ⟨rfl, rfl⟩

theorem cloneBytes_any (b off n cap : Nat) (f : Nat → Nat) (w : World) (hn : n ≤ 1048576) (ht : SN .u8 w b off n f) :
    FF 12 #[.slice (some ⟨b, off, none⟩) n cap] w (fun v w' => ∃ g, v = .slice (some ⟨g, 0, none⟩) n n ∧ w.heap.size ≤ g ∧ g < w'.heap.size ∧ SN .u8 w' g 0 n f ∧ WR w' g 0 n ∧ Touch (fun _ _ => False) w w') := by
  refine FF.of_cc (l := [_]) Try.func12 rfl Try.ntmps12 rfl (CC.keep (F := [(0, _)]) ⟨rfl, trivial⟩ ?_)
  refine CC.seq ?_
  refine CC.region ?_
  refine RR.pv (pv_as rfl) rfl ?_
  refine RR.nil ?_
  refine CC.seq ?_
  refine CC.seq ?_
  refine CC.region ?_
  refine RR.pv (pv_mv rfl) rfl ?_
  refine RR.pv (pv_eqnil rfl st22) rfl ?_
  refine RR.nil ?_
  refine CC.cond_f rfl ?_
  refine CC.skip ?_
  refine CC.seq ?_
  refine CC.region ?_
  refine RR.pv (pv_mv rfl) rfl ?_
  refine RR.pv (pv_len rfl st22) rfl ?_
  refine RR.mk22 rfl (by omega) rfl ?_
  refine RR.pv (pv_as rfl) rfl ?_
  refine RR.nil ?_
  refine CC.seq ?_
  refine CC.region ?_
  refine RR.pv (pv_mv rfl) rfl ?_
  refine RR.pv (pv_mv rfl) rfl ?_
  refine RR.copy (mk := fun m : Nat => Value.int .u8 (m : Int)) Try.underlying22 size5 one_u8 rfl rfl (SN.new0 .u8 w 5 n) (WR.new w _ 5 0 n) (ht.alloc _) rfl ?_
  refine RR.nil ?_
  refine CC.seq ?_
  refine CC.region ?_
  refine RR.pv (pv_mv rfl) rfl ?_
  refine RR.pv (pv_as rfl) rfl ?_
  refine RR.nil ?_
  refine CC.ret ?_
  refine EndQ.r1 Try.results12 rfl ⟨w.heap.size, rfl, Nat.le_refl _, by rw [size_setCells']; simp, ?_, (WR.new w _ 5 0 n).setCells, ?_⟩
  · have h := (SN.new0 .u8 w 5 n).v.setCells (p := 0) (m := min n n) (f' := f) (by omega)
    exact h.congr (fun i hi => by rw [if_pos ⟨Nat.zero_le _, by omega⟩]; rfl)
  · exact (Touch.alloc (fun _ _ => False) w _).trans (Touch.setCells _ _ _ _) (fun _ _ _ h => h) (fun b' o' hb h => by have := h.1; omega)

/-! ### leastRotation -/
theorem leastRotation_any (b off n cap : Nat) (g : Nat → Nat) (w : World) (hn : n ≤ 1048576) (hn0 : 0 < n) (hp : Rot.Per n g) (ht : SN .u8 w b off (2 * n) g) :
    FF 28 #[.slice (some ⟨b, off, none⟩) (2 * n) cap] w (fun v w' => ∃ r : Nat, v = .int .i64 (r : Int) ∧ w' = w ∧ Rot.First n g r) := by
  have hdiv : 2 * n / 2 = n := by omega
  refine FF.of_cc (l := [_]) Try.func28 rfl Try.ntmps28 rfl (CC.keep (F := [(0, _)]) ⟨rfl, trivial⟩ ?_)
  refine CC.seq ?_
  refine CC.region ?_
  refine RR.pv (pv_as rfl) rfl ?_
  refine RR.nil ?_
  refine CC.seq ?_
  refine CC.region ?_
  refine RR.pv (pv_mv rfl) rfl ?_
  refine RR.pv (pv_len rfl st22) rfl ?_
  refine RR.pv (pv_quoN (n := 2) rfl rfl (by omega) (by omega)) rfl ?_
  refine RR.pv (pv_as rfl) rfl ?_
  refine RR.nil ?_
  rw [hdiv]
  refine CC.seq ?_
  refine CC.region ?_
  refine RR.pv (pv_as rfl) rfl ?_
  refine RR.pv (pv_as rfl) rfl ?_
  refine RR.pv (pv_as rfl) rfl ?_
  refine RR.nil ?_
  refine CC.seq ?_
  refine CC.block ?_
  refine CC.loop (γ := Nat × Nat × Nat) (F := fun g => [(0, .slice (some ⟨b, off, none⟩) (2 * n) cap), (3, .int .i64 (n : Int)), (4, .int .i64 (g.1 : Int)), (5, .int .i64 (g.2.1 : Int)), (6, .int .i64 (g.2.2 : Int))])
    (I := fun x w' => w' = w ∧ Rot.Inv n g x.1 x.2.1 x.2.2) (μ := fun g => 6 * n + 10 - (g.1 + g.2.1 + g.2.2)) (0, 1, 0) ⟨rfl, rfl, rfl, rfl, rfl, trivial⟩ ⟨rfl, Rot.Inv.start hn0⟩ ?_
  rintro ⟨i, j, k⟩ w' ⟨rfl, hI⟩
  dsimp only at hI ⊢
  have hb := hI.ile
  have hb' := hI.jle
  have hb'' := hI.kle
  have hne := hI.ne
  by_cases h1 : i < n ∧ j < n ∧ k < n
  · obtain ⟨h1, h2, h3⟩ := h1
    refine CC.seq ?_
    refine CC.seq ?_
    refine CC.region ?_
    refine RR.pv (pv_mv rfl) rfl ?_
    refine RR.pv (pv_mv rfl) rfl ?_
    first | refine RR.pv (pv_lss_t rfl rfl (by omega)) rfl ?_ | refine RR.pv (pv_lss_f rfl rfl (by omega)) rfl ?_ | refine RR.pv (pv_lss rfl rfl) rfl ?_
    refine RR.pv (pv_mv rfl) rfl ?_
    first | refine RR.gy rfl rfl (pv_mv rfl) rfl ?_ | refine RR.gn rfl rfl rfl rfl ?_
    first | refine RR.gy rfl rfl (pv_mv rfl) rfl ?_ | refine RR.gn rfl rfl rfl rfl ?_
    first | refine RR.gy rfl rfl (pv_lss_t rfl rfl (by omega)) rfl ?_ | refine RR.gy rfl rfl (pv_lss_f rfl rfl (by omega)) rfl ?_ | refine RR.gy rfl rfl (pv_lss rfl rfl) rfl ?_ | refine RR.gn rfl rfl rfl rfl ?_
    first | refine RR.pv (pv_pick_t rfl rfl) rfl ?_ | refine RR.pv (pv_pick_f rfl rfl) rfl ?_
    refine RR.pv (pv_mv rfl) rfl ?_
    first | refine RR.gy rfl rfl (pv_mv rfl) rfl ?_ | refine RR.gn rfl rfl rfl rfl ?_
    first | refine RR.gy rfl rfl (pv_mv rfl) rfl ?_ | refine RR.gn rfl rfl rfl rfl ?_
    first | refine RR.gy rfl rfl (pv_lss_t rfl rfl (by omega)) rfl ?_ | refine RR.gy rfl rfl (pv_lss_f rfl rfl (by omega)) rfl ?_ | refine RR.gy rfl rfl (pv_lss rfl rfl) rfl ?_ | refine RR.gn rfl rfl rfl rfl ?_
    first | refine RR.pv (pv_pick_t rfl rfl) rfl ?_ | refine RR.pv (pv_pick_f rfl rfl) rfl ?_
    refine RR.nil ?_
    refine CC.cond_t rfl ?_
    refine CC.skip ?_
    refine CC.block ?_
    refine CC.seq ?_
    refine CC.regionQ (by decide +kernel) ?_
    refine RR.pv (pv_mv rfl) rfl ?_
    refine RR.pv (pv_mv rfl) rfl ?_
    refine RR.pv (pv_mv rfl) rfl ?_
    first | refine RR.pv (pv_addN rfl rfl (by omega)) rfl ?_ | refine RR.pv (pv_add64 rfl rfl (by omega)) rfl ?_
    first | refine RR.pv (pv_ixN rfl rfl st22 (by omega)) rfl ?_ | refine RR.pv (pv_ixZ rfl rfl st22 (by omega)) rfl ?_
    refine RR.pv (pv_ld rfl ct5 (ht _ (by omega))) rfl ?_
    refine RR.pv (pv_mv rfl) rfl ?_
    refine RR.pv (pv_mv rfl) rfl ?_
    refine RR.pv (pv_mv rfl) rfl ?_
    first | refine RR.pv (pv_addN rfl rfl (by omega)) rfl ?_ | refine RR.pv (pv_add64 rfl rfl (by omega)) rfl ?_
    first | refine RR.pv (pv_ixN rfl rfl st22 (by omega)) rfl ?_ | refine RR.pv (pv_ixZ rfl rfl st22 (by omega)) rfl ?_
    refine RR.pv (pv_ld rfl ct5 (ht _ (by omega))) rfl ?_
    refine RR.pv (pv_as rfl) rfl ?_
    refine RR.pv (pv_as rfl) rfl ?_
    refine RR.nil ?_
    by_cases heq : g (i + k) = g (j + k)
    · refine CC.seq ?_
      refine CC.block ?_
      refine CC.seq ?_
      refine CC.region ?_
      refine RR.pv (pv_mv rfl) rfl ?_
      refine RR.pv (pv_mv rfl) rfl ?_
      first | refine RR.pv (pv_eql_t rfl rfl (by omega)) rfl ?_ | refine RR.pv (pv_eql_f rfl rfl (by omega)) rfl ?_ | refine RR.pv (pv_eql rfl rfl) rfl ?_
      refine RR.pv (pv_as rfl) rfl ?_
      refine RR.nil ?_
      refine CC.cond_t rfl ?_
      refine CC.seq ?_
      refine CC.region ?_
      refine RR.pv (pv_mv rfl) rfl ?_
      first | refine RR.pv (pv_addN (n := 1) rfl rfl (by omega)) rfl ?_ | refine RR.pv (pv_add64 rfl rfl (by omega)) rfl ?_
      refine RR.pv (pv_as rfl) rfl ?_
      refine RR.nil ?_
      refine CC.exit ?_
      exact Nxt.go (i, j, k + 1) ⟨rfl, rfl, rfl, rfl, rfl, trivial⟩ ⟨rfl, hI.step_eq h3 heq⟩ (by dsimp only; omega)
    · refine CC.seq ?_
      refine CC.block ?_
      refine CC.seq ?_
      refine CC.region ?_
      refine RR.pv (pv_mv rfl) rfl ?_
      refine RR.pv (pv_mv rfl) rfl ?_
      first | refine RR.pv (pv_eql_t rfl rfl (by omega)) rfl ?_ | refine RR.pv (pv_eql_f rfl rfl (by omega)) rfl ?_ | refine RR.pv (pv_eql rfl rfl) rfl ?_
      refine RR.pv (pv_as rfl) rfl ?_
      refine RR.nil ?_
      refine CC.cond_f rfl ?_
      by_cases hgt : g (j + k) < g (i + k)
      · refine CC.seq ?_
        refine CC.region ?_
        refine RR.pv (pv_mv rfl) rfl ?_
        refine RR.pv (pv_mv rfl) rfl ?_
        first | refine RR.pv (pv_gtr_t rfl rfl (by omega)) rfl ?_ | refine RR.pv (pv_gtr_f rfl rfl (by omega)) rfl ?_ | refine RR.pv (pv_gtr rfl rfl) rfl ?_
        refine RR.pv (pv_as rfl) rfl ?_
        refine RR.nil ?_
        refine CC.cond_t rfl ?_
        refine CC.region ?_
        refine RR.pv (pv_mv rfl) rfl ?_
        refine RR.pv (pv_mv rfl) rfl ?_
        first | refine RR.pv (pv_addN (n := 1) rfl rfl (by omega)) rfl ?_ | refine RR.pv (pv_add64 rfl rfl (by omega)) rfl ?_
        first | refine RR.pv (pv_addN rfl rfl (by omega)) rfl ?_ | refine RR.pv (pv_add64 rfl rfl (by omega)) rfl ?_
        refine RR.pv (pv_as rfl) rfl ?_
        refine RR.nil ?_
        by_cases hij : i + (k + 1) = j
        · refine CC.seq ?_
          refine CC.seq ?_
          refine CC.region ?_
          refine RR.pv (pv_mv rfl) rfl ?_
          refine RR.pv (pv_mv rfl) rfl ?_
          first | refine RR.pv (pv_eql_t rfl rfl (by omega)) rfl ?_ | refine RR.pv (pv_eql_f rfl rfl (by omega)) rfl ?_ | refine RR.pv (pv_eql rfl rfl) rfl ?_
          refine RR.nil ?_
          refine CC.cond_t rfl ?_
          refine CC.region ?_
          refine RR.pv (pv_mv rfl) rfl ?_
          first | refine RR.pv (pv_addN (n := 1) rfl rfl (by omega)) rfl ?_ | refine RR.pv (pv_add64 rfl rfl (by omega)) rfl ?_
          refine RR.pv (pv_as rfl) rfl ?_
          refine RR.nil ?_
          refine CC.region ?_
          refine RR.pv (pv_as rfl) rfl ?_
          refine RR.nil ?_
          exact Nxt.go (i + (k + 1), j + 1, 0) ⟨rfl, rfl, rfl, rfl, rfl, trivial⟩ ⟨rfl, hI.step_gt' h1 h2 h3 hgt hij⟩ (by dsimp only; omega)
        · refine CC.seq ?_
          refine CC.seq ?_
          refine CC.region ?_
          refine RR.pv (pv_mv rfl) rfl ?_
          refine RR.pv (pv_mv rfl) rfl ?_
          first | refine RR.pv (pv_eql_t rfl rfl (by omega)) rfl ?_ | refine RR.pv (pv_eql_f rfl rfl (by omega)) rfl ?_ | refine RR.pv (pv_eql rfl rfl) rfl ?_
          refine RR.nil ?_
          refine CC.cond_f rfl ?_
          refine CC.skip ?_
          refine CC.region ?_
          refine RR.pv (pv_as rfl) rfl ?_
          refine RR.nil ?_
          exact Nxt.go (i + (k + 1), j, 0) ⟨rfl, rfl, rfl, rfl, rfl, trivial⟩ ⟨rfl, hI.step_gt h1 h2 h3 hgt hij⟩ (by dsimp only; omega)
      · refine CC.seq ?_
        refine CC.region ?_
        refine RR.pv (pv_mv rfl) rfl ?_
        refine RR.pv (pv_mv rfl) rfl ?_
        first | refine RR.pv (pv_gtr_t rfl rfl (by omega)) rfl ?_ | refine RR.pv (pv_gtr_f rfl rfl (by omega)) rfl ?_ | refine RR.pv (pv_gtr rfl rfl) rfl ?_
        refine RR.pv (pv_as rfl) rfl ?_
        refine RR.nil ?_
        refine CC.cond_f rfl ?_
        refine CC.region ?_
        refine RR.pv (pv_mv rfl) rfl ?_
        refine RR.pv (pv_mv rfl) rfl ?_
        first | refine RR.pv (pv_addN (n := 1) rfl rfl (by omega)) rfl ?_ | refine RR.pv (pv_add64 rfl rfl (by omega)) rfl ?_
        first | refine RR.pv (pv_addN rfl rfl (by omega)) rfl ?_ | refine RR.pv (pv_add64 rfl rfl (by omega)) rfl ?_
        refine RR.pv (pv_as rfl) rfl ?_
        refine RR.nil ?_
        by_cases hij : i = j + (k + 1)
        · refine CC.seq ?_
          refine CC.seq ?_
          refine CC.region ?_
          refine RR.pv (pv_mv rfl) rfl ?_
          refine RR.pv (pv_mv rfl) rfl ?_
          first | refine RR.pv (pv_eql_t rfl rfl (by omega)) rfl ?_ | refine RR.pv (pv_eql_f rfl rfl (by omega)) rfl ?_ | refine RR.pv (pv_eql rfl rfl) rfl ?_
          refine RR.nil ?_
          refine CC.cond_t rfl ?_
          refine CC.region ?_
          refine RR.pv (pv_mv rfl) rfl ?_
          first | refine RR.pv (pv_addN (n := 1) rfl rfl (by omega)) rfl ?_ | refine RR.pv (pv_add64 rfl rfl (by omega)) rfl ?_
          refine RR.pv (pv_as rfl) rfl ?_
          refine RR.nil ?_
          refine CC.region ?_
          refine RR.pv (pv_as rfl) rfl ?_
          refine RR.nil ?_
          exact Nxt.go (i, j + (k + 1) + 1, 0) ⟨rfl, rfl, rfl, rfl, rfl, trivial⟩ ⟨rfl, hI.step_lt' h1 h2 h3 (by omega) hij⟩ (by dsimp only; omega)
        · refine CC.seq ?_
          refine CC.seq ?_
          refine CC.region ?_
          refine RR.pv (pv_mv rfl) rfl ?_
          refine RR.pv (pv_mv rfl) rfl ?_
          first | refine RR.pv (pv_eql_t rfl rfl (by omega)) rfl ?_ | refine RR.pv (pv_eql_f rfl rfl (by omega)) rfl ?_ | refine RR.pv (pv_eql rfl rfl) rfl ?_
          refine RR.nil ?_
          refine CC.cond_f rfl ?_
          refine CC.skip ?_
          refine CC.region ?_
          refine RR.pv (pv_as rfl) rfl ?_
          refine RR.nil ?_
          exact Nxt.go (i, j + (k + 1), 0) ⟨rfl, rfl, rfl, rfl, rfl, trivial⟩ ⟨rfl, hI.step_lt h1 h2 h3 (by omega) hij⟩ (by dsimp only; omega)
  · have hx : ¬ i < n ∨ (i < n ∧ ¬ j < n) ∨ (i < n ∧ j < n ∧ ¬ k < n) := by omega
    rcases hx with hx | ⟨hx1, hx⟩ | ⟨hx1, hx2, hx⟩
    all_goals
      refine CC.seq ?_
      refine CC.seq ?_
      refine CC.region ?_
      refine RR.pv (pv_mv rfl) rfl ?_
      refine RR.pv (pv_mv rfl) rfl ?_
      first | refine RR.pv (pv_lss_t rfl rfl (by omega)) rfl ?_ | refine RR.pv (pv_lss_f rfl rfl (by omega)) rfl ?_ | refine RR.pv (pv_lss rfl rfl) rfl ?_
      refine RR.pv (pv_mv rfl) rfl ?_
      first | refine RR.gy rfl rfl (pv_mv rfl) rfl ?_ | refine RR.gn rfl rfl rfl rfl ?_
      first | refine RR.gy rfl rfl (pv_mv rfl) rfl ?_ | refine RR.gn rfl rfl rfl rfl ?_
      first | refine RR.gy rfl rfl (pv_lss_t rfl rfl (by omega)) rfl ?_ | refine RR.gy rfl rfl (pv_lss_f rfl rfl (by omega)) rfl ?_ | refine RR.gy rfl rfl (pv_lss rfl rfl) rfl ?_ | refine RR.gn rfl rfl rfl rfl ?_
      first | refine RR.pv (pv_pick_t rfl rfl) rfl ?_ | refine RR.pv (pv_pick_f rfl rfl) rfl ?_
      refine RR.pv (pv_mv rfl) rfl ?_
      first | refine RR.gy rfl rfl (pv_mv rfl) rfl ?_ | refine RR.gn rfl rfl rfl rfl ?_
      first | refine RR.gy rfl rfl (pv_mv rfl) rfl ?_ | refine RR.gn rfl rfl rfl rfl ?_
      first | refine RR.gy rfl rfl (pv_lss_t rfl rfl (by omega)) rfl ?_ | refine RR.gy rfl rfl (pv_lss_f rfl rfl (by omega)) rfl ?_ | refine RR.gy rfl rfl (pv_lss rfl rfl) rfl ?_ | refine RR.gn rfl rfl rfl rfl ?_
      first | refine RR.pv (pv_pick_t rfl rfl) rfl ?_ | refine RR.pv (pv_pick_f rfl rfl) rfl ?_
      refine RR.nil ?_
      refine CC.cond_f rfl ?_
      refine CC.exit ?_
      refine CC.seq ?_
      refine CC.region ?_
      refine RR.pv (pv_mv rfl) rfl ?_
      refine RR.pv (pv_mv rfl) rfl ?_
      refine RR.pv (pv_min rfl rfl) rfl ?_
      refine RR.pv (pv_as rfl) rfl ?_
      refine RR.nil ?_
      refine CC.ret ?_
      exact EndQ.r1 Try.results28 rfl ⟨min i j, rfl, rfl, hI.done hp hn0 (by omega)⟩

theorem nm28 : (Try.f28.name == "runtime.NumGoroutine") = false := by kernel_rfl

theorem zzLeastRotation_any (b off n cap : Nat) (g : Nat → Nat) (w : World) (hn : n ≤ 1048576) (hn0 : 0 < n) (hp : Rot.Per n g) (ht : SN .u8 w b off (2 * n) g) :
    FF 13 #[.slice (some ⟨b, off, none⟩) (2 * n) cap] w (fun v w' => ∃ r : Nat, v = .int .i64 (r : Int) ∧ w' = w ∧ Rot.First n g r) := by
  refine FF.of_cc (l := [_]) Try.func13 rfl Try.ntmps13 rfl (CC.keep (F := [(0, _)]) ⟨rfl, trivial⟩ ?_)
  refine CC.seq ?_
  refine CC.region ?_
  refine RR.pv (pv_as rfl) rfl ?_
  refine RR.nil ?_
  refine CC.seq ?_
  refine CC.region ?_
  refine RR.pv (pv_mv rfl) rfl ?_
  refine RR.call Try.func28 nm28 rfl rfl (leastRotation_any b off n cap g w hn hn0 hp ht) rfl ?_
  rintro v w' ⟨r, rfl, rfl, hr⟩
  refine RR.pv (pv_as rfl) rfl ?_
  refine RR.nil ?_
  refine CC.ret ?_
  exact EndQ.r1 Try.results13 rfl ⟨r, rfl, rfl, hr⟩

end Go.Proofs.Qxb6602663a.Vc
