/-
  The walks of induce.
-/
import Derived.Test.Qxb6602663aBu
namespace Go.Proofs.Qxb6602663a.Vc
open Go.RowKit
open Go.Proofs.Qxb6602663a.Sa (Nc Bk Bk_le Bk_mono Ty Ini LI SP)
set_option linter.unusedVariables false
set_option linter.unusedSimpArgs false
set_option maxRecDepth 10000

theorem nm35 : (Try.f35.name == "runtime.NumGoroutine") = false := by kernel_rfl
theorem nm39 : (Try.f39.name == "runtime.NumGoroutine") = false := by kernel_rfl

set_option maxHeartbeats 1000000 in
theorem induce36_any (l : Lay) (t : Nat → Nat) (s : Nat → Bool) (A0 : Nat → Int) (bk0 : Nat → Nat) (w : World) (hn : l.n ≤ 1048576) (h2 : 0 < l.n) (hkk : l.k ≤ 1048576) (hk : ∀ i, i < l.n → t i < l.k) (g : Geo l) (hM : M5 .u8 l t s (Nc l.n t) A0 bk0 w) (hT : Ty l.n t s) (hI : Ini l.n t s A0) :
    FF 36 #[.slice (some ⟨l.bt, l.ot, none⟩) l.n l.ct, .slice (some ⟨l.bs, l.os, none⟩) l.n l.cs, .slice (some ⟨l.b3, 0, none⟩) l.n l.n, .slice (some ⟨l.bb, 0, none⟩) l.k l.k, .slice (some ⟨l.bc, 0, none⟩) l.k l.k] w
      (fun v w' => ∃ AL bkL A bkA, LI l.n t s A0 true l.n AL bkL ∧ SP l.n t s AL 0 A bkA ∧ M5 .u8 l t s (Nc l.n t) A bkA w' ∧ Touch (tS l) w w') := by
  have hk0 : 0 < l.k := by have := hk 0 h2; omega
  refine FF.of_cc (l := [_, _, _, _, _]) Try.func36 rfl Try.ntmps36 rfl (CC.keep (F := [(0, _), (1, _), (2, _), (3, _), (4, _)]) ⟨rfl, rfl, rfl, rfl, rfl, trivial⟩ ?_)
  refine CC.seq ?_
  refine CC.region ?_
  refine RR.pv (pv_mv rfl) rfl ?_
  refine RR.pv (pv_len rfl st22) rfl ?_
  refine RR.pv (pv_as rfl) rfl ?_
  refine RR.nil ?_
  refine CC.seq ?_
  refine CC.region ?_
  refine RR.pv (pv_mv rfl) rfl ?_
  refine RR.pv (pv_mv rfl) rfl ?_
  refine RR.call Try.func39 nm39 rfl rfl (bucketStarts_any l.bb l.bc l.n l.k t bk0 w hn hkk g.cb hM.hb hM.wb hM.hc) rfl (fun v1 w1 ⟨hb1, hT1⟩ => ?_)
  refine RR.nil ?_
  have hM1 := hM.bkTouch g h2 hk0 hT1 hb1
  have hTt1 : Touch (tS l) w w1 := hT1.mono (fun b o _ h => .inr h)
  clear hM hT1 hb1
  have hst := LI.start hT h2 hI
  have htn : t (l.n - 1) < l.k := hk _ (by omega)
  refine CC.seq ?_
  refine CC.region ?_
  refine RR.pv (pv_mv rfl) rfl ?_
  refine RR.pv (pv_mv rfl) rfl ?_
  first | refine RR.pv (pv_subN (n := 1) rfl rfl (by omega)) rfl ?_ | refine RR.pv (pv_sub64 rfl rfl (by omega)) rfl ?_
  first | refine RR.pv (pv_ixN rfl rfl st22 (by omega)) rfl ?_ | refine RR.pv (pv_ixZ rfl rfl st22 (by omega)) rfl ?_
  refine RR.pv (pv_ld rfl ct5 (hM1.ht (l.n - 1) (by omega))) rfl ?_
  refine RR.pv (pv_as rfl) rfl ?_
  refine RR.nil ?_
  have hbn := hst.2
  refine CC.seq ?_
  refine CC.region ?_
  refine RR.pv (pv_mv rfl) rfl ?_
  refine RR.pv (pv_mv rfl) rfl ?_
  refine RR.pv (pv_mv rfl) rfl ?_
  first | refine RR.pv (pv_ixN rfl rfl st28 (by omega)) rfl ?_ | refine RR.pv (pv_ixZ rfl rfl st28 (by omega)) rfl ?_
  refine RR.pv (pv_ld rfl ct21 (hM1.hb (t (l.n - 1)) htn)) rfl ?_
  refine RR.pv (pv_mv rfl) rfl ?_
  first | refine RR.pv (pv_subN (n := 1) rfl rfl (by omega)) rfl ?_ | refine RR.pv (pv_sub64 rfl rfl (by omega)) rfl ?_
  first | refine RR.pv (pv_c3_21 rfl (by omega)) rfl ?_ | refine RR.pv (pv_c3_21w rfl) rfl ?_
  first | refine RR.pv (pv_ixN rfl rfl st28 (by omega)) rfl ?_ | refine RR.pv (pv_ixZ rfl rfl st28 (by omega)) rfl ?_
  refine RR.st rfl rfl ct21 OneV.i (hM1.ha (Bk l.n t (t (l.n - 1))) hbn) (hM1.wa _ hbn) ?_
  have hM2 := hM1.setA g hbn ((l.n - 1 : Nat) : Int)
  have hTt2 := tS.tr hTt1 (tS.a l w1 hbn (.int .i32 ((l.n - 1 : Nat) : Int)))
  generalize w1.setCell _ _ = w2 at hM2 hTt2 ⊢
  refine RR.nil ?_
  refine CC.seq ?_
  refine CC.region ?_
  refine RR.pv (pv_mv rfl) rfl ?_
  refine RR.pv (pv_mv rfl) rfl ?_
  first | refine RR.pv (pv_ixN rfl rfl st28 (by omega)) rfl ?_ | refine RR.pv (pv_ixZ rfl rfl st28 (by omega)) rfl ?_
  refine RR.pv (pv_ld rfl ct21 (hM2.hb (t (l.n - 1)) htn)) rfl ?_
  refine RR.pv (pv_add32 rfl rfl (by omega)) rfl ?_
  rw [show ((Bk l.n t (t (l.n - 1)) : Nat) : Int) + 1 = ((Bk l.n t (t (l.n - 1)) + 1 : Nat) : Int) from by omega]
  first | refine RR.pv (pv_ixN rfl rfl st28 (by omega)) rfl ?_ | refine RR.pv (pv_ixZ rfl rfl st28 (by omega)) rfl ?_
  refine RR.st rfl rfl ct21 OneV.i (hM2.hb (t (l.n - 1)) htn) (hM2.wb _ htn) ?_
  have hM3 := hM2.setB g htn (Bk l.n t (t (l.n - 1)) + 1)
  have hTt3 := tS.tr hTt2 (tS.b l w2 (0 + t (l.n - 1)) (.int .i32 ((Bk l.n t (t (l.n - 1)) + 1 : Nat) : Int)))
  generalize w2.setCell _ _ = w3 at hM3 hTt3 ⊢
  refine RR.nil ?_
  clear hM1 hM2 hTt1 hTt2
  refine CC.seq ?_
  refine CC.seq ?_
  refine CC.region ?_
  refine RR.pv (pv_mv rfl) rfl ?_
  refine RR.pv (pv_mv rfl) rfl ?_
  refine RR.nil ?_
  refine CC.block ?_
  refine CC.loop (γ := Nat × (Nat → Int) × (Nat → Nat)) (F := fun g => [(0, .slice (some ⟨l.bt, l.ot, none⟩) l.n l.ct), (1, .slice (some ⟨l.bs, l.os, none⟩) l.n l.cs), (2, .slice (some ⟨l.b3, 0, none⟩) l.n l.n), (3, .slice (some ⟨l.bb, 0, none⟩) l.k l.k), (4, .slice (some ⟨l.bc, 0, none⟩) l.k l.k), (10, .int .i64 (l.n : Int)), (43, .int .i64 (l.n : Int)), (44, .int .i64 (g.1 : Int))])
    (I := fun g w' => g.1 ≤ l.n ∧ LI l.n t s A0 true g.1 g.2.1 g.2.2 ∧ M5 .u8 l t s (Nc l.n t) g.2.1 g.2.2 w' ∧ Touch (tS l) w w') (μ := fun g => l.n - g.1) (0, _, _) ⟨rfl, rfl, rfl, rfl, rfl, rfl, rfl, rfl, trivial⟩
    ⟨Nat.zero_le _, hst.1, hM3, hTt3⟩ ?_
  clear hM3 hTt3 hst
  rintro ⟨i, A, bk⟩ w4 ⟨hi, hLI, hM4, hTt4⟩
  dsimp only at hi hLI hM4 ⊢
  by_cases hlt : i < l.n
  · refine CC.seq ?_
    refine CC.region ?_
    first | refine RR.pv (pv_lss_t rfl rfl (by omega)) rfl ?_ | refine RR.pv (pv_lss_f rfl rfl (by omega)) rfl ?_ | refine RR.pv (pv_lss rfl rfl) rfl ?_
    refine RR.nil ?_
    refine CC.seq ?_
    refine CC.cond_t rfl ?_
    refine CC.skip ?_
    refine CC.seq ?_
    refine CC.block ?_
    refine CC.seq ?_
    refine CC.region ?_
    refine RR.pv (pv_mv rfl) rfl ?_
    refine RR.pv (pv_as rfl) rfl ?_
    refine RR.nil ?_
    have hrg := hLI.rng i hlt
    by_cases hp0 : A i ≤ 0
    · refine CC.seq ?_
      refine CC.region ?_
      refine RR.pv (pv_mv rfl) rfl ?_
      refine RR.pv (pv_mv rfl) rfl ?_
      first | refine RR.pv (pv_ixN rfl rfl st28 (by omega)) rfl ?_ | refine RR.pv (pv_ixZ rfl rfl st28 (by omega)) rfl ?_
      refine RR.pv (pv_ld rfl ct21 (hM4.ha i hlt)) rfl ?_
      refine RR.pv (pv_sub32 rfl rfl (by omega)) rfl ?_
      refine RR.pv (pv_as rfl) rfl ?_
      refine RR.nil ?_
      refine CC.seq ?_
      refine CC.region ?_
      refine RR.pv (pv_mv rfl) rfl ?_
      first | refine RR.pv (pv_geq_t rfl rfl (by omega)) rfl ?_ | refine RR.pv (pv_geq_f rfl rfl (by omega)) rfl ?_ | refine RR.pv (pv_geq rfl rfl) rfl ?_
      refine RR.pv (pv_mv rfl) rfl ?_
      first | refine RR.gy rfl rfl (pv_mv rfl) rfl ?_ | refine RR.gn rfl rfl rfl rfl ?_
      first | refine RR.gy rfl rfl (pv_mv rfl) rfl ?_ | refine RR.gn rfl rfl rfl rfl ?_
      first | refine RR.gy rfl rfl (pv_ixN rfl rfl st36 (by omega)) rfl ?_ | refine RR.gy rfl rfl (pv_ixZ rfl rfl st36 (by omega)) rfl ?_ | refine RR.gn rfl rfl rfl rfl ?_
      first | refine RR.gy rfl rfl (pv_ld rfl ct4 (HOLE)) rfl ?_ | refine RR.gn rfl rfl rfl rfl ?_
      first | refine RR.gy rfl rfl (pv_not_t rfl) rfl ?_ | refine RR.gy rfl rfl (pv_not_f rfl) rfl ?_ | refine RR.gy rfl rfl (pv_not rfl) rfl ?_ | refine RR.gn rfl rfl rfl rfl ?_
      first | refine RR.pv (pv_pick_t rfl rfl) rfl ?_ | refine RR.pv (pv_pick_f rfl rfl) rfl ?_
      refine RR.nil ?_
      refine CC.cond_f rfl ?_
      refine CC.skip ?_
      refine CC.region ?_
      first | refine RR.pv (pv_addN (n := 1) rfl rfl (by omega)) rfl ?_ | refine RR.pv (pv_add64 rfl rfl (by omega)) rfl ?_
      refine RR.pv (pv_mv rfl) rfl ?_
      refine RR.nil ?_
      exact Nxt.go (i + 1, A, bk) ⟨rfl, rfl, rfl, rfl, rfl, rfl, rfl, rfl, trivial⟩ ⟨hlt, hLI.pass hlt (fun p e => by omega), hM4, hTt4⟩ (by dsimp only; omega)
    obtain ⟨p, hp⟩ : ∃ p : Nat, A i = (p : Int) + 1 := ⟨(A i - 1).toNat, by omega⟩
    have hpn : p < l.n := by omega
    have hcell : w4.cell? ⟨l.bs, l.os + i, none⟩ = some (.int .i32 ((p : Int) + 1)) := by rw [← hp]; exact hM4.ha i hlt
    refine CC.seq ?_
    refine CC.region ?_
    refine RR.pv (pv_mv rfl) rfl ?_
    refine RR.pv (pv_mv rfl) rfl ?_
    first | refine RR.pv (pv_ixN rfl rfl st28 (by omega)) rfl ?_ | refine RR.pv (pv_ixZ rfl rfl st28 (by omega)) rfl ?_
    refine RR.pv (pv_ld rfl ct21 (hcell)) rfl ?_
    refine RR.pv (pv_sub32 rfl rfl (by omega)) rfl ?_
    rw [show (p : Int) + 1 - 1 = (p : Int) from by omega]
    refine RR.pv (pv_as rfl) rfl ?_
    refine RR.nil ?_
    by_cases hsp : s p = true
    · have hsc : w4.cell? ⟨l.b3, 0 + p, none⟩ = some (.bool true) := by rw [← hsp]; exact hM4.hs p hpn
      refine CC.seq ?_
      refine CC.region ?_
      refine RR.pv (pv_mv rfl) rfl ?_
      first | refine RR.pv (pv_geq_t rfl rfl (by omega)) rfl ?_ | refine RR.pv (pv_geq_f rfl rfl (by omega)) rfl ?_ | refine RR.pv (pv_geq rfl rfl) rfl ?_
      refine RR.pv (pv_mv rfl) rfl ?_
      first | refine RR.gy rfl rfl (pv_mv rfl) rfl ?_ | refine RR.gn rfl rfl rfl rfl ?_
      first | refine RR.gy rfl rfl (pv_mv rfl) rfl ?_ | refine RR.gn rfl rfl rfl rfl ?_
      first | refine RR.gy rfl rfl (pv_ixN rfl rfl st36 (by omega)) rfl ?_ | refine RR.gy rfl rfl (pv_ixZ rfl rfl st36 (by omega)) rfl ?_ | refine RR.gn rfl rfl rfl rfl ?_
      first | refine RR.gy rfl rfl (pv_ld rfl ct4 (hsc)) rfl ?_ | refine RR.gn rfl rfl rfl rfl ?_
      first | refine RR.gy rfl rfl (pv_not_t rfl) rfl ?_ | refine RR.gy rfl rfl (pv_not_f rfl) rfl ?_ | refine RR.gy rfl rfl (pv_not rfl) rfl ?_ | refine RR.gn rfl rfl rfl rfl ?_
      first | refine RR.pv (pv_pick_t rfl rfl) rfl ?_ | refine RR.pv (pv_pick_f rfl rfl) rfl ?_
      refine RR.nil ?_
      refine CC.cond_f rfl ?_
      refine CC.skip ?_
      refine CC.region ?_
      first | refine RR.pv (pv_addN (n := 1) rfl rfl (by omega)) rfl ?_ | refine RR.pv (pv_add64 rfl rfl (by omega)) rfl ?_
      refine RR.pv (pv_mv rfl) rfl ?_
      refine RR.nil ?_
      exact Nxt.go (i + 1, A, bk) ⟨rfl, rfl, rfl, rfl, rfl, rfl, rfl, rfl, trivial⟩ ⟨hlt, hLI.pass hlt (fun p' e => by rw [show p' = p from by omega]; exact hsp), hM4, hTt4⟩ (by dsimp only; omega)
    have hsp' : s p = false := by simpa using hsp
    have hsc : w4.cell? ⟨l.b3, 0 + p, none⟩ = some (.bool false) := by rw [← hsp']; exact hM4.hs p hpn
    have htp := hk p hpn
    obtain ⟨hLI', hbp⟩ := hLI.push hT hI hlt hp hsp'
    refine CC.seq ?_
    refine CC.region ?_
    refine RR.pv (pv_mv rfl) rfl ?_
    first | refine RR.pv (pv_geq_t rfl rfl (by omega)) rfl ?_ | refine RR.pv (pv_geq_f rfl rfl (by omega)) rfl ?_ | refine RR.pv (pv_geq rfl rfl) rfl ?_
    refine RR.pv (pv_mv rfl) rfl ?_
    first | refine RR.gy rfl rfl (pv_mv rfl) rfl ?_ | refine RR.gn rfl rfl rfl rfl ?_
    first | refine RR.gy rfl rfl (pv_mv rfl) rfl ?_ | refine RR.gn rfl rfl rfl rfl ?_
    first | refine RR.gy rfl rfl (pv_ixN rfl rfl st36 (by omega)) rfl ?_ | refine RR.gy rfl rfl (pv_ixZ rfl rfl st36 (by omega)) rfl ?_ | refine RR.gn rfl rfl rfl rfl ?_
    first | refine RR.gy rfl rfl (pv_ld rfl ct4 (hsc)) rfl ?_ | refine RR.gn rfl rfl rfl rfl ?_
    first | refine RR.gy rfl rfl (pv_not_t rfl) rfl ?_ | refine RR.gy rfl rfl (pv_not_f rfl) rfl ?_ | refine RR.gy rfl rfl (pv_not rfl) rfl ?_ | refine RR.gn rfl rfl rfl rfl ?_
    first | refine RR.pv (pv_pick_t rfl rfl) rfl ?_ | refine RR.pv (pv_pick_f rfl rfl) rfl ?_
    refine RR.nil ?_
    refine CC.cond_t rfl ?_
    refine CC.seq ?_
    refine CC.region ?_
    refine RR.pv (pv_mv rfl) rfl ?_
    refine RR.pv (pv_mv rfl) rfl ?_
    first | refine RR.pv (pv_ixN rfl rfl st22 (by omega)) rfl ?_ | refine RR.pv (pv_ixZ rfl rfl st22 (by omega)) rfl ?_
    refine RR.pv (pv_ld rfl ct5 (hM4.ht p hpn)) rfl ?_
    refine RR.pv (pv_as rfl) rfl ?_
    refine RR.nil ?_
    refine CC.seq ?_
    refine CC.region ?_
    refine RR.pv (pv_mv rfl) rfl ?_
    refine RR.pv (pv_mv rfl) rfl ?_
    refine RR.pv (pv_mv rfl) rfl ?_
    first | refine RR.pv (pv_ixN rfl rfl st28 (by omega)) rfl ?_ | refine RR.pv (pv_ixZ rfl rfl st28 (by omega)) rfl ?_
    refine RR.pv (pv_ld rfl ct21 (hM4.hb (t p) htp)) rfl ?_
    refine RR.pv (pv_mv rfl) rfl ?_
    first | refine RR.pv (pv_ixN rfl rfl st28 (by omega)) rfl ?_ | refine RR.pv (pv_ixZ rfl rfl st28 (by omega)) rfl ?_
    refine RR.st rfl rfl ct21 OneV.i (hM4.ha (bk (t p)) hbp) (hM4.wa _ hbp) ?_
    have hM5 := hM4.setA g hbp (p : Int)
    have hTt5 := tS.tr hTt4 (tS.a l w4 hbp (.int .i32 (p : Int)))
    generalize w4.setCell _ _ = w5 at hM5 hTt5 ⊢
    refine RR.nil ?_
    refine CC.region ?_
    refine RR.pv (pv_mv rfl) rfl ?_
    refine RR.pv (pv_mv rfl) rfl ?_
    first | refine RR.pv (pv_ixN rfl rfl st28 (by omega)) rfl ?_ | refine RR.pv (pv_ixZ rfl rfl st28 (by omega)) rfl ?_
    refine RR.pv (pv_ld rfl ct21 (hM5.hb (t p) htp)) rfl ?_
    refine RR.pv (pv_add32 rfl rfl (by omega)) rfl ?_
    rw [show ((bk (t p) : Nat) : Int) + 1 = ((bk (t p) + 1 : Nat) : Int) from by omega]
    first | refine RR.pv (pv_ixN rfl rfl st28 (by omega)) rfl ?_ | refine RR.pv (pv_ixZ rfl rfl st28 (by omega)) rfl ?_
    refine RR.st rfl rfl ct21 OneV.i (hM5.hb (t p) htp) (hM5.wb _ htp) ?_
    have hM6 := hM5.setB g htp (bk (t p) + 1)
    have hTt6 := tS.tr hTt5 (tS.b l w5 (0 + t p) (.int .i32 ((bk (t p) + 1 : Nat) : Int)))
    generalize w5.setCell _ _ = w6 at hM6 hTt6 ⊢
    refine RR.nil ?_
    refine CC.region ?_
    first | refine RR.pv (pv_addN (n := 1) rfl rfl (by omega)) rfl ?_ | refine RR.pv (pv_add64 rfl rfl (by omega)) rfl ?_
    refine RR.pv (pv_mv rfl) rfl ?_
    refine RR.nil ?_
    exact Nxt.go (i + 1, _, _) ⟨rfl, rfl, rfl, rfl, rfl, rfl, rfl, rfl, trivial⟩ ⟨hlt, hLI', hM6, hTt6⟩ (by dsimp only; omega)
  have hin : i = l.n := by omega
  subst hin
  refine CC.seq ?_
  refine CC.region ?_
  first | refine RR.pv (pv_lss_t rfl rfl (by omega)) rfl ?_ | refine RR.pv (pv_lss_f rfl rfl (by omega)) rfl ?_ | refine RR.pv (pv_lss rfl rfl) rfl ?_
  refine RR.nil ?_
  refine CC.seq ?_
  refine CC.cond_f rfl ?_
  refine CC.exit ?_
  refine CC.seq ?_
  refine CC.region ?_
  refine RR.pv (pv_mv rfl) rfl ?_
  refine RR.pv (pv_mv rfl) rfl ?_
  refine RR.call Try.func35 nm35 rfl rfl (bucketEnds_any l.bb l.bc l.n l.k t bk w4 hn hkk g.cb hM4.hb hM4.wb hM4.hc) rfl (fun v5 w5 ⟨hb5, hT5⟩ => ?_)
  refine RR.nil ?_
  have hM5 := hM4.bkTouch g h2 hk0 hT5 hb5
  have hTt5 : Touch (tS l) w w5 := tS.tr hTt4 (hT5.mono (fun b o _ h => .inr h))
  clear hM4 hT5 hb5 hTt4
  have hS0 := SP.start hT hI hLI
  refine CC.seq ?_
  refine CC.region ?_
  refine RR.pv (pv_mv rfl) rfl ?_
  first | refine RR.pv (pv_subN (n := 1) rfl rfl (by omega)) rfl ?_ | refine RR.pv (pv_sub64 rfl rfl (by omega)) rfl ?_
  refine RR.pv (pv_as rfl) rfl ?_
  refine RR.nil ?_
  refine CC.block ?_
  refine CC.loop (γ := Nat × (Nat → Int) × (Nat → Nat)) (F := fun g => [(0, .slice (some ⟨l.bt, l.ot, none⟩) l.n l.ct), (1, .slice (some ⟨l.bs, l.os, none⟩) l.n l.cs), (2, .slice (some ⟨l.b3, 0, none⟩) l.n l.n), (3, .slice (some ⟨l.bb, 0, none⟩) l.k l.k), (4, .slice (some ⟨l.bc, 0, none⟩) l.k l.k), (10, .int .i64 (l.n : Int)), (15, .int .i64 ((g.1 : Int) - 1))])
    (I := fun g w' => g.1 ≤ l.n ∧ SP l.n t s A g.1 g.2.1 g.2.2 ∧ M5 .u8 l t s (Nc l.n t) g.2.1 g.2.2 w' ∧ Touch (tS l) w w') (μ := fun g => g.1) (l.n, _, _) ⟨rfl, rfl, rfl, rfl, rfl, rfl, by show some _ = some _; congr 2; omega, trivial⟩
    ⟨Nat.le_refl _, hS0, hM5, hTt5⟩ ?_
  clear hM5 hTt5 hS0
  rintro ⟨i', A', bk'⟩ w6 ⟨hi', hSP, hM6, hTt6⟩
  dsimp only at hi' hSP hM6 ⊢
  by_cases h0 : i' = 0
  · subst h0
    refine CC.seq ?_
    refine CC.seq ?_
    refine CC.region ?_
    refine RR.pv (pv_mv rfl) rfl ?_
    first | refine RR.pv (pv_geq_t rfl rfl (by omega)) rfl ?_ | refine RR.pv (pv_geq_f rfl rfl (by omega)) rfl ?_ | refine RR.pv (pv_geq rfl rfl) rfl ?_
    refine RR.nil ?_
    refine CC.cond_f rfl ?_
    refine CC.exit ?_
    exact EndQ.r0 Try.results36 ⟨A, bk, A', bk', hLI, hSP, hM6, hTt6⟩
  obtain ⟨i, rfl⟩ : ∃ i, i' = i + 1 := ⟨i' - 1, by omega⟩
  have hlt : i < l.n := by omega
  rw [show ((i + 1 : Nat) : Int) - 1 = (i : Int) from by omega]
  refine CC.seq ?_
  refine CC.seq ?_
  refine CC.region ?_
  refine RR.pv (pv_mv rfl) rfl ?_
  first | refine RR.pv (pv_geq_t rfl rfl (by omega)) rfl ?_ | refine RR.pv (pv_geq_f rfl rfl (by omega)) rfl ?_ | refine RR.pv (pv_geq rfl rfl) rfl ?_
  refine RR.nil ?_
  refine CC.cond_t rfl ?_
  have hrg := hSP.rng i hlt
  by_cases hp0 : A' i ≤ 0
  · refine CC.skip ?_
    refine CC.seq ?_
    refine CC.block ?_
    refine CC.seq ?_
    refine CC.region ?_
    refine RR.pv (pv_mv rfl) rfl ?_
    refine RR.pv (pv_mv rfl) rfl ?_
    first | refine RR.pv (pv_ixN rfl rfl st28 (by omega)) rfl ?_ | refine RR.pv (pv_ixZ rfl rfl st28 (by omega)) rfl ?_
    refine RR.pv (pv_ld rfl ct21 (hM6.ha i hlt)) rfl ?_
    refine RR.pv (pv_sub32 rfl rfl (by omega)) rfl ?_
    refine RR.pv (pv_as rfl) rfl ?_
    refine RR.nil ?_
    refine CC.seq ?_
    refine CC.region ?_
    refine RR.pv (pv_mv rfl) rfl ?_
    first | refine RR.pv (pv_geq_t rfl rfl (by omega)) rfl ?_ | refine RR.pv (pv_geq_f rfl rfl (by omega)) rfl ?_ | refine RR.pv (pv_geq rfl rfl) rfl ?_
    refine RR.pv (pv_mv rfl) rfl ?_
    first | refine RR.gy rfl rfl (pv_mv rfl) rfl ?_ | refine RR.gn rfl rfl rfl rfl ?_
    first | refine RR.gy rfl rfl (pv_mv rfl) rfl ?_ | refine RR.gn rfl rfl rfl rfl ?_
    first | refine RR.gy rfl rfl (pv_ixN rfl rfl st36 (by omega)) rfl ?_ | refine RR.gy rfl rfl (pv_ixZ rfl rfl st36 (by omega)) rfl ?_ | refine RR.gn rfl rfl rfl rfl ?_
    first | refine RR.gy rfl rfl (pv_ld rfl ct4 (HOLE)) rfl ?_ | refine RR.gn rfl rfl rfl rfl ?_
    first | refine RR.pv (pv_pick_t rfl rfl) rfl ?_ | refine RR.pv (pv_pick_f rfl rfl) rfl ?_
    refine RR.nil ?_
    refine CC.cond_f rfl ?_
    refine CC.skip ?_
    refine CC.region ?_
    refine RR.pv (pv_mv rfl) rfl ?_
    first | refine RR.pv (pv_subN (n := 1) rfl rfl (by omega)) rfl ?_ | refine RR.pv (pv_sub64 rfl rfl (by omega)) rfl ?_
    refine RR.pv (pv_as rfl) rfl ?_
    refine RR.nil ?_
    exact Nxt.go (i, A', bk') ⟨rfl, rfl, rfl, rfl, rfl, rfl, rfl, trivial⟩ ⟨by dsimp only; omega, hSP.pass hT hI hLI hlt (fun p e => by have e : A' i = (p : Int) + 1 := e; omega), hM6, hTt6⟩ (by dsimp only; omega)
  obtain ⟨p, hp⟩ : ∃ p : Nat, A' i = (p : Int) + 1 := ⟨(A' i - 1).toNat, by omega⟩
  have hpn : p < l.n := by omega
  have hcell : w6.cell? ⟨l.bs, l.os + i, none⟩ = some (.int .i32 ((p : Int) + 1)) := by rw [← hp]; exact hM6.ha i hlt
  refine CC.skip ?_
  refine CC.seq ?_
  refine CC.block ?_
  refine CC.seq ?_
  refine CC.region ?_
  refine RR.pv (pv_mv rfl) rfl ?_
  refine RR.pv (pv_mv rfl) rfl ?_
  first | refine RR.pv (pv_ixN rfl rfl st28 (by omega)) rfl ?_ | refine RR.pv (pv_ixZ rfl rfl st28 (by omega)) rfl ?_
  refine RR.pv (pv_ld rfl ct21 (hcell)) rfl ?_
  refine RR.pv (pv_sub32 rfl rfl (by omega)) rfl ?_
  rw [show (p : Int) + 1 - 1 = (p : Int) from by omega]
  refine RR.pv (pv_as rfl) rfl ?_
  refine RR.nil ?_
  by_cases hsp : s p = true
  · have hsc : w6.cell? ⟨l.b3, 0 + p, none⟩ = some (.bool true) := by rw [← hsp]; exact hM6.hs p hpn
    have htp := hk p hpn
    obtain ⟨hSP', hb0, hbn⟩ := hSP.push hT hI hk hLI hlt hp hsp
    have hbl : bk' (t p) - 1 < l.n := by omega
    refine CC.seq ?_
    refine CC.region ?_
    refine RR.pv (pv_mv rfl) rfl ?_
    first | refine RR.pv (pv_geq_t rfl rfl (by omega)) rfl ?_ | refine RR.pv (pv_geq_f rfl rfl (by omega)) rfl ?_ | refine RR.pv (pv_geq rfl rfl) rfl ?_
    refine RR.pv (pv_mv rfl) rfl ?_
    first | refine RR.gy rfl rfl (pv_mv rfl) rfl ?_ | refine RR.gn rfl rfl rfl rfl ?_
    first | refine RR.gy rfl rfl (pv_mv rfl) rfl ?_ | refine RR.gn rfl rfl rfl rfl ?_
    first | refine RR.gy rfl rfl (pv_ixN rfl rfl st36 (by omega)) rfl ?_ | refine RR.gy rfl rfl (pv_ixZ rfl rfl st36 (by omega)) rfl ?_ | refine RR.gn rfl rfl rfl rfl ?_
    first | refine RR.gy rfl rfl (pv_ld rfl ct4 (hsc)) rfl ?_ | refine RR.gn rfl rfl rfl rfl ?_
    first | refine RR.pv (pv_pick_t rfl rfl) rfl ?_ | refine RR.pv (pv_pick_f rfl rfl) rfl ?_
    refine RR.nil ?_
    refine CC.cond_t rfl ?_
    refine CC.seq ?_
    refine CC.region ?_
    refine RR.pv (pv_mv rfl) rfl ?_
    refine RR.pv (pv_mv rfl) rfl ?_
    first | refine RR.pv (pv_ixN rfl rfl st22 (by omega)) rfl ?_ | refine RR.pv (pv_ixZ rfl rfl st22 (by omega)) rfl ?_
    refine RR.pv (pv_ld rfl ct5 (hM6.ht p hpn)) rfl ?_
    refine RR.pv (pv_as rfl) rfl ?_
    refine RR.nil ?_
    refine CC.seq ?_
    refine CC.region ?_
    refine RR.pv (pv_mv rfl) rfl ?_
    refine RR.pv (pv_mv rfl) rfl ?_
    first | refine RR.pv (pv_ixN rfl rfl st28 (by omega)) rfl ?_ | refine RR.pv (pv_ixZ rfl rfl st28 (by omega)) rfl ?_
    refine RR.pv (pv_ld rfl ct21 (hM6.hb (t p) htp)) rfl ?_
    refine RR.pv (pv_sub32 rfl rfl (by omega)) rfl ?_
    rw [show ((bk' (t p) : Nat) : Int) - 1 = ((bk' (t p) - 1 : Nat) : Int) from by omega]
    first | refine RR.pv (pv_ixN rfl rfl st28 (by omega)) rfl ?_ | refine RR.pv (pv_ixZ rfl rfl st28 (by omega)) rfl ?_
    refine RR.st rfl rfl ct21 OneV.i (hM6.hb (t p) htp) (hM6.wb _ htp) ?_
    have hM7 := hM6.setB g htp (bk' (t p) - 1)
    have hTt7 := tS.tr hTt6 (tS.b l w6 (0 + t p) (.int .i32 ((bk' (t p) - 1 : Nat) : Int)))
    generalize w6.setCell _ _ = w7 at hM7 hTt7 ⊢
    refine RR.nil ?_
    have hbc : w7.cell? ⟨l.bb, 0 + t p, none⟩ = some (.int .i32 ((bk' (t p) - 1 : Nat) : Int)) := by
      have := hM7.hb (t p) htp
      rw [upd_same] at this; exact this
    refine CC.region ?_
    refine RR.pv (pv_mv rfl) rfl ?_
    refine RR.pv (pv_mv rfl) rfl ?_
    refine RR.pv (pv_mv rfl) rfl ?_
    first | refine RR.pv (pv_ixN rfl rfl st28 (by omega)) rfl ?_ | refine RR.pv (pv_ixZ rfl rfl st28 (by omega)) rfl ?_
    refine RR.pv (pv_ld rfl ct21 (hbc)) rfl ?_
    refine RR.pv (pv_mv rfl) rfl ?_
    first | refine RR.pv (pv_ixN rfl rfl st28 (by omega)) rfl ?_ | refine RR.pv (pv_ixZ rfl rfl st28 (by omega)) rfl ?_
    refine RR.st rfl rfl ct21 OneV.i (hM7.ha (bk' (t p) - 1) hbl) (hM7.wa _ hbl) ?_
    have hM8 := hM7.setA g hbl (p : Int)
    have hTt8 := tS.tr hTt7 (tS.a l w7 hbl (.int .i32 (p : Int)))
    generalize w7.setCell _ _ = w8 at hM8 hTt8 ⊢
    refine RR.nil ?_
    refine CC.region ?_
    refine RR.pv (pv_mv rfl) rfl ?_
    first | refine RR.pv (pv_subN (n := 1) rfl rfl (by omega)) rfl ?_ | refine RR.pv (pv_sub64 rfl rfl (by omega)) rfl ?_
    refine RR.pv (pv_as rfl) rfl ?_
    refine RR.nil ?_
    exact Nxt.go (i, _, _) ⟨rfl, rfl, rfl, rfl, rfl, rfl, rfl, trivial⟩ ⟨by dsimp only; omega, hSP', hM8, hTt8⟩ (by dsimp only; omega)
  have hsp' : s p = false := by simpa using hsp
  have hsc : w6.cell? ⟨l.b3, 0 + p, none⟩ = some (.bool false) := by rw [← hsp']; exact hM6.hs p hpn
  refine CC.seq ?_
  refine CC.region ?_
  refine RR.pv (pv_mv rfl) rfl ?_
  first | refine RR.pv (pv_geq_t rfl rfl (by omega)) rfl ?_ | refine RR.pv (pv_geq_f rfl rfl (by omega)) rfl ?_ | refine RR.pv (pv_geq rfl rfl) rfl ?_
  refine RR.pv (pv_mv rfl) rfl ?_
  first | refine RR.gy rfl rfl (pv_mv rfl) rfl ?_ | refine RR.gn rfl rfl rfl rfl ?_
  first | refine RR.gy rfl rfl (pv_mv rfl) rfl ?_ | refine RR.gn rfl rfl rfl rfl ?_
  first | refine RR.gy rfl rfl (pv_ixN rfl rfl st36 (by omega)) rfl ?_ | refine RR.gy rfl rfl (pv_ixZ rfl rfl st36 (by omega)) rfl ?_ | refine RR.gn rfl rfl rfl rfl ?_
  first | refine RR.gy rfl rfl (pv_ld rfl ct4 (hsc)) rfl ?_ | refine RR.gn rfl rfl rfl rfl ?_
  first | refine RR.pv (pv_pick_t rfl rfl) rfl ?_ | refine RR.pv (pv_pick_f rfl rfl) rfl ?_
  refine RR.nil ?_
  refine CC.cond_f rfl ?_
  refine CC.skip ?_
  refine CC.region ?_
  refine RR.pv (pv_mv rfl) rfl ?_
  first | refine RR.pv (pv_subN (n := 1) rfl rfl (by omega)) rfl ?_ | refine RR.pv (pv_sub64 rfl rfl (by omega)) rfl ?_
  refine RR.pv (pv_as rfl) rfl ?_
  refine RR.nil ?_
  exact Nxt.go (i, A', bk') ⟨rfl, rfl, rfl, rfl, rfl, rfl, rfl, trivial⟩ ⟨by dsimp only; omega, hSP.pass hT hI hLI hlt (fun p' e => by have e : A' i = (p' : Int) + 1 := e; rw [show p' = p from by omega]; exact hsp'), hM6, hTt6⟩ (by dsimp only; omega)

set_option maxHeartbeats 1000000 in
theorem induce40_any (l : Lay) (t : Nat → Nat) (s : Nat → Bool) (A0 : Nat → Int) (bk0 : Nat → Nat) (w : World) (hn : l.n ≤ 1048576) (h2 : 0 < l.n) (hkk : l.k ≤ 1048576) (hk : ∀ i, i < l.n → t i < l.k) (g : Geo l) (hM : M5 .i32 l t s (Nc l.n t) A0 bk0 w) (hT : Ty l.n t s) (hI : Ini l.n t s A0) :
    FF 40 #[.slice (some ⟨l.bt, l.ot, none⟩) l.n l.ct, .slice (some ⟨l.bs, l.os, none⟩) l.n l.cs, .slice (some ⟨l.b3, 0, none⟩) l.n l.n, .slice (some ⟨l.bb, 0, none⟩) l.k l.k, .slice (some ⟨l.bc, 0, none⟩) l.k l.k] w
      (fun v w' => ∃ AL bkL A bkA, LI l.n t s A0 true l.n AL bkL ∧ SP l.n t s AL 0 A bkA ∧ M5 .i32 l t s (Nc l.n t) A bkA w' ∧ Touch (tS l) w w') := by
  have hk0 : 0 < l.k := by have := hk 0 h2; omega
  refine FF.of_cc (l := [_, _, _, _, _]) Try.func40 rfl Try.ntmps40 rfl (CC.keep (F := [(0, _), (1, _), (2, _), (3, _), (4, _)]) ⟨rfl, rfl, rfl, rfl, rfl, trivial⟩ ?_)
  refine CC.seq ?_
  refine CC.region ?_
  refine RR.pv (pv_mv rfl) rfl ?_
  refine RR.pv (pv_len rfl st28) rfl ?_
  refine RR.pv (pv_as rfl) rfl ?_
  refine RR.nil ?_
  refine CC.seq ?_
  refine CC.region ?_
  refine RR.pv (pv_mv rfl) rfl ?_
  refine RR.pv (pv_mv rfl) rfl ?_
  refine RR.call Try.func39 nm39 rfl rfl (bucketStarts_any l.bb l.bc l.n l.k t bk0 w hn hkk g.cb hM.hb hM.wb hM.hc) rfl (fun v1 w1 ⟨hb1, hT1⟩ => ?_)
  refine RR.nil ?_
  have hM1 := hM.bkTouch g h2 hk0 hT1 hb1
  have hTt1 : Touch (tS l) w w1 := hT1.mono (fun b o _ h => .inr h)
  clear hM hT1 hb1
  have hst := LI.start hT h2 hI
  have htn : t (l.n - 1) < l.k := hk _ (by omega)
  refine CC.seq ?_
  refine CC.region ?_
  refine RR.pv (pv_mv rfl) rfl ?_
  refine RR.pv (pv_mv rfl) rfl ?_
  first | refine RR.pv (pv_subN (n := 1) rfl rfl (by omega)) rfl ?_ | refine RR.pv (pv_sub64 rfl rfl (by omega)) rfl ?_
  first | refine RR.pv (pv_ixN rfl rfl st28 (by omega)) rfl ?_ | refine RR.pv (pv_ixZ rfl rfl st28 (by omega)) rfl ?_
  refine RR.pv (pv_ld rfl ct21 (hM1.ht (l.n - 1) (by omega))) rfl ?_
  refine RR.pv (pv_as rfl) rfl ?_
  refine RR.nil ?_
  have hbn := hst.2
  refine CC.seq ?_
  refine CC.region ?_
  refine RR.pv (pv_mv rfl) rfl ?_
  refine RR.pv (pv_mv rfl) rfl ?_
  refine RR.pv (pv_mv rfl) rfl ?_
  first | refine RR.pv (pv_ixN rfl rfl st28 (by omega)) rfl ?_ | refine RR.pv (pv_ixZ rfl rfl st28 (by omega)) rfl ?_
  refine RR.pv (pv_ld rfl ct21 (hM1.hb (t (l.n - 1)) htn)) rfl ?_
  refine RR.pv (pv_mv rfl) rfl ?_
  first | refine RR.pv (pv_subN (n := 1) rfl rfl (by omega)) rfl ?_ | refine RR.pv (pv_sub64 rfl rfl (by omega)) rfl ?_
  first | refine RR.pv (pv_c3_21 rfl (by omega)) rfl ?_ | refine RR.pv (pv_c3_21w rfl) rfl ?_
  first | refine RR.pv (pv_ixN rfl rfl st28 (by omega)) rfl ?_ | refine RR.pv (pv_ixZ rfl rfl st28 (by omega)) rfl ?_
  refine RR.st rfl rfl ct21 OneV.i (hM1.ha (Bk l.n t (t (l.n - 1))) hbn) (hM1.wa _ hbn) ?_
  have hM2 := hM1.setA g hbn ((l.n - 1 : Nat) : Int)
  have hTt2 := tS.tr hTt1 (tS.a l w1 hbn (.int .i32 ((l.n - 1 : Nat) : Int)))
  generalize w1.setCell _ _ = w2 at hM2 hTt2 ⊢
  refine RR.nil ?_
  refine CC.seq ?_
  refine CC.region ?_
  refine RR.pv (pv_mv rfl) rfl ?_
  refine RR.pv (pv_mv rfl) rfl ?_
  first | refine RR.pv (pv_ixN rfl rfl st28 (by omega)) rfl ?_ | refine RR.pv (pv_ixZ rfl rfl st28 (by omega)) rfl ?_
  refine RR.pv (pv_ld rfl ct21 (hM2.hb (t (l.n - 1)) htn)) rfl ?_
  refine RR.pv (pv_add32 rfl rfl (by omega)) rfl ?_
  rw [show ((Bk l.n t (t (l.n - 1)) : Nat) : Int) + 1 = ((Bk l.n t (t (l.n - 1)) + 1 : Nat) : Int) from by omega]
  first | refine RR.pv (pv_ixN rfl rfl st28 (by omega)) rfl ?_ | refine RR.pv (pv_ixZ rfl rfl st28 (by omega)) rfl ?_
  refine RR.st rfl rfl ct21 OneV.i (hM2.hb (t (l.n - 1)) htn) (hM2.wb _ htn) ?_
  have hM3 := hM2.setB g htn (Bk l.n t (t (l.n - 1)) + 1)
  have hTt3 := tS.tr hTt2 (tS.b l w2 (0 + t (l.n - 1)) (.int .i32 ((Bk l.n t (t (l.n - 1)) + 1 : Nat) : Int)))
  generalize w2.setCell _ _ = w3 at hM3 hTt3 ⊢
  refine RR.nil ?_
  clear hM1 hM2 hTt1 hTt2
  refine CC.seq ?_
  refine CC.seq ?_
  refine CC.region ?_
  refine RR.pv (pv_mv rfl) rfl ?_
  refine RR.pv (pv_mv rfl) rfl ?_
  refine RR.nil ?_
  refine CC.block ?_
  refine CC.loop (γ := Nat × (Nat → Int) × (Nat → Nat)) (F := fun g => [(0, .slice (some ⟨l.bt, l.ot, none⟩) l.n l.ct), (1, .slice (some ⟨l.bs, l.os, none⟩) l.n l.cs), (2, .slice (some ⟨l.b3, 0, none⟩) l.n l.n), (3, .slice (some ⟨l.bb, 0, none⟩) l.k l.k), (4, .slice (some ⟨l.bc, 0, none⟩) l.k l.k), (10, .int .i64 (l.n : Int)), (43, .int .i64 (l.n : Int)), (44, .int .i64 (g.1 : Int))])
    (I := fun g w' => g.1 ≤ l.n ∧ LI l.n t s A0 true g.1 g.2.1 g.2.2 ∧ M5 .i32 l t s (Nc l.n t) g.2.1 g.2.2 w' ∧ Touch (tS l) w w') (μ := fun g => l.n - g.1) (0, _, _) ⟨rfl, rfl, rfl, rfl, rfl, rfl, rfl, rfl, trivial⟩
    ⟨Nat.zero_le _, hst.1, hM3, hTt3⟩ ?_
  clear hM3 hTt3 hst
  rintro ⟨i, A, bk⟩ w4 ⟨hi, hLI, hM4, hTt4⟩
  dsimp only at hi hLI hM4 ⊢
  by_cases hlt : i < l.n
  · refine CC.seq ?_
    refine CC.region ?_
    first | refine RR.pv (pv_lss_t rfl rfl (by omega)) rfl ?_ | refine RR.pv (pv_lss_f rfl rfl (by omega)) rfl ?_ | refine RR.pv (pv_lss rfl rfl) rfl ?_
    refine RR.nil ?_
    refine CC.seq ?_
    refine CC.cond_t rfl ?_
    refine CC.skip ?_
    refine CC.seq ?_
    refine CC.block ?_
    refine CC.seq ?_
    refine CC.region ?_
    refine RR.pv (pv_mv rfl) rfl ?_
    refine RR.pv (pv_as rfl) rfl ?_
    refine RR.nil ?_
    have hrg := hLI.rng i hlt
    by_cases hp0 : A i ≤ 0
    · refine CC.seq ?_
      refine CC.region ?_
      refine RR.pv (pv_mv rfl) rfl ?_
      refine RR.pv (pv_mv rfl) rfl ?_
      first | refine RR.pv (pv_ixN rfl rfl st28 (by omega)) rfl ?_ | refine RR.pv (pv_ixZ rfl rfl st28 (by omega)) rfl ?_
      refine RR.pv (pv_ld rfl ct21 (hM4.ha i hlt)) rfl ?_
      refine RR.pv (pv_sub32 rfl rfl (by omega)) rfl ?_
      refine RR.pv (pv_as rfl) rfl ?_
      refine RR.nil ?_
      refine CC.seq ?_
      refine CC.region ?_
      refine RR.pv (pv_mv rfl) rfl ?_
      first | refine RR.pv (pv_geq_t rfl rfl (by omega)) rfl ?_ | refine RR.pv (pv_geq_f rfl rfl (by omega)) rfl ?_ | refine RR.pv (pv_geq rfl rfl) rfl ?_
      refine RR.pv (pv_mv rfl) rfl ?_
      first | refine RR.gy rfl rfl (pv_mv rfl) rfl ?_ | refine RR.gn rfl rfl rfl rfl ?_
      first | refine RR.gy rfl rfl (pv_mv rfl) rfl ?_ | refine RR.gn rfl rfl rfl rfl ?_
      first | refine RR.gy rfl rfl (pv_ixN rfl rfl st36 (by omega)) rfl ?_ | refine RR.gy rfl rfl (pv_ixZ rfl rfl st36 (by omega)) rfl ?_ | refine RR.gn rfl rfl rfl rfl ?_
      first | refine RR.gy rfl rfl (pv_ld rfl ct4 (HOLE)) rfl ?_ | refine RR.gn rfl rfl rfl rfl ?_
      first | refine RR.gy rfl rfl (pv_not_t rfl) rfl ?_ | refine RR.gy rfl rfl (pv_not_f rfl) rfl ?_ | refine RR.gy rfl rfl (pv_not rfl) rfl ?_ | refine RR.gn rfl rfl rfl rfl ?_
      first | refine RR.pv (pv_pick_t rfl rfl) rfl ?_ | refine RR.pv (pv_pick_f rfl rfl) rfl ?_
      refine RR.nil ?_
      refine CC.cond_f rfl ?_
      refine CC.skip ?_
      refine CC.region ?_
      first | refine RR.pv (pv_addN (n := 1) rfl rfl (by omega)) rfl ?_ | refine RR.pv (pv_add64 rfl rfl (by omega)) rfl ?_
      refine RR.pv (pv_mv rfl) rfl ?_
      refine RR.nil ?_
      exact Nxt.go (i + 1, A, bk) ⟨rfl, rfl, rfl, rfl, rfl, rfl, rfl, rfl, trivial⟩ ⟨hlt, hLI.pass hlt (fun p e => by omega), hM4, hTt4⟩ (by dsimp only; omega)
    obtain ⟨p, hp⟩ : ∃ p : Nat, A i = (p : Int) + 1 := ⟨(A i - 1).toNat, by omega⟩
    have hpn : p < l.n := by omega
    have hcell : w4.cell? ⟨l.bs, l.os + i, none⟩ = some (.int .i32 ((p : Int) + 1)) := by rw [← hp]; exact hM4.ha i hlt
    refine CC.seq ?_
    refine CC.region ?_
    refine RR.pv (pv_mv rfl) rfl ?_
    refine RR.pv (pv_mv rfl) rfl ?_
    first | refine RR.pv (pv_ixN rfl rfl st28 (by omega)) rfl ?_ | refine RR.pv (pv_ixZ rfl rfl st28 (by omega)) rfl ?_
    refine RR.pv (pv_ld rfl ct21 (hcell)) rfl ?_
    refine RR.pv (pv_sub32 rfl rfl (by omega)) rfl ?_
    rw [show (p : Int) + 1 - 1 = (p : Int) from by omega]
    refine RR.pv (pv_as rfl) rfl ?_
    refine RR.nil ?_
    by_cases hsp : s p = true
    · have hsc : w4.cell? ⟨l.b3, 0 + p, none⟩ = some (.bool true) := by rw [← hsp]; exact hM4.hs p hpn
      refine CC.seq ?_
      refine CC.region ?_
      refine RR.pv (pv_mv rfl) rfl ?_
      first | refine RR.pv (pv_geq_t rfl rfl (by omega)) rfl ?_ | refine RR.pv (pv_geq_f rfl rfl (by omega)) rfl ?_ | refine RR.pv (pv_geq rfl rfl) rfl ?_
      refine RR.pv (pv_mv rfl) rfl ?_
      first | refine RR.gy rfl rfl (pv_mv rfl) rfl ?_ | refine RR.gn rfl rfl rfl rfl ?_
      first | refine RR.gy rfl rfl (pv_mv rfl) rfl ?_ | refine RR.gn rfl rfl rfl rfl ?_
      first | refine RR.gy rfl rfl (pv_ixN rfl rfl st36 (by omega)) rfl ?_ | refine RR.gy rfl rfl (pv_ixZ rfl rfl st36 (by omega)) rfl ?_ | refine RR.gn rfl rfl rfl rfl ?_
      first | refine RR.gy rfl rfl (pv_ld rfl ct4 (hsc)) rfl ?_ | refine RR.gn rfl rfl rfl rfl ?_
      first | refine RR.gy rfl rfl (pv_not_t rfl) rfl ?_ | refine RR.gy rfl rfl (pv_not_f rfl) rfl ?_ | refine RR.gy rfl rfl (pv_not rfl) rfl ?_ | refine RR.gn rfl rfl rfl rfl ?_
      first | refine RR.pv (pv_pick_t rfl rfl) rfl ?_ | refine RR.pv (pv_pick_f rfl rfl) rfl ?_
      refine RR.nil ?_
      refine CC.cond_f rfl ?_
      refine CC.skip ?_
      refine CC.region ?_
      first | refine RR.pv (pv_addN (n := 1) rfl rfl (by omega)) rfl ?_ | refine RR.pv (pv_add64 rfl rfl (by omega)) rfl ?_
      refine RR.pv (pv_mv rfl) rfl ?_
      refine RR.nil ?_
      exact Nxt.go (i + 1, A, bk) ⟨rfl, rfl, rfl, rfl, rfl, rfl, rfl, rfl, trivial⟩ ⟨hlt, hLI.pass hlt (fun p' e => by rw [show p' = p from by omega]; exact hsp), hM4, hTt4⟩ (by dsimp only; omega)
    have hsp' : s p = false := by simpa using hsp
    have hsc : w4.cell? ⟨l.b3, 0 + p, none⟩ = some (.bool false) := by rw [← hsp']; exact hM4.hs p hpn
    have htp := hk p hpn
    obtain ⟨hLI', hbp⟩ := hLI.push hT hI hlt hp hsp'
    refine CC.seq ?_
    refine CC.region ?_
    refine RR.pv (pv_mv rfl) rfl ?_
    first | refine RR.pv (pv_geq_t rfl rfl (by omega)) rfl ?_ | refine RR.pv (pv_geq_f rfl rfl (by omega)) rfl ?_ | refine RR.pv (pv_geq rfl rfl) rfl ?_
    refine RR.pv (pv_mv rfl) rfl ?_
    first | refine RR.gy rfl rfl (pv_mv rfl) rfl ?_ | refine RR.gn rfl rfl rfl rfl ?_
    first | refine RR.gy rfl rfl (pv_mv rfl) rfl ?_ | refine RR.gn rfl rfl rfl rfl ?_
    first | refine RR.gy rfl rfl (pv_ixN rfl rfl st36 (by omega)) rfl ?_ | refine RR.gy rfl rfl (pv_ixZ rfl rfl st36 (by omega)) rfl ?_ | refine RR.gn rfl rfl rfl rfl ?_
    first | refine RR.gy rfl rfl (pv_ld rfl ct4 (hsc)) rfl ?_ | refine RR.gn rfl rfl rfl rfl ?_
    first | refine RR.gy rfl rfl (pv_not_t rfl) rfl ?_ | refine RR.gy rfl rfl (pv_not_f rfl) rfl ?_ | refine RR.gy rfl rfl (pv_not rfl) rfl ?_ | refine RR.gn rfl rfl rfl rfl ?_
    first | refine RR.pv (pv_pick_t rfl rfl) rfl ?_ | refine RR.pv (pv_pick_f rfl rfl) rfl ?_
    refine RR.nil ?_
    refine CC.cond_t rfl ?_
    refine CC.seq ?_
    refine CC.region ?_
    refine RR.pv (pv_mv rfl) rfl ?_
    refine RR.pv (pv_mv rfl) rfl ?_
    first | refine RR.pv (pv_ixN rfl rfl st28 (by omega)) rfl ?_ | refine RR.pv (pv_ixZ rfl rfl st28 (by omega)) rfl ?_
    refine RR.pv (pv_ld rfl ct21 (hM4.ht p hpn)) rfl ?_
    refine RR.pv (pv_as rfl) rfl ?_
    refine RR.nil ?_
    refine CC.seq ?_
    refine CC.region ?_
    refine RR.pv (pv_mv rfl) rfl ?_
    refine RR.pv (pv_mv rfl) rfl ?_
    refine RR.pv (pv_mv rfl) rfl ?_
    first | refine RR.pv (pv_ixN rfl rfl st28 (by omega)) rfl ?_ | refine RR.pv (pv_ixZ rfl rfl st28 (by omega)) rfl ?_
    refine RR.pv (pv_ld rfl ct21 (hM4.hb (t p) htp)) rfl ?_
    refine RR.pv (pv_mv rfl) rfl ?_
    first | refine RR.pv (pv_ixN rfl rfl st28 (by omega)) rfl ?_ | refine RR.pv (pv_ixZ rfl rfl st28 (by omega)) rfl ?_
    refine RR.st rfl rfl ct21 OneV.i (hM4.ha (bk (t p)) hbp) (hM4.wa _ hbp) ?_
    have hM5 := hM4.setA g hbp (p : Int)
    have hTt5 := tS.tr hTt4 (tS.a l w4 hbp (.int .i32 (p : Int)))
    generalize w4.setCell _ _ = w5 at hM5 hTt5 ⊢
    refine RR.nil ?_
    refine CC.region ?_
    refine RR.pv (pv_mv rfl) rfl ?_
    refine RR.pv (pv_mv rfl) rfl ?_
    first | refine RR.pv (pv_ixN rfl rfl st28 (by omega)) rfl ?_ | refine RR.pv (pv_ixZ rfl rfl st28 (by omega)) rfl ?_
    refine RR.pv (pv_ld rfl ct21 (hM5.hb (t p) htp)) rfl ?_
    refine RR.pv (pv_add32 rfl rfl (by omega)) rfl ?_
    rw [show ((bk (t p) : Nat) : Int) + 1 = ((bk (t p) + 1 : Nat) : Int) from by omega]
    first | refine RR.pv (pv_ixN rfl rfl st28 (by omega)) rfl ?_ | refine RR.pv (pv_ixZ rfl rfl st28 (by omega)) rfl ?_
    refine RR.st rfl rfl ct21 OneV.i (hM5.hb (t p) htp) (hM5.wb _ htp) ?_
    have hM6 := hM5.setB g htp (bk (t p) + 1)
    have hTt6 := tS.tr hTt5 (tS.b l w5 (0 + t p) (.int .i32 ((bk (t p) + 1 : Nat) : Int)))
    generalize w5.setCell _ _ = w6 at hM6 hTt6 ⊢
    refine RR.nil ?_
    refine CC.region ?_
    first | refine RR.pv (pv_addN (n := 1) rfl rfl (by omega)) rfl ?_ | refine RR.pv (pv_add64 rfl rfl (by omega)) rfl ?_
    refine RR.pv (pv_mv rfl) rfl ?_
    refine RR.nil ?_
    exact Nxt.go (i + 1, _, _) ⟨rfl, rfl, rfl, rfl, rfl, rfl, rfl, rfl, trivial⟩ ⟨hlt, hLI', hM6, hTt6⟩ (by dsimp only; omega)
  have hin : i = l.n := by omega
  subst hin
  refine CC.seq ?_
  refine CC.region ?_
  first | refine RR.pv (pv_lss_t rfl rfl (by omega)) rfl ?_ | refine RR.pv (pv_lss_f rfl rfl (by omega)) rfl ?_ | refine RR.pv (pv_lss rfl rfl) rfl ?_
  refine RR.nil ?_
  refine CC.seq ?_
  refine CC.cond_f rfl ?_
  refine CC.exit ?_
  refine CC.seq ?_
  refine CC.region ?_
  refine RR.pv (pv_mv rfl) rfl ?_
  refine RR.pv (pv_mv rfl) rfl ?_
  refine RR.call Try.func35 nm35 rfl rfl (bucketEnds_any l.bb l.bc l.n l.k t bk w4 hn hkk g.cb hM4.hb hM4.wb hM4.hc) rfl (fun v5 w5 ⟨hb5, hT5⟩ => ?_)
  refine RR.nil ?_
  have hM5 := hM4.bkTouch g h2 hk0 hT5 hb5
  have hTt5 : Touch (tS l) w w5 := tS.tr hTt4 (hT5.mono (fun b o _ h => .inr h))
  clear hM4 hT5 hb5 hTt4
  have hS0 := SP.start hT hI hLI
  refine CC.seq ?_
  refine CC.region ?_
  refine RR.pv (pv_mv rfl) rfl ?_
  first | refine RR.pv (pv_subN (n := 1) rfl rfl (by omega)) rfl ?_ | refine RR.pv (pv_sub64 rfl rfl (by omega)) rfl ?_
  refine RR.pv (pv_as rfl) rfl ?_
  refine RR.nil ?_
  refine CC.block ?_
  refine CC.loop (γ := Nat × (Nat → Int) × (Nat → Nat)) (F := fun g => [(0, .slice (some ⟨l.bt, l.ot, none⟩) l.n l.ct), (1, .slice (some ⟨l.bs, l.os, none⟩) l.n l.cs), (2, .slice (some ⟨l.b3, 0, none⟩) l.n l.n), (3, .slice (some ⟨l.bb, 0, none⟩) l.k l.k), (4, .slice (some ⟨l.bc, 0, none⟩) l.k l.k), (10, .int .i64 (l.n : Int)), (15, .int .i64 ((g.1 : Int) - 1))])
    (I := fun g w' => g.1 ≤ l.n ∧ SP l.n t s A g.1 g.2.1 g.2.2 ∧ M5 .i32 l t s (Nc l.n t) g.2.1 g.2.2 w' ∧ Touch (tS l) w w') (μ := fun g => g.1) (l.n, _, _) ⟨rfl, rfl, rfl, rfl, rfl, rfl, by show some _ = some _; congr 2; omega, trivial⟩
    ⟨Nat.le_refl _, hS0, hM5, hTt5⟩ ?_
  clear hM5 hTt5 hS0
  rintro ⟨i', A', bk'⟩ w6 ⟨hi', hSP, hM6, hTt6⟩
  dsimp only at hi' hSP hM6 ⊢
  by_cases h0 : i' = 0
  · subst h0
    refine CC.seq ?_
    refine CC.seq ?_
    refine CC.region ?_
    refine RR.pv (pv_mv rfl) rfl ?_
    first | refine RR.pv (pv_geq_t rfl rfl (by omega)) rfl ?_ | refine RR.pv (pv_geq_f rfl rfl (by omega)) rfl ?_ | refine RR.pv (pv_geq rfl rfl) rfl ?_
    refine RR.nil ?_
    refine CC.cond_f rfl ?_
    refine CC.exit ?_
    exact EndQ.r0 Try.results40 ⟨A, bk, A', bk', hLI, hSP, hM6, hTt6⟩
  obtain ⟨i, rfl⟩ : ∃ i, i' = i + 1 := ⟨i' - 1, by omega⟩
  have hlt : i < l.n := by omega
  rw [show ((i + 1 : Nat) : Int) - 1 = (i : Int) from by omega]
  refine CC.seq ?_
  refine CC.seq ?_
  refine CC.region ?_
  refine RR.pv (pv_mv rfl) rfl ?_
  first | refine RR.pv (pv_geq_t rfl rfl (by omega)) rfl ?_ | refine RR.pv (pv_geq_f rfl rfl (by omega)) rfl ?_ | refine RR.pv (pv_geq rfl rfl) rfl ?_
  refine RR.nil ?_
  refine CC.cond_t rfl ?_
  have hrg := hSP.rng i hlt
  by_cases hp0 : A' i ≤ 0
  · refine CC.skip ?_
    refine CC.seq ?_
    refine CC.block ?_
    refine CC.seq ?_
    refine CC.region ?_
    refine RR.pv (pv_mv rfl) rfl ?_
    refine RR.pv (pv_mv rfl) rfl ?_
    first | refine RR.pv (pv_ixN rfl rfl st28 (by omega)) rfl ?_ | refine RR.pv (pv_ixZ rfl rfl st28 (by omega)) rfl ?_
    refine RR.pv (pv_ld rfl ct21 (hM6.ha i hlt)) rfl ?_
    refine RR.pv (pv_sub32 rfl rfl (by omega)) rfl ?_
    refine RR.pv (pv_as rfl) rfl ?_
    refine RR.nil ?_
    refine CC.seq ?_
    refine CC.region ?_
    refine RR.pv (pv_mv rfl) rfl ?_
    first | refine RR.pv (pv_geq_t rfl rfl (by omega)) rfl ?_ | refine RR.pv (pv_geq_f rfl rfl (by omega)) rfl ?_ | refine RR.pv (pv_geq rfl rfl) rfl ?_
    refine RR.pv (pv_mv rfl) rfl ?_
    first | refine RR.gy rfl rfl (pv_mv rfl) rfl ?_ | refine RR.gn rfl rfl rfl rfl ?_
    first | refine RR.gy rfl rfl (pv_mv rfl) rfl ?_ | refine RR.gn rfl rfl rfl rfl ?_
    first | refine RR.gy rfl rfl (pv_ixN rfl rfl st36 (by omega)) rfl ?_ | refine RR.gy rfl rfl (pv_ixZ rfl rfl st36 (by omega)) rfl ?_ | refine RR.gn rfl rfl rfl rfl ?_
    first | refine RR.gy rfl rfl (pv_ld rfl ct4 (HOLE)) rfl ?_ | refine RR.gn rfl rfl rfl rfl ?_
    first | refine RR.pv (pv_pick_t rfl rfl) rfl ?_ | refine RR.pv (pv_pick_f rfl rfl) rfl ?_
    refine RR.nil ?_
    refine CC.cond_f rfl ?_
    refine CC.skip ?_
    refine CC.region ?_
    refine RR.pv (pv_mv rfl) rfl ?_
    first | refine RR.pv (pv_subN (n := 1) rfl rfl (by omega)) rfl ?_ | refine RR.pv (pv_sub64 rfl rfl (by omega)) rfl ?_
    refine RR.pv (pv_as rfl) rfl ?_
    refine RR.nil ?_
    exact Nxt.go (i, A', bk') ⟨rfl, rfl, rfl, rfl, rfl, rfl, rfl, trivial⟩ ⟨by dsimp only; omega, hSP.pass hT hI hLI hlt (fun p e => by have e : A' i = (p : Int) + 1 := e; omega), hM6, hTt6⟩ (by dsimp only; omega)
  obtain ⟨p, hp⟩ : ∃ p : Nat, A' i = (p : Int) + 1 := ⟨(A' i - 1).toNat, by omega⟩
  have hpn : p < l.n := by omega
  have hcell : w6.cell? ⟨l.bs, l.os + i, none⟩ = some (.int .i32 ((p : Int) + 1)) := by rw [← hp]; exact hM6.ha i hlt
  refine CC.skip ?_
  refine CC.seq ?_
  refine CC.block ?_
  refine CC.seq ?_
  refine CC.region ?_
  refine RR.pv (pv_mv rfl) rfl ?_
  refine RR.pv (pv_mv rfl) rfl ?_
  first | refine RR.pv (pv_ixN rfl rfl st28 (by omega)) rfl ?_ | refine RR.pv (pv_ixZ rfl rfl st28 (by omega)) rfl ?_
  refine RR.pv (pv_ld rfl ct21 (hcell)) rfl ?_
  refine RR.pv (pv_sub32 rfl rfl (by omega)) rfl ?_
  rw [show (p : Int) + 1 - 1 = (p : Int) from by omega]
  refine RR.pv (pv_as rfl) rfl ?_
  refine RR.nil ?_
  by_cases hsp : s p = true
  · have hsc : w6.cell? ⟨l.b3, 0 + p, none⟩ = some (.bool true) := by rw [← hsp]; exact hM6.hs p hpn
    have htp := hk p hpn
    obtain ⟨hSP', hb0, hbn⟩ := hSP.push hT hI hk hLI hlt hp hsp
    have hbl : bk' (t p) - 1 < l.n := by omega
    refine CC.seq ?_
    refine CC.region ?_
    refine RR.pv (pv_mv rfl) rfl ?_
    first | refine RR.pv (pv_geq_t rfl rfl (by omega)) rfl ?_ | refine RR.pv (pv_geq_f rfl rfl (by omega)) rfl ?_ | refine RR.pv (pv_geq rfl rfl) rfl ?_
    refine RR.pv (pv_mv rfl) rfl ?_
    first | refine RR.gy rfl rfl (pv_mv rfl) rfl ?_ | refine RR.gn rfl rfl rfl rfl ?_
    first | refine RR.gy rfl rfl (pv_mv rfl) rfl ?_ | refine RR.gn rfl rfl rfl rfl ?_
    first | refine RR.gy rfl rfl (pv_ixN rfl rfl st36 (by omega)) rfl ?_ | refine RR.gy rfl rfl (pv_ixZ rfl rfl st36 (by omega)) rfl ?_ | refine RR.gn rfl rfl rfl rfl ?_
    first | refine RR.gy rfl rfl (pv_ld rfl ct4 (hsc)) rfl ?_ | refine RR.gn rfl rfl rfl rfl ?_
    first | refine RR.pv (pv_pick_t rfl rfl) rfl ?_ | refine RR.pv (pv_pick_f rfl rfl) rfl ?_
    refine RR.nil ?_
    refine CC.cond_t rfl ?_
    refine CC.seq ?_
    refine CC.region ?_
    refine RR.pv (pv_mv rfl) rfl ?_
    refine RR.pv (pv_mv rfl) rfl ?_
    first | refine RR.pv (pv_ixN rfl rfl st28 (by omega)) rfl ?_ | refine RR.pv (pv_ixZ rfl rfl st28 (by omega)) rfl ?_
    refine RR.pv (pv_ld rfl ct21 (hM6.ht p hpn)) rfl ?_
    refine RR.pv (pv_as rfl) rfl ?_
    refine RR.nil ?_
    refine CC.seq ?_
    refine CC.region ?_
    refine RR.pv (pv_mv rfl) rfl ?_
    refine RR.pv (pv_mv rfl) rfl ?_
    first | refine RR.pv (pv_ixN rfl rfl st28 (by omega)) rfl ?_ | refine RR.pv (pv_ixZ rfl rfl st28 (by omega)) rfl ?_
    refine RR.pv (pv_ld rfl ct21 (hM6.hb (t p) htp)) rfl ?_
    refine RR.pv (pv_sub32 rfl rfl (by omega)) rfl ?_
    rw [show ((bk' (t p) : Nat) : Int) - 1 = ((bk' (t p) - 1 : Nat) : Int) from by omega]
    first | refine RR.pv (pv_ixN rfl rfl st28 (by omega)) rfl ?_ | refine RR.pv (pv_ixZ rfl rfl st28 (by omega)) rfl ?_
    refine RR.st rfl rfl ct21 OneV.i (hM6.hb (t p) htp) (hM6.wb _ htp) ?_
    have hM7 := hM6.setB g htp (bk' (t p) - 1)
    have hTt7 := tS.tr hTt6 (tS.b l w6 (0 + t p) (.int .i32 ((bk' (t p) - 1 : Nat) : Int)))
    generalize w6.setCell _ _ = w7 at hM7 hTt7 ⊢
    refine RR.nil ?_
    have hbc : w7.cell? ⟨l.bb, 0 + t p, none⟩ = some (.int .i32 ((bk' (t p) - 1 : Nat) : Int)) := by
      have := hM7.hb (t p) htp
      rw [upd_same] at this; exact this
    refine CC.region ?_
    refine RR.pv (pv_mv rfl) rfl ?_
    refine RR.pv (pv_mv rfl) rfl ?_
    refine RR.pv (pv_mv rfl) rfl ?_
    first | refine RR.pv (pv_ixN rfl rfl st28 (by omega)) rfl ?_ | refine RR.pv (pv_ixZ rfl rfl st28 (by omega)) rfl ?_
    refine RR.pv (pv_ld rfl ct21 (hbc)) rfl ?_
    refine RR.pv (pv_mv rfl) rfl ?_
    first | refine RR.pv (pv_ixN rfl rfl st28 (by omega)) rfl ?_ | refine RR.pv (pv_ixZ rfl rfl st28 (by omega)) rfl ?_
    refine RR.st rfl rfl ct21 OneV.i (hM7.ha (bk' (t p) - 1) hbl) (hM7.wa _ hbl) ?_
    have hM8 := hM7.setA g hbl (p : Int)
    have hTt8 := tS.tr hTt7 (tS.a l w7 hbl (.int .i32 (p : Int)))
    generalize w7.setCell _ _ = w8 at hM8 hTt8 ⊢
    refine RR.nil ?_
    refine CC.region ?_
    refine RR.pv (pv_mv rfl) rfl ?_
    first | refine RR.pv (pv_subN (n := 1) rfl rfl (by omega)) rfl ?_ | refine RR.pv (pv_sub64 rfl rfl (by omega)) rfl ?_
    refine RR.pv (pv_as rfl) rfl ?_
    refine RR.nil ?_
    exact Nxt.go (i, _, _) ⟨rfl, rfl, rfl, rfl, rfl, rfl, rfl, trivial⟩ ⟨by dsimp only; omega, hSP', hM8, hTt8⟩ (by dsimp only; omega)
  have hsp' : s p = false := by simpa using hsp
  have hsc : w6.cell? ⟨l.b3, 0 + p, none⟩ = some (.bool false) := by rw [← hsp']; exact hM6.hs p hpn
  refine CC.seq ?_
  refine CC.region ?_
  refine RR.pv (pv_mv rfl) rfl ?_
  first | refine RR.pv (pv_geq_t rfl rfl (by omega)) rfl ?_ | refine RR.pv (pv_geq_f rfl rfl (by omega)) rfl ?_ | refine RR.pv (pv_geq rfl rfl) rfl ?_
  refine RR.pv (pv_mv rfl) rfl ?_
  first | refine RR.gy rfl rfl (pv_mv rfl) rfl ?_ | refine RR.gn rfl rfl rfl rfl ?_
  first | refine RR.gy rfl rfl (pv_mv rfl) rfl ?_ | refine RR.gn rfl rfl rfl rfl ?_
  first | refine RR.gy rfl rfl (pv_ixN rfl rfl st36 (by omega)) rfl ?_ | refine RR.gy rfl rfl (pv_ixZ rfl rfl st36 (by omega)) rfl ?_ | refine RR.gn rfl rfl rfl rfl ?_
  first | refine RR.gy rfl rfl (pv_ld rfl ct4 (hsc)) rfl ?_ | refine RR.gn rfl rfl rfl rfl ?_
  first | refine RR.pv (pv_pick_t rfl rfl) rfl ?_ | refine RR.pv (pv_pick_f rfl rfl) rfl ?_
  refine RR.nil ?_
  refine CC.cond_f rfl ?_
  refine CC.skip ?_
  refine CC.region ?_
  refine RR.pv (pv_mv rfl) rfl ?_
  first | refine RR.pv (pv_subN (n := 1) rfl rfl (by omega)) rfl ?_ | refine RR.pv (pv_sub64 rfl rfl (by omega)) rfl ?_
  refine RR.pv (pv_as rfl) rfl ?_
  refine RR.nil ?_
  exact Nxt.go (i, A', bk') ⟨rfl, rfl, rfl, rfl, rfl, rfl, rfl, trivial⟩ ⟨by dsimp only; omega, hSP.pass hT hI hLI hlt (fun p' e => by have e : A' i = (p' : Int) + 1 := e; rw [show p' = p from by omega]; exact hsp'), hM6, hTt6⟩ (by dsimp only; omega)

end Go.Proofs.Qxb6602663a.Vc
