/-
  The walks of sameLMS.
-/
import Derived.Test.Qxb6602663aBu
namespace Go.Proofs.Qxb6602663a.Vc
open Go.RowKit
open Go.Proofs.Qxb6602663a.Sa (Eq2 EqD Agr Clear lms lms_iff)
set_option linter.unusedVariables false
set_option linter.unusedSimpArgs false
set_option maxRecDepth 10000

theorem sameLMS37_any (bt ot ct b3 n a b : Nat) (t : Nat → Nat) (s : Nat → Bool) (w : World) (hn : n ≤ 1048576) (ha : a < n) (hb : b < n) (ht : SN .u8 w bt ot n t) (hs : SB w b3 0 n s) (r : Bool) (hr : r = true ↔ Eq2 n t s a b) :
    FF 37 #[.slice (some ⟨bt, ot, none⟩) n ct, .slice (some ⟨b3, 0, none⟩) n n, .int .i64 (a : Int), .int .i64 (b : Int)] w (fun v w' => v = .bool r ∧ w' = w) := by
  refine FF.of_cc (l := [_, _, _, _]) Try.func37 rfl Try.ntmps37 rfl (CC.keep (F := [(0, _), (1, _), (2, _), (3, _)]) ⟨rfl, rfl, rfl, rfl, trivial⟩ ?_)
  refine CC.seq ?_
  refine CC.region ?_
  refine RR.pv (pv_as rfl) rfl ?_
  refine RR.nil ?_
  refine CC.seq ?_
  refine CC.region ?_
  refine RR.pv (pv_mv rfl) rfl ?_
  refine RR.pv (pv_len rfl st22) rfl ?_
  refine RR.pv (pv_as rfl) rfl ?_
  refine RR.nil ?_
  refine CC.seq ?_
  refine CC.seq ?_
  refine CC.region ?_
  refine RR.pv (pv_as rfl) rfl ?_
  refine RR.nil ?_
  refine CC.block ?_
  refine CC.loop (γ := Nat) (F := fun d => [(0, .slice (some ⟨bt, ot, none⟩) n ct), (1, .slice (some ⟨b3, 0, none⟩) n n), (2, .int .i64 (a : Int)), (3, .int .i64 (b : Int)), (9, .int .i64 (n : Int)), (10, .int .i64 (d : Int))])
    (I := fun d w' => w' = w ∧ d ≤ n ∧ Agr n t s d a b ∧ Clear s d a) (μ := fun d => n + 1 - d) 0 ⟨rfl, rfl, rfl, rfl, rfl, rfl, trivial⟩
    ⟨rfl, Nat.zero_le _, fun e he => by omega, fun e h1 h2 => by omega⟩ ?_
  rintro d w' ⟨rfl, hd, hag, hcl⟩
  have hno : (∀ e, EqD n t s e a b → d ≤ e → False) → r = false := fun hx => by
    cases hrr : r with
    | false => rfl
    | true =>
      obtain ⟨e, he⟩ := hr.1 hrr
      exact (hx e he (he.le hcl)).elim
  by_cases h1 : a + d < n ∧ b + d < n
  · refine CC.seq ?_
    refine CC.seq ?_
    refine CC.region ?_
    refine RR.pv (pv_mv rfl) rfl ?_
    refine RR.pv (pv_mv rfl) rfl ?_
    first | refine RR.pv (pv_addN rfl rfl (by omega)) rfl ?_ | refine RR.pv (pv_add64 rfl rfl (by omega)) rfl ?_
    refine RR.pv (pv_mv rfl) rfl ?_
    first | refine RR.pv (pv_lss_t rfl rfl (by omega)) rfl ?_ | refine RR.pv (pv_lss_f rfl rfl (by omega)) rfl ?_ | refine RR.pv (pv_lss rfl rfl) rfl ?_
    refine RR.pv (pv_mv rfl) rfl ?_
    first | refine RR.gy rfl rfl (pv_mv rfl) rfl ?_ | refine RR.gn rfl rfl rfl rfl ?_
    first | refine RR.gy rfl rfl (pv_mv rfl) rfl ?_ | refine RR.gn rfl rfl rfl rfl ?_
    first | refine RR.gy rfl rfl (pv_addN rfl rfl (by omega)) rfl ?_ | refine RR.gy rfl rfl (pv_add64 rfl rfl (by omega)) rfl ?_ | refine RR.gn rfl rfl rfl rfl ?_
    first | refine RR.gy rfl rfl (pv_mv rfl) rfl ?_ | refine RR.gn rfl rfl rfl rfl ?_
    first | refine RR.gy rfl rfl (pv_lss_t rfl rfl (by omega)) rfl ?_ | refine RR.gy rfl rfl (pv_lss_f rfl rfl (by omega)) rfl ?_ | refine RR.gy rfl rfl (pv_lss rfl rfl) rfl ?_ | refine RR.gn rfl rfl rfl rfl ?_
    first | refine RR.pv (pv_pick_t rfl rfl) rfl ?_ | refine RR.pv (pv_pick_f rfl rfl) rfl ?_
    refine RR.nil ?_
    refine CC.cond_t rfl ?_
    obtain ⟨h1, h2⟩ := h1
    by_cases htt : t (a + d) = t (b + d)
    · refine CC.skip ?_
      refine CC.seq ?_
      refine CC.block ?_
      refine CC.seq ?_
      refine CC.seq ?_
      refine CC.regionQ (by decide +kernel) ?_
      refine RR.pv (pv_mv rfl) rfl ?_
      refine RR.pv (pv_mv rfl) rfl ?_
      refine RR.pv (pv_mv rfl) rfl ?_
      first | refine RR.pv (pv_addN rfl rfl (by omega)) rfl ?_ | refine RR.pv (pv_add64 rfl rfl (by omega)) rfl ?_
      first | refine RR.pv (pv_ixN rfl rfl st22 (by omega)) rfl ?_ | refine RR.pv (pv_ixZ rfl rfl st22 (by omega)) rfl ?_
      refine RR.pv (pv_ld rfl ct5 (ht (a + d) h1)) rfl ?_
      refine RR.pv (pv_mv rfl) rfl ?_
      refine RR.pv (pv_mv rfl) rfl ?_
      refine RR.pv (pv_mv rfl) rfl ?_
      first | refine RR.pv (pv_addN rfl rfl (by omega)) rfl ?_ | refine RR.pv (pv_add64 rfl rfl (by omega)) rfl ?_
      first | refine RR.pv (pv_ixN rfl rfl st22 (by omega)) rfl ?_ | refine RR.pv (pv_ixZ rfl rfl st22 (by omega)) rfl ?_
      refine RR.pv (pv_ld rfl ct5 (ht (b + d) h2)) rfl ?_
      first | refine RR.pv (pv_neq_t rfl rfl (by omega)) rfl ?_ | refine RR.pv (pv_neq_f rfl rfl (by omega)) rfl ?_ | refine RR.pv (pv_neq rfl rfl) rfl ?_
      refine RR.pv (pv_mv rfl) rfl ?_
      first | refine RR.gy rfl rfl (pv_mv rfl) rfl ?_ | refine RR.gn rfl rfl rfl rfl ?_
      first | refine RR.gy rfl rfl (pv_mv rfl) rfl ?_ | refine RR.gn rfl rfl rfl rfl ?_
      first | refine RR.gy rfl rfl (pv_mv rfl) rfl ?_ | refine RR.gn rfl rfl rfl rfl ?_
      first | refine RR.gy rfl rfl (pv_addN rfl rfl (by omega)) rfl ?_ | refine RR.gy rfl rfl (pv_add64 rfl rfl (by omega)) rfl ?_ | refine RR.gn rfl rfl rfl rfl ?_
      first | refine RR.gy rfl rfl (pv_ixN rfl rfl st36 (by omega)) rfl ?_ | refine RR.gy rfl rfl (pv_ixZ rfl rfl st36 (by omega)) rfl ?_ | refine RR.gn rfl rfl rfl rfl ?_
      first | refine RR.gy rfl rfl (pv_ld rfl ct4 (hs (a + d) h1)) rfl ?_ | refine RR.gn rfl rfl rfl rfl ?_
      first | refine RR.gy rfl rfl (pv_mv rfl) rfl ?_ | refine RR.gn rfl rfl rfl rfl ?_
      first | refine RR.gy rfl rfl (pv_mv rfl) rfl ?_ | refine RR.gn rfl rfl rfl rfl ?_
      first | refine RR.gy rfl rfl (pv_mv rfl) rfl ?_ | refine RR.gn rfl rfl rfl rfl ?_
      first | refine RR.gy rfl rfl (pv_addN rfl rfl (by omega)) rfl ?_ | refine RR.gy rfl rfl (pv_add64 rfl rfl (by omega)) rfl ?_ | refine RR.gn rfl rfl rfl rfl ?_
      first | refine RR.gy rfl rfl (pv_ixN rfl rfl st36 (by omega)) rfl ?_ | refine RR.gy rfl rfl (pv_ixZ rfl rfl st36 (by omega)) rfl ?_ | refine RR.gn rfl rfl rfl rfl ?_
      first | refine RR.gy rfl rfl (pv_ld rfl ct4 (hs (b + d) h2)) rfl ?_ | refine RR.gn rfl rfl rfl rfl ?_
      first | refine RR.gy rfl rfl (pv_neqB rfl rfl) rfl ?_ | refine RR.gn rfl rfl rfl rfl ?_
      first | refine RR.pv (pv_pick_t rfl rfl) rfl ?_ | refine RR.pv (pv_pick_f rfl rfl) rfl ?_
      refine RR.nil ?_
      refine CC.cond_b rfl (fun hc => ?_) (fun hc => ?_)
      · have hrf : r = false := hno (fun e he hle => by
          have := (he.2.1 d (by omega)).2.2.2
          rw [this] at hc
          simp at hc)
        refine CC.seq ?_
        refine CC.region ?_
        refine RR.pv (pv_as rfl) rfl ?_
        refine RR.nil ?_
        refine CC.ret ?_
        exact EndQ.r1 Try.results37 rfl ⟨by rw [hrf], rfl⟩
      have hss : s (a + d) = s (b + d) := by simpa using hc
      have hag' : Agr n t s (d + 1) a b := fun e he => by
        rcases Nat.lt_or_ge e d with h3 | h3
        · exact hag e h3
        · have : e = d := by omega
          subst this
          exact ⟨h1, h2, htt, hss⟩
      by_cases hl : 0 < d ∧ s (a + d) = true ∧ s (a + d - 1) = false
      · obtain ⟨h3, h4, h5⟩ := hl
        have hc1 : w'.cell? ⟨b3, 0 + (a + d), none⟩ = some (.bool true) := by rw [← h4]; exact hs (a + d) h1
        have hc2 : w'.cell? ⟨b3, 0 + (a + d - 1), none⟩ = some (.bool false) := by rw [← h5]; exact hs (a + d - 1) (by omega)
        refine CC.skip ?_
        refine CC.seq ?_
        refine CC.region ?_
        refine RR.pv (pv_mv rfl) rfl ?_
        first | refine RR.pv (pv_gtr_t rfl rfl (by omega)) rfl ?_ | refine RR.pv (pv_gtr_f rfl rfl (by omega)) rfl ?_ | refine RR.pv (pv_gtr rfl rfl) rfl ?_
        refine RR.pv (pv_mv rfl) rfl ?_
        first | refine RR.gy rfl rfl (pv_mv rfl) rfl ?_ | refine RR.gn rfl rfl rfl rfl ?_
        first | refine RR.gy rfl rfl (pv_mv rfl) rfl ?_ | refine RR.gn rfl rfl rfl rfl ?_
        first | refine RR.gy rfl rfl (pv_mv rfl) rfl ?_ | refine RR.gn rfl rfl rfl rfl ?_
        first | refine RR.gy rfl rfl (pv_addN rfl rfl (by omega)) rfl ?_ | refine RR.gy rfl rfl (pv_add64 rfl rfl (by omega)) rfl ?_ | refine RR.gn rfl rfl rfl rfl ?_
        first | refine RR.gy rfl rfl (pv_ixN rfl rfl st36 (by omega)) rfl ?_ | refine RR.gy rfl rfl (pv_ixZ rfl rfl st36 (by omega)) rfl ?_ | refine RR.gn rfl rfl rfl rfl ?_
        first | refine RR.gy rfl rfl (pv_ld rfl ct4 (hc1)) rfl ?_ | refine RR.gn rfl rfl rfl rfl ?_
        first | refine RR.pv (pv_pick_t rfl rfl) rfl ?_ | refine RR.pv (pv_pick_f rfl rfl) rfl ?_
        refine RR.pv (pv_mv rfl) rfl ?_
        first | refine RR.gy rfl rfl (pv_mv rfl) rfl ?_ | refine RR.gn rfl rfl rfl rfl ?_
        first | refine RR.gy rfl rfl (pv_mv rfl) rfl ?_ | refine RR.gn rfl rfl rfl rfl ?_
        first | refine RR.gy rfl rfl (pv_mv rfl) rfl ?_ | refine RR.gn rfl rfl rfl rfl ?_
        first | refine RR.gy rfl rfl (pv_addN rfl rfl (by omega)) rfl ?_ | refine RR.gy rfl rfl (pv_add64 rfl rfl (by omega)) rfl ?_ | refine RR.gn rfl rfl rfl rfl ?_
        first | refine RR.gy rfl rfl (pv_subN (n := 1) rfl rfl (by omega)) rfl ?_ | refine RR.gy rfl rfl (pv_sub64 rfl rfl (by omega)) rfl ?_ | refine RR.gn rfl rfl rfl rfl ?_
        first | refine RR.gy rfl rfl (pv_ixN rfl rfl st36 (by omega)) rfl ?_ | refine RR.gy rfl rfl (pv_ixZ rfl rfl st36 (by omega)) rfl ?_ | refine RR.gn rfl rfl rfl rfl ?_
        first | refine RR.gy rfl rfl (pv_ld rfl ct4 (hc2)) rfl ?_ | refine RR.gn rfl rfl rfl rfl ?_
        first | refine RR.gy rfl rfl (pv_not_t rfl) rfl ?_ | refine RR.gy rfl rfl (pv_not_f rfl) rfl ?_ | refine RR.gy rfl rfl (pv_not rfl) rfl ?_ | refine RR.gn rfl rfl rfl rfl ?_
        first | refine RR.pv (pv_pick_t rfl rfl) rfl ?_ | refine RR.pv (pv_pick_f rfl rfl) rfl ?_
        refine RR.nil ?_
        refine CC.cond_t rfl ?_
        refine CC.seq ?_
        refine CC.region ?_
        refine RR.pv (pv_as rfl) rfl ?_
        refine RR.nil ?_
        refine CC.ret ?_
        have hrt : r = true := hr.2 ⟨d, h3, hag', by rw [lms_iff]; exact ⟨by omega, h4, h5⟩, hcl⟩
        exact EndQ.r1 Try.results37 rfl ⟨by rw [hrt], rfl⟩
      have hcl' : Clear s (d + 1) a := fun e h3 h4 => by
        rcases Nat.lt_or_ge e d with h5 | h5
        · exact hcl e h3 h5
        · have : e = d := by omega
          subst this
          cases h6 : lms s (a + e) with
          | false => rfl
          | true =>
            rw [lms_iff] at h6
            exact absurd ⟨h3, h6.2⟩ hl
      by_cases h3 : 0 < d
      · by_cases h4 : s (a + d) = true
        · have h5 : s (a + d - 1) = true := by
            cases h6 : s (a + d - 1) with
            | false => exact absurd ⟨h3, h4, h6⟩ hl
            | true => rfl
          have hc1 : w'.cell? ⟨b3, 0 + (a + d), none⟩ = some (.bool true) := by rw [← h4]; exact hs (a + d) h1
          have hc2 : w'.cell? ⟨b3, 0 + (a + d - 1), none⟩ = some (.bool true) := by rw [← h5]; exact hs (a + d - 1) (by omega)
          refine CC.skip ?_
          refine CC.seq ?_
          refine CC.region ?_
          refine RR.pv (pv_mv rfl) rfl ?_
          first | refine RR.pv (pv_gtr_t rfl rfl (by omega)) rfl ?_ | refine RR.pv (pv_gtr_f rfl rfl (by omega)) rfl ?_ | refine RR.pv (pv_gtr rfl rfl) rfl ?_
          refine RR.pv (pv_mv rfl) rfl ?_
          first | refine RR.gy rfl rfl (pv_mv rfl) rfl ?_ | refine RR.gn rfl rfl rfl rfl ?_
          first | refine RR.gy rfl rfl (pv_mv rfl) rfl ?_ | refine RR.gn rfl rfl rfl rfl ?_
          first | refine RR.gy rfl rfl (pv_mv rfl) rfl ?_ | refine RR.gn rfl rfl rfl rfl ?_
          first | refine RR.gy rfl rfl (pv_addN rfl rfl (by omega)) rfl ?_ | refine RR.gy rfl rfl (pv_add64 rfl rfl (by omega)) rfl ?_ | refine RR.gn rfl rfl rfl rfl ?_
          first | refine RR.gy rfl rfl (pv_ixN rfl rfl st36 (by omega)) rfl ?_ | refine RR.gy rfl rfl (pv_ixZ rfl rfl st36 (by omega)) rfl ?_ | refine RR.gn rfl rfl rfl rfl ?_
          first | refine RR.gy rfl rfl (pv_ld rfl ct4 (hc1)) rfl ?_ | refine RR.gn rfl rfl rfl rfl ?_
          first | refine RR.pv (pv_pick_t rfl rfl) rfl ?_ | refine RR.pv (pv_pick_f rfl rfl) rfl ?_
          refine RR.pv (pv_mv rfl) rfl ?_
          first | refine RR.gy rfl rfl (pv_mv rfl) rfl ?_ | refine RR.gn rfl rfl rfl rfl ?_
          first | refine RR.gy rfl rfl (pv_mv rfl) rfl ?_ | refine RR.gn rfl rfl rfl rfl ?_
          first | refine RR.gy rfl rfl (pv_mv rfl) rfl ?_ | refine RR.gn rfl rfl rfl rfl ?_
          first | refine RR.gy rfl rfl (pv_addN rfl rfl (by omega)) rfl ?_ | refine RR.gy rfl rfl (pv_add64 rfl rfl (by omega)) rfl ?_ | refine RR.gn rfl rfl rfl rfl ?_
          first | refine RR.gy rfl rfl (pv_subN (n := 1) rfl rfl (by omega)) rfl ?_ | refine RR.gy rfl rfl (pv_sub64 rfl rfl (by omega)) rfl ?_ | refine RR.gn rfl rfl rfl rfl ?_
          first | refine RR.gy rfl rfl (pv_ixN rfl rfl st36 (by omega)) rfl ?_ | refine RR.gy rfl rfl (pv_ixZ rfl rfl st36 (by omega)) rfl ?_ | refine RR.gn rfl rfl rfl rfl ?_
          first | refine RR.gy rfl rfl (pv_ld rfl ct4 (hc2)) rfl ?_ | refine RR.gn rfl rfl rfl rfl ?_
          first | refine RR.gy rfl rfl (pv_not_t rfl) rfl ?_ | refine RR.gy rfl rfl (pv_not_f rfl) rfl ?_ | refine RR.gy rfl rfl (pv_not rfl) rfl ?_ | refine RR.gn rfl rfl rfl rfl ?_
          first | refine RR.pv (pv_pick_t rfl rfl) rfl ?_ | refine RR.pv (pv_pick_f rfl rfl) rfl ?_
          refine RR.nil ?_
          refine CC.cond_f rfl ?_
          refine CC.skip ?_
          refine CC.region ?_
          refine RR.pv (pv_mv rfl) rfl ?_
          first | refine RR.pv (pv_addN (n := 1) rfl rfl (by omega)) rfl ?_ | refine RR.pv (pv_add64 rfl rfl (by omega)) rfl ?_
          refine RR.pv (pv_as rfl) rfl ?_
          refine RR.nil ?_
          exact Nxt.go (d + 1) ⟨rfl, rfl, rfl, rfl, rfl, rfl, trivial⟩ ⟨rfl, by omega, hag', hcl'⟩ (by omega)
        · have hc1 : w'.cell? ⟨b3, 0 + (a + d), none⟩ = some (.bool false) := by rw [show false = s (a + d) from by cases h6 : s (a + d) <;> simp_all]; exact hs (a + d) h1
          refine CC.skip ?_
          refine CC.seq ?_
          refine CC.region ?_
          refine RR.pv (pv_mv rfl) rfl ?_
          first | refine RR.pv (pv_gtr_t rfl rfl (by omega)) rfl ?_ | refine RR.pv (pv_gtr_f rfl rfl (by omega)) rfl ?_ | refine RR.pv (pv_gtr rfl rfl) rfl ?_
          refine RR.pv (pv_mv rfl) rfl ?_
          first | refine RR.gy rfl rfl (pv_mv rfl) rfl ?_ | refine RR.gn rfl rfl rfl rfl ?_
          first | refine RR.gy rfl rfl (pv_mv rfl) rfl ?_ | refine RR.gn rfl rfl rfl rfl ?_
          first | refine RR.gy rfl rfl (pv_mv rfl) rfl ?_ | refine RR.gn rfl rfl rfl rfl ?_
          first | refine RR.gy rfl rfl (pv_addN rfl rfl (by omega)) rfl ?_ | refine RR.gy rfl rfl (pv_add64 rfl rfl (by omega)) rfl ?_ | refine RR.gn rfl rfl rfl rfl ?_
          first | refine RR.gy rfl rfl (pv_ixN rfl rfl st36 (by omega)) rfl ?_ | refine RR.gy rfl rfl (pv_ixZ rfl rfl st36 (by omega)) rfl ?_ | refine RR.gn rfl rfl rfl rfl ?_
          first | refine RR.gy rfl rfl (pv_ld rfl ct4 (hc1)) rfl ?_ | refine RR.gn rfl rfl rfl rfl ?_
          first | refine RR.pv (pv_pick_t rfl rfl) rfl ?_ | refine RR.pv (pv_pick_f rfl rfl) rfl ?_
          refine RR.pv (pv_mv rfl) rfl ?_
          first | refine RR.gy rfl rfl (pv_mv rfl) rfl ?_ | refine RR.gn rfl rfl rfl rfl ?_
          first | refine RR.gy rfl rfl (pv_mv rfl) rfl ?_ | refine RR.gn rfl rfl rfl rfl ?_
          first | refine RR.gy rfl rfl (pv_mv rfl) rfl ?_ | refine RR.gn rfl rfl rfl rfl ?_
          first | refine RR.gy rfl rfl (pv_addN rfl rfl (by omega)) rfl ?_ | refine RR.gy rfl rfl (pv_add64 rfl rfl (by omega)) rfl ?_ | refine RR.gn rfl rfl rfl rfl ?_
          first | refine RR.gy rfl rfl (pv_subN (n := 1) rfl rfl (by omega)) rfl ?_ | refine RR.gy rfl rfl (pv_sub64 rfl rfl (by omega)) rfl ?_ | refine RR.gn rfl rfl rfl rfl ?_
          first | refine RR.gy rfl rfl (pv_ixN rfl rfl st36 (by omega)) rfl ?_ | refine RR.gy rfl rfl (pv_ixZ rfl rfl st36 (by omega)) rfl ?_ | refine RR.gn rfl rfl rfl rfl ?_
          first | refine RR.gy rfl rfl (pv_ld rfl ct4 (hc1)) rfl ?_ | refine RR.gn rfl rfl rfl rfl ?_
          first | refine RR.gy rfl rfl (pv_not_t rfl) rfl ?_ | refine RR.gy rfl rfl (pv_not_f rfl) rfl ?_ | refine RR.gy rfl rfl (pv_not rfl) rfl ?_ | refine RR.gn rfl rfl rfl rfl ?_
          first | refine RR.pv (pv_pick_t rfl rfl) rfl ?_ | refine RR.pv (pv_pick_f rfl rfl) rfl ?_
          refine RR.nil ?_
          refine CC.cond_f rfl ?_
          refine CC.skip ?_
          refine CC.region ?_
          refine RR.pv (pv_mv rfl) rfl ?_
          first | refine RR.pv (pv_addN (n := 1) rfl rfl (by omega)) rfl ?_ | refine RR.pv (pv_add64 rfl rfl (by omega)) rfl ?_
          refine RR.pv (pv_as rfl) rfl ?_
          refine RR.nil ?_
          exact Nxt.go (d + 1) ⟨rfl, rfl, rfl, rfl, rfl, rfl, trivial⟩ ⟨rfl, by omega, hag', hcl'⟩ (by omega)
      · refine CC.skip ?_
        refine CC.seq ?_
        refine CC.region ?_
        refine RR.pv (pv_mv rfl) rfl ?_
        first | refine RR.pv (pv_gtr_t rfl rfl (by omega)) rfl ?_ | refine RR.pv (pv_gtr_f rfl rfl (by omega)) rfl ?_ | refine RR.pv (pv_gtr rfl rfl) rfl ?_
        refine RR.pv (pv_mv rfl) rfl ?_
        first | refine RR.gy rfl rfl (pv_mv rfl) rfl ?_ | refine RR.gn rfl rfl rfl rfl ?_
        first | refine RR.gy rfl rfl (pv_mv rfl) rfl ?_ | refine RR.gn rfl rfl rfl rfl ?_
        first | refine RR.gy rfl rfl (pv_mv rfl) rfl ?_ | refine RR.gn rfl rfl rfl rfl ?_
        first | refine RR.gy rfl rfl (pv_addN rfl rfl (by omega)) rfl ?_ | refine RR.gy rfl rfl (pv_add64 rfl rfl (by omega)) rfl ?_ | refine RR.gn rfl rfl rfl rfl ?_
        first | refine RR.gy rfl rfl (pv_ixN rfl rfl st36 (by omega)) rfl ?_ | refine RR.gy rfl rfl (pv_ixZ rfl rfl st36 (by omega)) rfl ?_ | refine RR.gn rfl rfl rfl rfl ?_
        first | refine RR.gy rfl rfl (pv_ld rfl ct4 (HOLE)) rfl ?_ | refine RR.gn rfl rfl rfl rfl ?_
        first | refine RR.pv (pv_pick_t rfl rfl) rfl ?_ | refine RR.pv (pv_pick_f rfl rfl) rfl ?_
        refine RR.pv (pv_mv rfl) rfl ?_
        first | refine RR.gy rfl rfl (pv_mv rfl) rfl ?_ | refine RR.gn rfl rfl rfl rfl ?_
        first | refine RR.gy rfl rfl (pv_mv rfl) rfl ?_ | refine RR.gn rfl rfl rfl rfl ?_
        first | refine RR.gy rfl rfl (pv_mv rfl) rfl ?_ | refine RR.gn rfl rfl rfl rfl ?_
        first | refine RR.gy rfl rfl (pv_addN rfl rfl (by omega)) rfl ?_ | refine RR.gy rfl rfl (pv_add64 rfl rfl (by omega)) rfl ?_ | refine RR.gn rfl rfl rfl rfl ?_
        first | refine RR.gy rfl rfl (pv_subN (n := 1) rfl rfl (by omega)) rfl ?_ | refine RR.gy rfl rfl (pv_sub64 rfl rfl (by omega)) rfl ?_ | refine RR.gn rfl rfl rfl rfl ?_
        first | refine RR.gy rfl rfl (pv_ixN rfl rfl st36 (by omega)) rfl ?_ | refine RR.gy rfl rfl (pv_ixZ rfl rfl st36 (by omega)) rfl ?_ | refine RR.gn rfl rfl rfl rfl ?_
        first | refine RR.gy rfl rfl (pv_ld rfl ct4 (HOLE)) rfl ?_ | refine RR.gn rfl rfl rfl rfl ?_
        first | refine RR.gy rfl rfl (pv_not_t rfl) rfl ?_ | refine RR.gy rfl rfl (pv_not_f rfl) rfl ?_ | refine RR.gy rfl rfl (pv_not rfl) rfl ?_ | refine RR.gn rfl rfl rfl rfl ?_
        first | refine RR.pv (pv_pick_t rfl rfl) rfl ?_ | refine RR.pv (pv_pick_f rfl rfl) rfl ?_
        refine RR.nil ?_
        refine CC.cond_f rfl ?_
        refine CC.skip ?_
        refine CC.region ?_
        refine RR.pv (pv_mv rfl) rfl ?_
        first | refine RR.pv (pv_addN (n := 1) rfl rfl (by omega)) rfl ?_ | refine RR.pv (pv_add64 rfl rfl (by omega)) rfl ?_
        refine RR.pv (pv_as rfl) rfl ?_
        refine RR.nil ?_
        exact Nxt.go (d + 1) ⟨rfl, rfl, rfl, rfl, rfl, rfl, trivial⟩ ⟨rfl, by omega, hag', hcl'⟩ (by omega)
    · have hrf : r = false := hno (fun e he hle => htt (he.2.1 d (by omega)).2.2.1)
      refine CC.skip ?_
      refine CC.seq ?_
      refine CC.block ?_
      refine CC.seq ?_
      refine CC.seq ?_
      refine CC.regionQ (by decide +kernel) ?_
      refine RR.pv (pv_mv rfl) rfl ?_
      refine RR.pv (pv_mv rfl) rfl ?_
      refine RR.pv (pv_mv rfl) rfl ?_
      first | refine RR.pv (pv_addN rfl rfl (by omega)) rfl ?_ | refine RR.pv (pv_add64 rfl rfl (by omega)) rfl ?_
      first | refine RR.pv (pv_ixN rfl rfl st22 (by omega)) rfl ?_ | refine RR.pv (pv_ixZ rfl rfl st22 (by omega)) rfl ?_
      refine RR.pv (pv_ld rfl ct5 (ht (a + d) h1)) rfl ?_
      refine RR.pv (pv_mv rfl) rfl ?_
      refine RR.pv (pv_mv rfl) rfl ?_
      refine RR.pv (pv_mv rfl) rfl ?_
      first | refine RR.pv (pv_addN rfl rfl (by omega)) rfl ?_ | refine RR.pv (pv_add64 rfl rfl (by omega)) rfl ?_
      first | refine RR.pv (pv_ixN rfl rfl st22 (by omega)) rfl ?_ | refine RR.pv (pv_ixZ rfl rfl st22 (by omega)) rfl ?_
      refine RR.pv (pv_ld rfl ct5 (ht (b + d) h2)) rfl ?_
      first | refine RR.pv (pv_neq_t rfl rfl (by omega)) rfl ?_ | refine RR.pv (pv_neq_f rfl rfl (by omega)) rfl ?_ | refine RR.pv (pv_neq rfl rfl) rfl ?_
      refine RR.pv (pv_mv rfl) rfl ?_
      first | refine RR.gy rfl rfl (pv_mv rfl) rfl ?_ | refine RR.gn rfl rfl rfl rfl ?_
      first | refine RR.gy rfl rfl (pv_mv rfl) rfl ?_ | refine RR.gn rfl rfl rfl rfl ?_
      first | refine RR.gy rfl rfl (pv_mv rfl) rfl ?_ | refine RR.gn rfl rfl rfl rfl ?_
      first | refine RR.gy rfl rfl (pv_addN rfl rfl (by omega)) rfl ?_ | refine RR.gy rfl rfl (pv_add64 rfl rfl (by omega)) rfl ?_ | refine RR.gn rfl rfl rfl rfl ?_
      first | refine RR.gy rfl rfl (pv_ixN rfl rfl st36 (by omega)) rfl ?_ | refine RR.gy rfl rfl (pv_ixZ rfl rfl st36 (by omega)) rfl ?_ | refine RR.gn rfl rfl rfl rfl ?_
      first | refine RR.gy rfl rfl (pv_ld rfl ct4 (ht (b + d) h2)) rfl ?_ | refine RR.gn rfl rfl rfl rfl ?_
      first | refine RR.gy rfl rfl (pv_mv rfl) rfl ?_ | refine RR.gn rfl rfl rfl rfl ?_
      first | refine RR.gy rfl rfl (pv_mv rfl) rfl ?_ | refine RR.gn rfl rfl rfl rfl ?_
      first | refine RR.gy rfl rfl (pv_mv rfl) rfl ?_ | refine RR.gn rfl rfl rfl rfl ?_
      first | refine RR.gy rfl rfl (pv_addN rfl rfl (by omega)) rfl ?_ | refine RR.gy rfl rfl (pv_add64 rfl rfl (by omega)) rfl ?_ | refine RR.gn rfl rfl rfl rfl ?_
      first | refine RR.gy rfl rfl (pv_ixN rfl rfl st36 (by omega)) rfl ?_ | refine RR.gy rfl rfl (pv_ixZ rfl rfl st36 (by omega)) rfl ?_ | refine RR.gn rfl rfl rfl rfl ?_
      first | refine RR.gy rfl rfl (pv_ld rfl ct4 (ht (b + d) h2)) rfl ?_ | refine RR.gn rfl rfl rfl rfl ?_
      first | refine RR.gy rfl rfl (pv_neqB rfl rfl) rfl ?_ | refine RR.gn rfl rfl rfl rfl ?_
      first | refine RR.pv (pv_pick_t rfl rfl) rfl ?_ | refine RR.pv (pv_pick_f rfl rfl) rfl ?_
      refine RR.nil ?_
      refine CC.cond_t rfl ?_
      refine CC.seq ?_
      refine CC.region ?_
      refine RR.pv (pv_as rfl) rfl ?_
      refine RR.nil ?_
      refine CC.ret ?_
      exact EndQ.r1 Try.results37 rfl ⟨by rw [hrf], rfl⟩
  have hrf : r = false := hno (fun e he hle => h1 ⟨(he.2.1 d (by omega)).1, (he.2.1 d (by omega)).2.1⟩)
  by_cases h2 : a + d < n
  · refine CC.seq ?_
    refine CC.seq ?_
    refine CC.region ?_
    refine RR.pv (pv_mv rfl) rfl ?_
    refine RR.pv (pv_mv rfl) rfl ?_
    first | refine RR.pv (pv_addN rfl rfl (by omega)) rfl ?_ | refine RR.pv (pv_add64 rfl rfl (by omega)) rfl ?_
    refine RR.pv (pv_mv rfl) rfl ?_
    first | refine RR.pv (pv_lss_t rfl rfl (by omega)) rfl ?_ | refine RR.pv (pv_lss_f rfl rfl (by omega)) rfl ?_ | refine RR.pv (pv_lss rfl rfl) rfl ?_
    refine RR.pv (pv_mv rfl) rfl ?_
    first | refine RR.gy rfl rfl (pv_mv rfl) rfl ?_ | refine RR.gn rfl rfl rfl rfl ?_
    first | refine RR.gy rfl rfl (pv_mv rfl) rfl ?_ | refine RR.gn rfl rfl rfl rfl ?_
    first | refine RR.gy rfl rfl (pv_addN rfl rfl (by omega)) rfl ?_ | refine RR.gy rfl rfl (pv_add64 rfl rfl (by omega)) rfl ?_ | refine RR.gn rfl rfl rfl rfl ?_
    first | refine RR.gy rfl rfl (pv_mv rfl) rfl ?_ | refine RR.gn rfl rfl rfl rfl ?_
    first | refine RR.gy rfl rfl (pv_lss_t rfl rfl (by omega)) rfl ?_ | refine RR.gy rfl rfl (pv_lss_f rfl rfl (by omega)) rfl ?_ | refine RR.gy rfl rfl (pv_lss rfl rfl) rfl ?_ | refine RR.gn rfl rfl rfl rfl ?_
    first | refine RR.pv (pv_pick_t rfl rfl) rfl ?_ | refine RR.pv (pv_pick_f rfl rfl) rfl ?_
    refine RR.nil ?_
    refine CC.cond_f rfl ?_
    refine CC.exit ?_
    refine CC.seq ?_
    refine CC.region ?_
    refine RR.pv (pv_as rfl) rfl ?_
    refine RR.nil ?_
    refine CC.ret ?_
    exact EndQ.r1 Try.results37 rfl ⟨by rw [hrf], rfl⟩
  · refine CC.seq ?_
    refine CC.seq ?_
    refine CC.region ?_
    refine RR.pv (pv_mv rfl) rfl ?_
    refine RR.pv (pv_mv rfl) rfl ?_
    first | refine RR.pv (pv_addN rfl rfl (by omega)) rfl ?_ | refine RR.pv (pv_add64 rfl rfl (by omega)) rfl ?_
    refine RR.pv (pv_mv rfl) rfl ?_
    first | refine RR.pv (pv_lss_t rfl rfl (by omega)) rfl ?_ | refine RR.pv (pv_lss_f rfl rfl (by omega)) rfl ?_ | refine RR.pv (pv_lss rfl rfl) rfl ?_
    refine RR.pv (pv_mv rfl) rfl ?_
    first | refine RR.gy rfl rfl (pv_mv rfl) rfl ?_ | refine RR.gn rfl rfl rfl rfl ?_
    first | refine RR.gy rfl rfl (pv_mv rfl) rfl ?_ | refine RR.gn rfl rfl rfl rfl ?_
    first | refine RR.gy rfl rfl (pv_addN rfl rfl (by omega)) rfl ?_ | refine RR.gy rfl rfl (pv_add64 rfl rfl (by omega)) rfl ?_ | refine RR.gn rfl rfl rfl rfl ?_
    first | refine RR.gy rfl rfl (pv_mv rfl) rfl ?_ | refine RR.gn rfl rfl rfl rfl ?_
    first | refine RR.gy rfl rfl (pv_lss_t rfl rfl (by omega)) rfl ?_ | refine RR.gy rfl rfl (pv_lss_f rfl rfl (by omega)) rfl ?_ | refine RR.gy rfl rfl (pv_lss rfl rfl) rfl ?_ | refine RR.gn rfl rfl rfl rfl ?_
    first | refine RR.pv (pv_pick_t rfl rfl) rfl ?_ | refine RR.pv (pv_pick_f rfl rfl) rfl ?_
    refine RR.nil ?_
    refine CC.cond_f rfl ?_
    refine CC.exit ?_
    refine CC.seq ?_
    refine CC.region ?_
    refine RR.pv (pv_as rfl) rfl ?_
    refine RR.nil ?_
    refine CC.ret ?_
    exact EndQ.r1 Try.results37 rfl ⟨by rw [hrf], rfl⟩

theorem sameLMS41_any (bt ot ct b3 n a b : Nat) (t : Nat → Nat) (s : Nat → Bool) (w : World) (hn : n ≤ 1048576) (ha : a < n) (hb : b < n) (ht : SN .i32 w bt ot n t) (hs : SB w b3 0 n s) (r : Bool) (hr : r = true ↔ Eq2 n t s a b) :
    FF 41 #[.slice (some ⟨bt, ot, none⟩) n ct, .slice (some ⟨b3, 0, none⟩) n n, .int .i64 (a : Int), .int .i64 (b : Int)] w (fun v w' => v = .bool r ∧ w' = w) := by
  refine FF.of_cc (l := [_, _, _, _]) Try.func41 rfl Try.ntmps41 rfl (CC.keep (F := [(0, _), (1, _), (2, _), (3, _)]) ⟨rfl, rfl, rfl, rfl, trivial⟩ ?_)
  refine CC.seq ?_
  refine CC.region ?_
  refine RR.pv (pv_as rfl) rfl ?_
  refine RR.nil ?_
  refine CC.seq ?_
  refine CC.region ?_
  refine RR.pv (pv_mv rfl) rfl ?_
  refine RR.pv (pv_len rfl st28) rfl ?_
  refine RR.pv (pv_as rfl) rfl ?_
  refine RR.nil ?_
  refine CC.seq ?_
  refine CC.seq ?_
  refine CC.region ?_
  refine RR.pv (pv_as rfl) rfl ?_
  refine RR.nil ?_
  refine CC.block ?_
  refine CC.loop (γ := Nat) (F := fun d => [(0, .slice (some ⟨bt, ot, none⟩) n ct), (1, .slice (some ⟨b3, 0, none⟩) n n), (2, .int .i64 (a : Int)), (3, .int .i64 (b : Int)), (9, .int .i64 (n : Int)), (10, .int .i64 (d : Int))])
    (I := fun d w' => w' = w ∧ d ≤ n ∧ Agr n t s d a b ∧ Clear s d a) (μ := fun d => n + 1 - d) 0 ⟨rfl, rfl, rfl, rfl, rfl, rfl, trivial⟩
    ⟨rfl, Nat.zero_le _, fun e he => by omega, fun e h1 h2 => by omega⟩ ?_
  rintro d w' ⟨rfl, hd, hag, hcl⟩
  have hno : (∀ e, EqD n t s e a b → d ≤ e → False) → r = false := fun hx => by
    cases hrr : r with
    | false => rfl
    | true =>
      obtain ⟨e, he⟩ := hr.1 hrr
      exact (hx e he (he.le hcl)).elim
  by_cases h1 : a + d < n ∧ b + d < n
  · refine CC.seq ?_
    refine CC.seq ?_
    refine CC.region ?_
    refine RR.pv (pv_mv rfl) rfl ?_
    refine RR.pv (pv_mv rfl) rfl ?_
    first | refine RR.pv (pv_addN rfl rfl (by omega)) rfl ?_ | refine RR.pv (pv_add64 rfl rfl (by omega)) rfl ?_
    refine RR.pv (pv_mv rfl) rfl ?_
    first | refine RR.pv (pv_lss_t rfl rfl (by omega)) rfl ?_ | refine RR.pv (pv_lss_f rfl rfl (by omega)) rfl ?_ | refine RR.pv (pv_lss rfl rfl) rfl ?_
    refine RR.pv (pv_mv rfl) rfl ?_
    first | refine RR.gy rfl rfl (pv_mv rfl) rfl ?_ | refine RR.gn rfl rfl rfl rfl ?_
    first | refine RR.gy rfl rfl (pv_mv rfl) rfl ?_ | refine RR.gn rfl rfl rfl rfl ?_
    first | refine RR.gy rfl rfl (pv_addN rfl rfl (by omega)) rfl ?_ | refine RR.gy rfl rfl (pv_add64 rfl rfl (by omega)) rfl ?_ | refine RR.gn rfl rfl rfl rfl ?_
    first | refine RR.gy rfl rfl (pv_mv rfl) rfl ?_ | refine RR.gn rfl rfl rfl rfl ?_
    first | refine RR.gy rfl rfl (pv_lss_t rfl rfl (by omega)) rfl ?_ | refine RR.gy rfl rfl (pv_lss_f rfl rfl (by omega)) rfl ?_ | refine RR.gy rfl rfl (pv_lss rfl rfl) rfl ?_ | refine RR.gn rfl rfl rfl rfl ?_
    first | refine RR.pv (pv_pick_t rfl rfl) rfl ?_ | refine RR.pv (pv_pick_f rfl rfl) rfl ?_
    refine RR.nil ?_
    refine CC.cond_t rfl ?_
    obtain ⟨h1, h2⟩ := h1
    by_cases htt : t (a + d) = t (b + d)
    · refine CC.skip ?_
      refine CC.seq ?_
      refine CC.block ?_
      refine CC.seq ?_
      refine CC.seq ?_
      refine CC.regionQ (by decide +kernel) ?_
      refine RR.pv (pv_mv rfl) rfl ?_
      refine RR.pv (pv_mv rfl) rfl ?_
      refine RR.pv (pv_mv rfl) rfl ?_
      first | refine RR.pv (pv_addN rfl rfl (by omega)) rfl ?_ | refine RR.pv (pv_add64 rfl rfl (by omega)) rfl ?_
      first | refine RR.pv (pv_ixN rfl rfl st28 (by omega)) rfl ?_ | refine RR.pv (pv_ixZ rfl rfl st28 (by omega)) rfl ?_
      refine RR.pv (pv_ld rfl ct21 (ht (a + d) h1)) rfl ?_
      refine RR.pv (pv_mv rfl) rfl ?_
      refine RR.pv (pv_mv rfl) rfl ?_
      refine RR.pv (pv_mv rfl) rfl ?_
      first | refine RR.pv (pv_addN rfl rfl (by omega)) rfl ?_ | refine RR.pv (pv_add64 rfl rfl (by omega)) rfl ?_
      first | refine RR.pv (pv_ixN rfl rfl st28 (by omega)) rfl ?_ | refine RR.pv (pv_ixZ rfl rfl st28 (by omega)) rfl ?_
      refine RR.pv (pv_ld rfl ct21 (ht (b + d) h2)) rfl ?_
      first | refine RR.pv (pv_neq_t rfl rfl (by omega)) rfl ?_ | refine RR.pv (pv_neq_f rfl rfl (by omega)) rfl ?_ | refine RR.pv (pv_neq rfl rfl) rfl ?_
      refine RR.pv (pv_mv rfl) rfl ?_
      first | refine RR.gy rfl rfl (pv_mv rfl) rfl ?_ | refine RR.gn rfl rfl rfl rfl ?_
      first | refine RR.gy rfl rfl (pv_mv rfl) rfl ?_ | refine RR.gn rfl rfl rfl rfl ?_
      first | refine RR.gy rfl rfl (pv_mv rfl) rfl ?_ | refine RR.gn rfl rfl rfl rfl ?_
      first | refine RR.gy rfl rfl (pv_addN rfl rfl (by omega)) rfl ?_ | refine RR.gy rfl rfl (pv_add64 rfl rfl (by omega)) rfl ?_ | refine RR.gn rfl rfl rfl rfl ?_
      first | refine RR.gy rfl rfl (pv_ixN rfl rfl st36 (by omega)) rfl ?_ | refine RR.gy rfl rfl (pv_ixZ rfl rfl st36 (by omega)) rfl ?_ | refine RR.gn rfl rfl rfl rfl ?_
      first | refine RR.gy rfl rfl (pv_ld rfl ct4 (hs (a + d) h1)) rfl ?_ | refine RR.gn rfl rfl rfl rfl ?_
      first | refine RR.gy rfl rfl (pv_mv rfl) rfl ?_ | refine RR.gn rfl rfl rfl rfl ?_
      first | refine RR.gy rfl rfl (pv_mv rfl) rfl ?_ | refine RR.gn rfl rfl rfl rfl ?_
      first | refine RR.gy rfl rfl (pv_mv rfl) rfl ?_ | refine RR.gn rfl rfl rfl rfl ?_
      first | refine RR.gy rfl rfl (pv_addN rfl rfl (by omega)) rfl ?_ | refine RR.gy rfl rfl (pv_add64 rfl rfl (by omega)) rfl ?_ | refine RR.gn rfl rfl rfl rfl ?_
      first | refine RR.gy rfl rfl (pv_ixN rfl rfl st36 (by omega)) rfl ?_ | refine RR.gy rfl rfl (pv_ixZ rfl rfl st36 (by omega)) rfl ?_ | refine RR.gn rfl rfl rfl rfl ?_
      first | refine RR.gy rfl rfl (pv_ld rfl ct4 (hs (b + d) h2)) rfl ?_ | refine RR.gn rfl rfl rfl rfl ?_
      first | refine RR.gy rfl rfl (pv_neqB rfl rfl) rfl ?_ | refine RR.gn rfl rfl rfl rfl ?_
      first | refine RR.pv (pv_pick_t rfl rfl) rfl ?_ | refine RR.pv (pv_pick_f rfl rfl) rfl ?_
      refine RR.nil ?_
      refine CC.cond_b rfl (fun hc => ?_) (fun hc => ?_)
      · have hrf : r = false := hno (fun e he hle => by
          have := (he.2.1 d (by omega)).2.2.2
          rw [this] at hc
          simp at hc)
        refine CC.seq ?_
        refine CC.region ?_
        refine RR.pv (pv_as rfl) rfl ?_
        refine RR.nil ?_
        refine CC.ret ?_
        exact EndQ.r1 Try.results41 rfl ⟨by rw [hrf], rfl⟩
      have hss : s (a + d) = s (b + d) := by simpa using hc
      have hag' : Agr n t s (d + 1) a b := fun e he => by
        rcases Nat.lt_or_ge e d with h3 | h3
        · exact hag e h3
        · have : e = d := by omega
          subst this
          exact ⟨h1, h2, htt, hss⟩
      by_cases hl : 0 < d ∧ s (a + d) = true ∧ s (a + d - 1) = false
      · obtain ⟨h3, h4, h5⟩ := hl
        have hc1 : w'.cell? ⟨b3, 0 + (a + d), none⟩ = some (.bool true) := by rw [← h4]; exact hs (a + d) h1
        have hc2 : w'.cell? ⟨b3, 0 + (a + d - 1), none⟩ = some (.bool false) := by rw [← h5]; exact hs (a + d - 1) (by omega)
        refine CC.skip ?_
        refine CC.seq ?_
        refine CC.region ?_
        refine RR.pv (pv_mv rfl) rfl ?_
        first | refine RR.pv (pv_gtr_t rfl rfl (by omega)) rfl ?_ | refine RR.pv (pv_gtr_f rfl rfl (by omega)) rfl ?_ | refine RR.pv (pv_gtr rfl rfl) rfl ?_
        refine RR.pv (pv_mv rfl) rfl ?_
        first | refine RR.gy rfl rfl (pv_mv rfl) rfl ?_ | refine RR.gn rfl rfl rfl rfl ?_
        first | refine RR.gy rfl rfl (pv_mv rfl) rfl ?_ | refine RR.gn rfl rfl rfl rfl ?_
        first | refine RR.gy rfl rfl (pv_mv rfl) rfl ?_ | refine RR.gn rfl rfl rfl rfl ?_
        first | refine RR.gy rfl rfl (pv_addN rfl rfl (by omega)) rfl ?_ | refine RR.gy rfl rfl (pv_add64 rfl rfl (by omega)) rfl ?_ | refine RR.gn rfl rfl rfl rfl ?_
        first | refine RR.gy rfl rfl (pv_ixN rfl rfl st36 (by omega)) rfl ?_ | refine RR.gy rfl rfl (pv_ixZ rfl rfl st36 (by omega)) rfl ?_ | refine RR.gn rfl rfl rfl rfl ?_
        first | refine RR.gy rfl rfl (pv_ld rfl ct4 (hc1)) rfl ?_ | refine RR.gn rfl rfl rfl rfl ?_
        first | refine RR.pv (pv_pick_t rfl rfl) rfl ?_ | refine RR.pv (pv_pick_f rfl rfl) rfl ?_
        refine RR.pv (pv_mv rfl) rfl ?_
        first | refine RR.gy rfl rfl (pv_mv rfl) rfl ?_ | refine RR.gn rfl rfl rfl rfl ?_
        first | refine RR.gy rfl rfl (pv_mv rfl) rfl ?_ | refine RR.gn rfl rfl rfl rfl ?_
        first | refine RR.gy rfl rfl (pv_mv rfl) rfl ?_ | refine RR.gn rfl rfl rfl rfl ?_
        first | refine RR.gy rfl rfl (pv_addN rfl rfl (by omega)) rfl ?_ | refine RR.gy rfl rfl (pv_add64 rfl rfl (by omega)) rfl ?_ | refine RR.gn rfl rfl rfl rfl ?_
        first | refine RR.gy rfl rfl (pv_subN (n := 1) rfl rfl (by omega)) rfl ?_ | refine RR.gy rfl rfl (pv_sub64 rfl rfl (by omega)) rfl ?_ | refine RR.gn rfl rfl rfl rfl ?_
        first | refine RR.gy rfl rfl (pv_ixN rfl rfl st36 (by omega)) rfl ?_ | refine RR.gy rfl rfl (pv_ixZ rfl rfl st36 (by omega)) rfl ?_ | refine RR.gn rfl rfl rfl rfl ?_
        first | refine RR.gy rfl rfl (pv_ld rfl ct4 (hc2)) rfl ?_ | refine RR.gn rfl rfl rfl rfl ?_
        first | refine RR.gy rfl rfl (pv_not_t rfl) rfl ?_ | refine RR.gy rfl rfl (pv_not_f rfl) rfl ?_ | refine RR.gy rfl rfl (pv_not rfl) rfl ?_ | refine RR.gn rfl rfl rfl rfl ?_
        first | refine RR.pv (pv_pick_t rfl rfl) rfl ?_ | refine RR.pv (pv_pick_f rfl rfl) rfl ?_
        refine RR.nil ?_
        refine CC.cond_t rfl ?_
        refine CC.seq ?_
        refine CC.region ?_
        refine RR.pv (pv_as rfl) rfl ?_
        refine RR.nil ?_
        refine CC.ret ?_
        have hrt : r = true := hr.2 ⟨d, h3, hag', by rw [lms_iff]; exact ⟨by omega, h4, h5⟩, hcl⟩
        exact EndQ.r1 Try.results41 rfl ⟨by rw [hrt], rfl⟩
      have hcl' : Clear s (d + 1) a := fun e h3 h4 => by
        rcases Nat.lt_or_ge e d with h5 | h5
        · exact hcl e h3 h5
        · have : e = d := by omega
          subst this
          cases h6 : lms s (a + e) with
          | false => rfl
          | true =>
            rw [lms_iff] at h6
            exact absurd ⟨h3, h6.2⟩ hl
      by_cases h3 : 0 < d
      · by_cases h4 : s (a + d) = true
        · have h5 : s (a + d - 1) = true := by
            cases h6 : s (a + d - 1) with
            | false => exact absurd ⟨h3, h4, h6⟩ hl
            | true => rfl
          have hc1 : w'.cell? ⟨b3, 0 + (a + d), none⟩ = some (.bool true) := by rw [← h4]; exact hs (a + d) h1
          have hc2 : w'.cell? ⟨b3, 0 + (a + d - 1), none⟩ = some (.bool true) := by rw [← h5]; exact hs (a + d - 1) (by omega)
          refine CC.skip ?_
          refine CC.seq ?_
          refine CC.region ?_
          refine RR.pv (pv_mv rfl) rfl ?_
          first | refine RR.pv (pv_gtr_t rfl rfl (by omega)) rfl ?_ | refine RR.pv (pv_gtr_f rfl rfl (by omega)) rfl ?_ | refine RR.pv (pv_gtr rfl rfl) rfl ?_
          refine RR.pv (pv_mv rfl) rfl ?_
          first | refine RR.gy rfl rfl (pv_mv rfl) rfl ?_ | refine RR.gn rfl rfl rfl rfl ?_
          first | refine RR.gy rfl rfl (pv_mv rfl) rfl ?_ | refine RR.gn rfl rfl rfl rfl ?_
          first | refine RR.gy rfl rfl (pv_mv rfl) rfl ?_ | refine RR.gn rfl rfl rfl rfl ?_
          first | refine RR.gy rfl rfl (pv_addN rfl rfl (by omega)) rfl ?_ | refine RR.gy rfl rfl (pv_add64 rfl rfl (by omega)) rfl ?_ | refine RR.gn rfl rfl rfl rfl ?_
          first | refine RR.gy rfl rfl (pv_ixN rfl rfl st36 (by omega)) rfl ?_ | refine RR.gy rfl rfl (pv_ixZ rfl rfl st36 (by omega)) rfl ?_ | refine RR.gn rfl rfl rfl rfl ?_
          first | refine RR.gy rfl rfl (pv_ld rfl ct4 (hc1)) rfl ?_ | refine RR.gn rfl rfl rfl rfl ?_
          first | refine RR.pv (pv_pick_t rfl rfl) rfl ?_ | refine RR.pv (pv_pick_f rfl rfl) rfl ?_
          refine RR.pv (pv_mv rfl) rfl ?_
          first | refine RR.gy rfl rfl (pv_mv rfl) rfl ?_ | refine RR.gn rfl rfl rfl rfl ?_
          first | refine RR.gy rfl rfl (pv_mv rfl) rfl ?_ | refine RR.gn rfl rfl rfl rfl ?_
          first | refine RR.gy rfl rfl (pv_mv rfl) rfl ?_ | refine RR.gn rfl rfl rfl rfl ?_
          first | refine RR.gy rfl rfl (pv_addN rfl rfl (by omega)) rfl ?_ | refine RR.gy rfl rfl (pv_add64 rfl rfl (by omega)) rfl ?_ | refine RR.gn rfl rfl rfl rfl ?_
          first | refine RR.gy rfl rfl (pv_subN (n := 1) rfl rfl (by omega)) rfl ?_ | refine RR.gy rfl rfl (pv_sub64 rfl rfl (by omega)) rfl ?_ | refine RR.gn rfl rfl rfl rfl ?_
          first | refine RR.gy rfl rfl (pv_ixN rfl rfl st36 (by omega)) rfl ?_ | refine RR.gy rfl rfl (pv_ixZ rfl rfl st36 (by omega)) rfl ?_ | refine RR.gn rfl rfl rfl rfl ?_
          first | refine RR.gy rfl rfl (pv_ld rfl ct4 (hc2)) rfl ?_ | refine RR.gn rfl rfl rfl rfl ?_
          first | refine RR.gy rfl rfl (pv_not_t rfl) rfl ?_ | refine RR.gy rfl rfl (pv_not_f rfl) rfl ?_ | refine RR.gy rfl rfl (pv_not rfl) rfl ?_ | refine RR.gn rfl rfl rfl rfl ?_
          first | refine RR.pv (pv_pick_t rfl rfl) rfl ?_ | refine RR.pv (pv_pick_f rfl rfl) rfl ?_
          refine RR.nil ?_
          refine CC.cond_f rfl ?_
          refine CC.skip ?_
          refine CC.region ?_
          refine RR.pv (pv_mv rfl) rfl ?_
          first | refine RR.pv (pv_addN (n := 1) rfl rfl (by omega)) rfl ?_ | refine RR.pv (pv_add64 rfl rfl (by omega)) rfl ?_
          refine RR.pv (pv_as rfl) rfl ?_
          refine RR.nil ?_
          exact Nxt.go (d + 1) ⟨rfl, rfl, rfl, rfl, rfl, rfl, trivial⟩ ⟨rfl, by omega, hag', hcl'⟩ (by omega)
        · have hc1 : w'.cell? ⟨b3, 0 + (a + d), none⟩ = some (.bool false) := by rw [show false = s (a + d) from by cases h6 : s (a + d) <;> simp_all]; exact hs (a + d) h1
          refine CC.skip ?_
          refine CC.seq ?_
          refine CC.region ?_
          refine RR.pv (pv_mv rfl) rfl ?_
          first | refine RR.pv (pv_gtr_t rfl rfl (by omega)) rfl ?_ | refine RR.pv (pv_gtr_f rfl rfl (by omega)) rfl ?_ | refine RR.pv (pv_gtr rfl rfl) rfl ?_
          refine RR.pv (pv_mv rfl) rfl ?_
          first | refine RR.gy rfl rfl (pv_mv rfl) rfl ?_ | refine RR.gn rfl rfl rfl rfl ?_
          first | refine RR.gy rfl rfl (pv_mv rfl) rfl ?_ | refine RR.gn rfl rfl rfl rfl ?_
          first | refine RR.gy rfl rfl (pv_mv rfl) rfl ?_ | refine RR.gn rfl rfl rfl rfl ?_
          first | refine RR.gy rfl rfl (pv_addN rfl rfl (by omega)) rfl ?_ | refine RR.gy rfl rfl (pv_add64 rfl rfl (by omega)) rfl ?_ | refine RR.gn rfl rfl rfl rfl ?_
          first | refine RR.gy rfl rfl (pv_ixN rfl rfl st36 (by omega)) rfl ?_ | refine RR.gy rfl rfl (pv_ixZ rfl rfl st36 (by omega)) rfl ?_ | refine RR.gn rfl rfl rfl rfl ?_
          first | refine RR.gy rfl rfl (pv_ld rfl ct4 (hc1)) rfl ?_ | refine RR.gn rfl rfl rfl rfl ?_
          first | refine RR.pv (pv_pick_t rfl rfl) rfl ?_ | refine RR.pv (pv_pick_f rfl rfl) rfl ?_
          refine RR.pv (pv_mv rfl) rfl ?_
          first | refine RR.gy rfl rfl (pv_mv rfl) rfl ?_ | refine RR.gn rfl rfl rfl rfl ?_
          first | refine RR.gy rfl rfl (pv_mv rfl) rfl ?_ | refine RR.gn rfl rfl rfl rfl ?_
          first | refine RR.gy rfl rfl (pv_mv rfl) rfl ?_ | refine RR.gn rfl rfl rfl rfl ?_
          first | refine RR.gy rfl rfl (pv_addN rfl rfl (by omega)) rfl ?_ | refine RR.gy rfl rfl (pv_add64 rfl rfl (by omega)) rfl ?_ | refine RR.gn rfl rfl rfl rfl ?_
          first | refine RR.gy rfl rfl (pv_subN (n := 1) rfl rfl (by omega)) rfl ?_ | refine RR.gy rfl rfl (pv_sub64 rfl rfl (by omega)) rfl ?_ | refine RR.gn rfl rfl rfl rfl ?_
          first | refine RR.gy rfl rfl (pv_ixN rfl rfl st36 (by omega)) rfl ?_ | refine RR.gy rfl rfl (pv_ixZ rfl rfl st36 (by omega)) rfl ?_ | refine RR.gn rfl rfl rfl rfl ?_
          first | refine RR.gy rfl rfl (pv_ld rfl ct4 (hc1)) rfl ?_ | refine RR.gn rfl rfl rfl rfl ?_
          first | refine RR.gy rfl rfl (pv_not_t rfl) rfl ?_ | refine RR.gy rfl rfl (pv_not_f rfl) rfl ?_ | refine RR.gy rfl rfl (pv_not rfl) rfl ?_ | refine RR.gn rfl rfl rfl rfl ?_
          first | refine RR.pv (pv_pick_t rfl rfl) rfl ?_ | refine RR.pv (pv_pick_f rfl rfl) rfl ?_
          refine RR.nil ?_
          refine CC.cond_f rfl ?_
          refine CC.skip ?_
          refine CC.region ?_
          refine RR.pv (pv_mv rfl) rfl ?_
          first | refine RR.pv (pv_addN (n := 1) rfl rfl (by omega)) rfl ?_ | refine RR.pv (pv_add64 rfl rfl (by omega)) rfl ?_
          refine RR.pv (pv_as rfl) rfl ?_
          refine RR.nil ?_
          exact Nxt.go (d + 1) ⟨rfl, rfl, rfl, rfl, rfl, rfl, trivial⟩ ⟨rfl, by omega, hag', hcl'⟩ (by omega)
      · refine CC.skip ?_
        refine CC.seq ?_
        refine CC.region ?_
        refine RR.pv (pv_mv rfl) rfl ?_
        first | refine RR.pv (pv_gtr_t rfl rfl (by omega)) rfl ?_ | refine RR.pv (pv_gtr_f rfl rfl (by omega)) rfl ?_ | refine RR.pv (pv_gtr rfl rfl) rfl ?_
        refine RR.pv (pv_mv rfl) rfl ?_
        first | refine RR.gy rfl rfl (pv_mv rfl) rfl ?_ | refine RR.gn rfl rfl rfl rfl ?_
        first | refine RR.gy rfl rfl (pv_mv rfl) rfl ?_ | refine RR.gn rfl rfl rfl rfl ?_
        first | refine RR.gy rfl rfl (pv_mv rfl) rfl ?_ | refine RR.gn rfl rfl rfl rfl ?_
        first | refine RR.gy rfl rfl (pv_addN rfl rfl (by omega)) rfl ?_ | refine RR.gy rfl rfl (pv_add64 rfl rfl (by omega)) rfl ?_ | refine RR.gn rfl rfl rfl rfl ?_
        first | refine RR.gy rfl rfl (pv_ixN rfl rfl st36 (by omega)) rfl ?_ | refine RR.gy rfl rfl (pv_ixZ rfl rfl st36 (by omega)) rfl ?_ | refine RR.gn rfl rfl rfl rfl ?_
        first | refine RR.gy rfl rfl (pv_ld rfl ct4 (HOLE)) rfl ?_ | refine RR.gn rfl rfl rfl rfl ?_
        first | refine RR.pv (pv_pick_t rfl rfl) rfl ?_ | refine RR.pv (pv_pick_f rfl rfl) rfl ?_
        refine RR.pv (pv_mv rfl) rfl ?_
        first | refine RR.gy rfl rfl (pv_mv rfl) rfl ?_ | refine RR.gn rfl rfl rfl rfl ?_
        first | refine RR.gy rfl rfl (pv_mv rfl) rfl ?_ | refine RR.gn rfl rfl rfl rfl ?_
        first | refine RR.gy rfl rfl (pv_mv rfl) rfl ?_ | refine RR.gn rfl rfl rfl rfl ?_
        first | refine RR.gy rfl rfl (pv_addN rfl rfl (by omega)) rfl ?_ | refine RR.gy rfl rfl (pv_add64 rfl rfl (by omega)) rfl ?_ | refine RR.gn rfl rfl rfl rfl ?_
        first | refine RR.gy rfl rfl (pv_subN (n := 1) rfl rfl (by omega)) rfl ?_ | refine RR.gy rfl rfl (pv_sub64 rfl rfl (by omega)) rfl ?_ | refine RR.gn rfl rfl rfl rfl ?_
        first | refine RR.gy rfl rfl (pv_ixN rfl rfl st36 (by omega)) rfl ?_ | refine RR.gy rfl rfl (pv_ixZ rfl rfl st36 (by omega)) rfl ?_ | refine RR.gn rfl rfl rfl rfl ?_
        first | refine RR.gy rfl rfl (pv_ld rfl ct4 (HOLE)) rfl ?_ | refine RR.gn rfl rfl rfl rfl ?_
        first | refine RR.gy rfl rfl (pv_not_t rfl) rfl ?_ | refine RR.gy rfl rfl (pv_not_f rfl) rfl ?_ | refine RR.gy rfl rfl (pv_not rfl) rfl ?_ | refine RR.gn rfl rfl rfl rfl ?_
        first | refine RR.pv (pv_pick_t rfl rfl) rfl ?_ | refine RR.pv (pv_pick_f rfl rfl) rfl ?_
        refine RR.nil ?_
        refine CC.cond_f rfl ?_
        refine CC.skip ?_
        refine CC.region ?_
        refine RR.pv (pv_mv rfl) rfl ?_
        first | refine RR.pv (pv_addN (n := 1) rfl rfl (by omega)) rfl ?_ | refine RR.pv (pv_add64 rfl rfl (by omega)) rfl ?_
        refine RR.pv (pv_as rfl) rfl ?_
        refine RR.nil ?_
        exact Nxt.go (d + 1) ⟨rfl, rfl, rfl, rfl, rfl, rfl, trivial⟩ ⟨rfl, by omega, hag', hcl'⟩ (by omega)
    · have hrf : r = false := hno (fun e he hle => htt (he.2.1 d (by omega)).2.2.1)
      refine CC.skip ?_
      refine CC.seq ?_
      refine CC.block ?_
      refine CC.seq ?_
      refine CC.seq ?_
      refine CC.regionQ (by decide +kernel) ?_
      refine RR.pv (pv_mv rfl) rfl ?_
      refine RR.pv (pv_mv rfl) rfl ?_
      refine RR.pv (pv_mv rfl) rfl ?_
      first | refine RR.pv (pv_addN rfl rfl (by omega)) rfl ?_ | refine RR.pv (pv_add64 rfl rfl (by omega)) rfl ?_
      first | refine RR.pv (pv_ixN rfl rfl st28 (by omega)) rfl ?_ | refine RR.pv (pv_ixZ rfl rfl st28 (by omega)) rfl ?_
      refine RR.pv (pv_ld rfl ct21 (ht (a + d) h1)) rfl ?_
      refine RR.pv (pv_mv rfl) rfl ?_
      refine RR.pv (pv_mv rfl) rfl ?_
      refine RR.pv (pv_mv rfl) rfl ?_
      first | refine RR.pv (pv_addN rfl rfl (by omega)) rfl ?_ | refine RR.pv (pv_add64 rfl rfl (by omega)) rfl ?_
      first | refine RR.pv (pv_ixN rfl rfl st28 (by omega)) rfl ?_ | refine RR.pv (pv_ixZ rfl rfl st28 (by omega)) rfl ?_
      refine RR.pv (pv_ld rfl ct21 (ht (b + d) h2)) rfl ?_
      first | refine RR.pv (pv_neq_t rfl rfl (by omega)) rfl ?_ | refine RR.pv (pv_neq_f rfl rfl (by omega)) rfl ?_ | refine RR.pv (pv_neq rfl rfl) rfl ?_
      refine RR.pv (pv_mv rfl) rfl ?_
      first | refine RR.gy rfl rfl (pv_mv rfl) rfl ?_ | refine RR.gn rfl rfl rfl rfl ?_
      first | refine RR.gy rfl rfl (pv_mv rfl) rfl ?_ | refine RR.gn rfl rfl rfl rfl ?_
      first | refine RR.gy rfl rfl (pv_mv rfl) rfl ?_ | refine RR.gn rfl rfl rfl rfl ?_
      first | refine RR.gy rfl rfl (pv_addN rfl rfl (by omega)) rfl ?_ | refine RR.gy rfl rfl (pv_add64 rfl rfl (by omega)) rfl ?_ | refine RR.gn rfl rfl rfl rfl ?_
      first | refine RR.gy rfl rfl (pv_ixN rfl rfl st36 (by omega)) rfl ?_ | refine RR.gy rfl rfl (pv_ixZ rfl rfl st36 (by omega)) rfl ?_ | refine RR.gn rfl rfl rfl rfl ?_
      first | refine RR.gy rfl rfl (pv_ld rfl ct4 (ht (b + d) h2)) rfl ?_ | refine RR.gn rfl rfl rfl rfl ?_
      first | refine RR.gy rfl rfl (pv_mv rfl) rfl ?_ | refine RR.gn rfl rfl rfl rfl ?_
      first | refine RR.gy rfl rfl (pv_mv rfl) rfl ?_ | refine RR.gn rfl rfl rfl rfl ?_
      first | refine RR.gy rfl rfl (pv_mv rfl) rfl ?_ | refine RR.gn rfl rfl rfl rfl ?_
      first | refine RR.gy rfl rfl (pv_addN rfl rfl (by omega)) rfl ?_ | refine RR.gy rfl rfl (pv_add64 rfl rfl (by omega)) rfl ?_ | refine RR.gn rfl rfl rfl rfl ?_
      first | refine RR.gy rfl rfl (pv_ixN rfl rfl st36 (by omega)) rfl ?_ | refine RR.gy rfl rfl (pv_ixZ rfl rfl st36 (by omega)) rfl ?_ | refine RR.gn rfl rfl rfl rfl ?_
      first | refine RR.gy rfl rfl (pv_ld rfl ct4 (ht (b + d) h2)) rfl ?_ | refine RR.gn rfl rfl rfl rfl ?_
      first | refine RR.gy rfl rfl (pv_neqB rfl rfl) rfl ?_ | refine RR.gn rfl rfl rfl rfl ?_
      first | refine RR.pv (pv_pick_t rfl rfl) rfl ?_ | refine RR.pv (pv_pick_f rfl rfl) rfl ?_
      refine RR.nil ?_
      refine CC.cond_t rfl ?_
      refine CC.seq ?_
      refine CC.region ?_
      refine RR.pv (pv_as rfl) rfl ?_
      refine RR.nil ?_
      refine CC.ret ?_
      exact EndQ.r1 Try.results41 rfl ⟨by rw [hrf], rfl⟩
  have hrf : r = false := hno (fun e he hle => h1 ⟨(he.2.1 d (by omega)).1, (he.2.1 d (by omega)).2.1⟩)
  by_cases h2 : a + d < n
  · refine CC.seq ?_
    refine CC.seq ?_
    refine CC.region ?_
    refine RR.pv (pv_mv rfl) rfl ?_
    refine RR.pv (pv_mv rfl) rfl ?_
    first | refine RR.pv (pv_addN rfl rfl (by omega)) rfl ?_ | refine RR.pv (pv_add64 rfl rfl (by omega)) rfl ?_
    refine RR.pv (pv_mv rfl) rfl ?_
    first | refine RR.pv (pv_lss_t rfl rfl (by omega)) rfl ?_ | refine RR.pv (pv_lss_f rfl rfl (by omega)) rfl ?_ | refine RR.pv (pv_lss rfl rfl) rfl ?_
    refine RR.pv (pv_mv rfl) rfl ?_
    first | refine RR.gy rfl rfl (pv_mv rfl) rfl ?_ | refine RR.gn rfl rfl rfl rfl ?_
    first | refine RR.gy rfl rfl (pv_mv rfl) rfl ?_ | refine RR.gn rfl rfl rfl rfl ?_
    first | refine RR.gy rfl rfl (pv_addN rfl rfl (by omega)) rfl ?_ | refine RR.gy rfl rfl (pv_add64 rfl rfl (by omega)) rfl ?_ | refine RR.gn rfl rfl rfl rfl ?_
    first | refine RR.gy rfl rfl (pv_mv rfl) rfl ?_ | refine RR.gn rfl rfl rfl rfl ?_
    first | refine RR.gy rfl rfl (pv_lss_t rfl rfl (by omega)) rfl ?_ | refine RR.gy rfl rfl (pv_lss_f rfl rfl (by omega)) rfl ?_ | refine RR.gy rfl rfl (pv_lss rfl rfl) rfl ?_ | refine RR.gn rfl rfl rfl rfl ?_
    first | refine RR.pv (pv_pick_t rfl rfl) rfl ?_ | refine RR.pv (pv_pick_f rfl rfl) rfl ?_
    refine RR.nil ?_
    refine CC.cond_f rfl ?_
    refine CC.exit ?_
    refine CC.seq ?_
    refine CC.region ?_
    refine RR.pv (pv_as rfl) rfl ?_
    refine RR.nil ?_
    refine CC.ret ?_
    exact EndQ.r1 Try.results41 rfl ⟨by rw [hrf], rfl⟩
  · refine CC.seq ?_
    refine CC.seq ?_
    refine CC.region ?_
    refine RR.pv (pv_mv rfl) rfl ?_
    refine RR.pv (pv_mv rfl) rfl ?_
    first | refine RR.pv (pv_addN rfl rfl (by omega)) rfl ?_ | refine RR.pv (pv_add64 rfl rfl (by omega)) rfl ?_
    refine RR.pv (pv_mv rfl) rfl ?_
    first | refine RR.pv (pv_lss_t rfl rfl (by omega)) rfl ?_ | refine RR.pv (pv_lss_f rfl rfl (by omega)) rfl ?_ | refine RR.pv (pv_lss rfl rfl) rfl ?_
    refine RR.pv (pv_mv rfl) rfl ?_
    first | refine RR.gy rfl rfl (pv_mv rfl) rfl ?_ | refine RR.gn rfl rfl rfl rfl ?_
    first | refine RR.gy rfl rfl (pv_mv rfl) rfl ?_ | refine RR.gn rfl rfl rfl rfl ?_
    first | refine RR.gy rfl rfl (pv_addN rfl rfl (by omega)) rfl ?_ | refine RR.gy rfl rfl (pv_add64 rfl rfl (by omega)) rfl ?_ | refine RR.gn rfl rfl rfl rfl ?_
    first | refine RR.gy rfl rfl (pv_mv rfl) rfl ?_ | refine RR.gn rfl rfl rfl rfl ?_
    first | refine RR.gy rfl rfl (pv_lss_t rfl rfl (by omega)) rfl ?_ | refine RR.gy rfl rfl (pv_lss_f rfl rfl (by omega)) rfl ?_ | refine RR.gy rfl rfl (pv_lss rfl rfl) rfl ?_ | refine RR.gn rfl rfl rfl rfl ?_
    first | refine RR.pv (pv_pick_t rfl rfl) rfl ?_ | refine RR.pv (pv_pick_f rfl rfl) rfl ?_
    refine RR.nil ?_
    refine CC.cond_f rfl ?_
    refine CC.exit ?_
    refine CC.seq ?_
    refine CC.region ?_
    refine RR.pv (pv_as rfl) rfl ?_
    refine RR.nil ?_
    refine CC.ret ?_
    exact EndQ.r1 Try.results41 rfl ⟨by rw [hrf], rfl⟩

end Go.Proofs.Qxb6602663a.Vc
