/-
  zzc1SymbolsModel and the law FnSymbolsIsMoveToFrontWithBinaryRuns.
-/
import Derived.Test.Qxb6602663aLaw9
import Derived.Test.Qxb6602663aVc2
namespace Go.Proofs.Qxb6602663a.Vc
open Go.RowKit
set_option linter.unusedVariables false
set_option linter.unusedSimpArgs false
set_option maxRecDepth 10000

theorem nm24 : (Try.f24.name == "runtime.NumGoroutine") = false := by kernel_rfl
theorem nm32 : (Try.f32.name == "runtime.NumGoroutine") = false := by kernel_rfl

set_option maxHeartbeats 2000000 in
theorem model_any (ba : Option Addr) (n nc bn on : Nat) (f num : Nat → Nat) (nU : Int) (w : World) (hn : n ≤ 65536) (hread : 0 < n → ∃ bb ob, ba = some ⟨bb, ob, none⟩ ∧ SN .u8 w bb ob n f) (hf : ∀ i, f i < 256)
    (hnum : SN .u8 w bn on 256 num) (hnum' : ∀ i, num i < 256) :
    FF 24 #[.slice ba n nc, .pointer (some ⟨bn, on, none⟩), .int .i64 nU] w
      (fun v' w' => ∃ bo L s0, Buf (some bo) L s0 (bo + 1) w' v' (Sym.syms (fun t => num (f t)) n (lastSym nU)) ∧ w.heap.size ≤ bo ∧ Touch (fun _ _ => False) w w') := by
  have hX : ∀ t, (fun t => num (f t)) t < 256 := fun t => hnum' _
  generalize hXe : (fun t => num (f t)) = X at hX ⊢
  have hXt : ∀ t, num (f t) = X t := fun t => by rw [← hXe]
  refine FF.of_cc (l := [_, _, _]) Try.func24 rfl Try.ntmps24 rfl (CC.keep (F := [(0, _), (1, _), (2, _)]) ⟨rfl, rfl, rfl, trivial⟩ ?_)
  refine CC.seq ?_
  refine CC.region ?_
  refine RR.pv (pv_as rfl) rfl ?_
  refine RR.nil ?_
  refine CC.seq ?_
  refine CC.region ?_
  refine RR.al37 rfl ?_
  refine RR.nil ?_
  have hl1 := SI.new0 .i64 w 37 256
  have hw1 := WR.new w (Array.replicate 256 (.int .i64 0)) 37 0 256
  have hT1 : Touch (fun _ _ => False) w (w.alloc (.cells (Array.replicate 256 (.int .i64 0)) 37)) := Touch.alloc _ _ _
  have hsz1 : (w.alloc (.cells (Array.replicate 256 (.int .i64 0)) 37)).heap.size = w.heap.size + 1 := by simp
  generalize w.alloc (.cells (Array.replicate 256 (.int .i64 0)) 37) = w1 at hl1 hw1 hT1 hsz1 ⊢
  have hbl : w.heap.size ≤ w.heap.size := Nat.le_refl _
  generalize hble : w.heap.size = bl at hl1 hw1 hsz1 ⊢
  refine CC.seq ?_
  refine CC.seq ?_
  refine CC.region ?_
  refine RR.pv (pv_as rfl) rfl ?_
  refine RR.nil ?_
  refine CC.block ?_
  refine CC.loop (γ := Nat × (Nat → Int)) (F := fun g => [(0, .slice ba n nc), (1, .pointer (some ⟨bn, on, none⟩)), (2, .int .i64 nU), (7, .pointer (some ⟨bl, 0, none⟩)), (8, .int .i64 (g.1 : Int))])
    (I := fun g w' => g.1 ≤ 256 ∧ SI .i64 w' bl 0 256 g.2 ∧ WR w' bl 0 256 ∧ (∀ i, i < g.1 → g.2 i = -1) ∧ Touch (fun b o => b = bl) w1 w') (μ := fun g => 256 - g.1) (0, fun _ => 0) ⟨rfl, rfl, rfl, rfl, rfl, trivial⟩
    ⟨Nat.zero_le _, hl1, hw1, fun i hi => absurd hi (Nat.not_lt_zero _), Touch.refl _ _⟩ ?_
  rintro ⟨i, h⟩ w2 ⟨hi, hl2, hw2, hall, hT2⟩
  dsimp only at hi hl2 hall ⊢
  by_cases hlt : i < 256
  · refine CC.seq ?_
    refine CC.seq ?_
    refine CC.region ?_
    refine RR.pv (pv_mv rfl) rfl ?_
    first | refine RR.pv (pv_lss_t rfl rfl (by omega)) rfl ?_ | refine RR.pv (pv_lss_f rfl rfl (by omega)) rfl ?_ | refine RR.pv (pv_lss rfl rfl) rfl ?_
    refine RR.nil ?_
    refine CC.cond_t rfl ?_
    refine CC.skip ?_
    refine CC.seq ?_
    refine CC.block ?_
    refine CC.region ?_
    refine RR.pv (pv_mv rfl) rfl ?_
    first | refine RR.pv (pv_iaN rfl rfl at37 (by omega)) rfl ?_ | refine RR.pv (pv_iaZ rfl rfl at37 (by omega)) rfl ?_
    refine RR.st rfl rfl ct3 OneV.i (hl2 _ hlt) (hw2 _ hlt) ?_
    refine RR.nil ?_
    refine CC.region ?_
    refine RR.pv (pv_mv rfl) rfl ?_
    first | refine RR.pv (pv_addN (n := 1) rfl rfl (by omega)) rfl ?_ | refine RR.pv (pv_add64 rfl rfl (by omega)) rfl ?_
    refine RR.pv (pv_as rfl) rfl ?_
    refine RR.nil ?_
    refine Nxt.go (i + 1, upd h i (-1)) ⟨rfl, rfl, rfl, rfl, rfl, trivial⟩ ⟨hlt, hl2.set hlt _, hw2.set, fun j hj => ?_, hT2.trans (Touch.setCell _ _ _ _) (fun _ _ _ h => h) (fun _ _ _ h => h.1)⟩ (by dsimp only; omega)
    dsimp only at hj ⊢
    by_cases e : j = i
    · subst e; rw [upd_same]
    · rw [upd_ne _ _ e]; exact hall j (by omega)
  have hi256 : i = 256 := by omega
  subst hi256
  have hTw2 : Touch (fun _ _ => False) w w2 := hT1.trans hT2 (fun _ _ _ h => h) (fun b o hb h => by omega)
  have hl2' : SI .i64 w2 bl 0 256 (fun _ => -1) := (hl2.v.congr hall).ii
  refine CC.seq ?_
  refine CC.seq ?_
  refine CC.region ?_
  refine RR.pv (pv_mv rfl) rfl ?_
  first | refine RR.pv (pv_lss_t rfl rfl (by omega)) rfl ?_ | refine RR.pv (pv_lss_f rfl rfl (by omega)) rfl ?_ | refine RR.pv (pv_lss rfl rfl) rfl ?_
  refine RR.nil ?_
  refine CC.cond_f rfl ?_
  refine CC.exit ?_
  refine CC.seq ?_
  refine CC.region ?_
  refine RR.pv (pv_as rfl) rfl ?_
  refine RR.nil ?_
  refine CC.seq ?_
  refine CC.region ?_
  refine RR.pv (pv_mv rfl) rfl ?_
  refine RR.pv (pv_len rfl st22) rfl ?_
  first | refine RR.pv (pv_addN (n := 1) rfl rfl (by omega)) rfl ?_ | refine RR.pv (pv_add64 rfl rfl (by omega)) rfl ?_
  refine RR.mk28c rfl (by omega) rfl ?_
  have hB3 : Buf (some w2.heap.size) (n + 1) (fun _ => 0) (w2.heap.size + 1) (w2.alloc (.cells (Array.replicate (n + 1) (.int .i32 0)) 21)) (.slice (some ⟨w2.heap.size, 0, none⟩) 0 (n + 1)) (Sym.run X 0).out :=
    Buf.start (a0 := some w2.heap.size) (fun h => by cases h) (fun b0 hb => by
      injection hb with hb
      subst hb
      exact ⟨by omega, SI.new0 .i32 w2 21 (n + 1), WR.new w2 _ 21 0 (n + 1)⟩) (by simp)
  have hl3 := hl2'.alloc (.cells (Array.replicate (n + 1) (.int .i32 0)) 21)
  have hw3 := hw2.alloc (fun _ => hl2.lt (by omega)) (.cells (Array.replicate (n + 1) (.int .i32 0)) 21)
  have hT3 : Touch (fun _ _ => False) w (w2.alloc (.cells (Array.replicate (n + 1) (.int .i32 0)) 21)) := hTw2.trans (Touch.alloc (fun _ _ => False) _ _) (fun _ _ _ h => h) (fun _ _ _ h => h)
  have hbo : bl < w2.heap.size := hl2.lt (by omega)
  generalize w2.alloc (.cells (Array.replicate (n + 1) (.int .i32 0)) 21) = w3 at hB3 hl3 hw3 hT3 ⊢
  generalize w2.heap.size = bo at hB3 hbo ⊢
  clear hTw2 hl2 hl2' hw2 hT2 hl1 hw1 hT1 hall
  refine RR.pv (pv_as rfl) rfl ?_
  refine RR.nil ?_
  refine CC.seq ?_
  refine CC.region ?_
  refine RR.pv (pv_as rfl) rfl ?_
  refine RR.nil ?_
  refine CC.seq ?_
  refine CC.seq ?_
  refine CC.region ?_
  refine RR.pv (pv_as rfl) rfl ?_
  refine RR.nil ?_
  have hread3 : 0 < n → ∃ bb ob, ba = some ⟨bb, ob, none⟩ ∧ SN .u8 w3 bb ob n f ∧ bb < bl := fun h => by
    obtain ⟨bb, ob, h1, h2⟩ := hread h
    exact ⟨bb, ob, h1, h2.touch hT3 (fun _ _ h => h), by have := h2.lt h; omega⟩
  have hnum3 := hnum.touch hT3 (fun _ _ h => h)
  have hbn : bn < bl := by have := hnum.lt (by omega); omega
  refine CC.block ?_
  refine CC.loop (γ := Nat × Value × (Nat → Int) × Nat) (F := fun g => [(0, .slice ba n nc), (1, .pointer (some ⟨bn, on, none⟩)), (2, .int .i64 nU), (7, .pointer (some ⟨bl, 0, none⟩)), (9, .int .i64 (g.2.2.2 : Int)), (10, g.2.1), (11, .int .i64 ((Sym.run X g.1).z : Int)), (12, .int .i64 (g.1 : Int))])
    (I := fun g w' => g.1 ≤ n ∧ Buf (some bo) (n + 1) (fun _ => 0) (bo + 1) w' g.2.1 (Sym.run X g.1).out ∧ SI .i64 w' bl 0 256 g.2.2.1 ∧ WR w' bl 0 256 ∧ Sym.Linked g.2.2.1 g.2.2.2 (Sym.run X g.1).ord g.1 ∧ g.2.2.2 ≤ g.1 ∧ Touch (fun b o => bo ≤ b ∨ b = bl) w3 w') (μ := fun g => n - g.1)
    (0, .slice (some ⟨bo, 0, none⟩) 0 (n + 1), fun _ => -1, 0) ⟨rfl, rfl, rfl, rfl, rfl, rfl, rfl, rfl, trivial⟩ ⟨Nat.zero_le _, hB3, hl3, hw3, Sym.Linked.start, Nat.le_refl _, Touch.refl _ _⟩ ?_
  clear hB3 hl3 hw3
  rintro ⟨t, v, last, met⟩ w4 ⟨ht, hB4, hl4, hw4, hlk, hmt, hT4⟩
  dsimp only at ht hB4 hl4 hlk hmt ⊢
  have hrl := Sym.run_len X t
  have hnum4 := hnum3.touch hT4 (fun j _ h => by omega)
  by_cases htn : t < n
  · obtain ⟨bb, ob, rfl, hs3, hbb⟩ := hread3 (by omega)
    have hs4 := hs3.touch hT4 (fun j _ h => by omega)
    have hft := hf t
    have hxt := hXt t
    have hxlt := hX t
    obtain ⟨hpl, hpx, hpr⟩ := Sym.place_lt hX t (hX t)
    have hlo := hlk.lo (X t) hxlt
    have hhi := hlk.hi (X t) hxlt
    refine CC.seq ?_
    refine CC.seq ?_
    refine CC.region ?_
    refine RR.pv (pv_mv rfl) rfl ?_
    refine RR.pv (pv_mv rfl) rfl ?_
    refine RR.pv (pv_len rfl st22) rfl ?_
    first | refine RR.pv (pv_lss_t rfl rfl (by omega)) rfl ?_ | refine RR.pv (pv_lss_f rfl rfl (by omega)) rfl ?_ | refine RR.pv (pv_lss rfl rfl) rfl ?_
    refine RR.nil ?_
    refine CC.cond_t rfl ?_
    refine CC.skip ?_
    refine CC.seq ?_
    refine CC.block ?_
    refine CC.seq ?_
    refine CC.regionQ (by decide +kernel) ?_
    refine RR.pv (pv_mv rfl) rfl ?_
    refine RR.pv (pv_mv rfl) rfl ?_
    refine RR.pv (pv_mv rfl) rfl ?_
    first | refine RR.pv (pv_ixN rfl rfl st22 (by omega)) rfl ?_ | refine RR.pv (pv_ixZ rfl rfl st22 (by omega)) rfl ?_
    refine RR.pv (pv_ld rfl ct5 (hs4 _ (by omega))) rfl ?_
    refine RR.pv (pv_nilck rfl) rfl ?_
    first | refine RR.pv (pv_iaN rfl rfl at40 (by omega)) rfl ?_ | refine RR.pv (pv_iaZ rfl rfl at40 (by omega)) rfl ?_
    refine RR.pv (pv_ld rfl ct5 (hnum4 _ (by omega))) rfl ?_
    refine RR.pv (pv_c5_3 rfl (by omega)) rfl ?_
    refine RR.pv (pv_as rfl) rfl ?_
    refine RR.nil ?_
    rw [hxt]
    refine CC.seq ?_
    refine CC.region ?_
    refine RR.pv (pv_as rfl) rfl ?_
    refine RR.nil ?_
    have hstepL := hlk.step hpl hpx
    have hPm := fun h => hlk.place_met hpl (by rw [hpx]; exact h)
    have hPu := fun h => hlk.place_unmet hpl (by rw [hpx]; exact h)
    rw [hpx] at hPm hPu
    have hstep : Sym.run X (t + 1) = Sym.stp (Sym.run X t) (X t) := rfl
    rw [Sym.stp_place _ _ hpx] at hstep
    generalize hP : Sym.place (Sym.run X t).ord (X t) = P at hstepL hPm hPu hpl hpx hpr hstep
    refine CC.seqCut (γ := Unit) (fun _ => [(0, .slice (some ⟨bb, ob, none⟩) n nc), (1, .pointer (some ⟨bn, on, none⟩)), (2, .int .i64 nU), (7, .pointer (some ⟨bl, 0, none⟩)), (9, .int .i64 ((met + if last (X t) < 0 then 1 else 0 : Nat) : Int)), (10, v), (11, .int .i64 ((Sym.run X t).z : Int)), (12, .int .i64 (t : Int)), (13, .int .i64 ((X t : Nat) : Int)), (14, .int .i64 (P : Int))])
      (fun _ w' => w' = w4) ?_ ?_
    · by_cases hm : 0 ≤ last (X t)
      · refine CC.seq ?_
        refine CC.region ?_
        refine RR.pv (pv_mv rfl) rfl ?_
        first | refine RR.pv (pv_iaN rfl rfl at37 (by omega)) rfl ?_ | refine RR.pv (pv_iaZ rfl rfl at37 (by omega)) rfl ?_
        refine RR.pv (pv_ld rfl ct3 (hl4 _ (by omega))) rfl ?_
        first | refine RR.pv (pv_geq_t rfl rfl (by omega)) rfl ?_ | refine RR.pv (pv_geq_f rfl rfl (by omega)) rfl ?_ | refine RR.pv (pv_geq rfl rfl) rfl ?_
        refine RR.nil ?_
        refine CC.cond_t rfl ?_
        refine CC.seq ?_
        refine CC.region ?_
        refine RR.pv (pv_as rfl) rfl ?_
        refine RR.nil ?_
        refine CC.block ?_
        refine CC.loop (γ := Nat) (F := fun u => [(0, .slice (some ⟨bb, ob, none⟩) n nc), (1, .pointer (some ⟨bn, on, none⟩)), (2, .int .i64 nU), (7, .pointer (some ⟨bl, 0, none⟩)), (9, .int .i64 (met : Int)), (10, v), (11, .int .i64 ((Sym.run X t).z : Int)), (12, .int .i64 (t : Int)), (13, .int .i64 ((X t : Nat) : Int)), (14, .int .i64 ((Sym.cnt (fun y => decide (last (X t) < last y)) u : Nat) : Int)), (15, .int .i64 (u : Int))])
          (I := fun u w' => w' = w4 ∧ u ≤ 256 ∧ Sym.cnt (fun y => decide (last (X t) < last y)) u ≤ u) (μ := fun u => 256 - u) 0 ⟨rfl, rfl, rfl, rfl, rfl, rfl, rfl, rfl, rfl, rfl, rfl, trivial⟩ ⟨rfl, Nat.zero_le _, Nat.le_refl _⟩ ?_
        rintro u w5 ⟨rfl, hu, hcu⟩
        by_cases hlt : u < 256
        · refine CC.seq ?_
          refine CC.seq ?_
          refine CC.region ?_
          refine RR.pv (pv_mv rfl) rfl ?_
          first | refine RR.pv (pv_lss_t rfl rfl (by omega)) rfl ?_ | refine RR.pv (pv_lss_f rfl rfl (by omega)) rfl ?_ | refine RR.pv (pv_lss rfl rfl) rfl ?_
          refine RR.nil ?_
          refine CC.cond_t rfl ?_
          by_cases hgt : last (X t) < last u
          · have hcs : Sym.cnt (fun y => decide (last (X t) < last y)) (u + 1) = Sym.cnt (fun y => decide (last (X t) < last y)) u + 1 := by simp [Sym.cnt, hgt]
            refine CC.skip ?_
            refine CC.seq ?_
            refine CC.block ?_
            refine CC.seq ?_
            refine CC.regionQ (by decide +kernel) ?_
            refine RR.pv (pv_mv rfl) rfl ?_
            first | refine RR.pv (pv_iaN rfl rfl at37 (by omega)) rfl ?_ | refine RR.pv (pv_iaZ rfl rfl at37 (by omega)) rfl ?_
            refine RR.pv (pv_ld rfl ct3 (hl4 _ (by omega))) rfl ?_
            refine RR.pv (pv_mv rfl) rfl ?_
            first | refine RR.pv (pv_iaN rfl rfl at37 (by omega)) rfl ?_ | refine RR.pv (pv_iaZ rfl rfl at37 (by omega)) rfl ?_
            refine RR.pv (pv_ld rfl ct3 (hl4 _ (by omega))) rfl ?_
            first | refine RR.pv (pv_gtr_t rfl rfl (by omega)) rfl ?_ | refine RR.pv (pv_gtr_f rfl rfl (by omega)) rfl ?_ | refine RR.pv (pv_gtr rfl rfl) rfl ?_
            refine RR.nil ?_
            refine CC.cond_t rfl ?_
            refine CC.region ?_
            refine RR.pv (pv_mv rfl) rfl ?_
            first | refine RR.pv (pv_addN (n := 1) rfl rfl (by omega)) rfl ?_ | refine RR.pv (pv_add64 rfl rfl (by omega)) rfl ?_
            refine RR.pv (pv_as rfl) rfl ?_
            refine RR.nil ?_
            refine CC.region ?_
            refine RR.pv (pv_mv rfl) rfl ?_
            first | refine RR.pv (pv_addN (n := 1) rfl rfl (by omega)) rfl ?_ | refine RR.pv (pv_add64 rfl rfl (by omega)) rfl ?_
            refine RR.pv (pv_as rfl) rfl ?_
            refine RR.nil ?_
            refine Nxt.go (u + 1) ?_ ⟨rfl, hlt, by rw [hcs]; omega⟩ (by omega)
            rw [hcs]
            exact ⟨rfl, rfl, rfl, rfl, rfl, rfl, rfl, rfl, rfl, rfl, rfl, trivial⟩
          · have hcs : Sym.cnt (fun y => decide (last (X t) < last y)) (u + 1) = Sym.cnt (fun y => decide (last (X t) < last y)) u := by simp [Sym.cnt, hgt]
            refine CC.skip ?_
            refine CC.seq ?_
            refine CC.block ?_
            refine CC.seq ?_
            refine CC.regionQ (by decide +kernel) ?_
            refine RR.pv (pv_mv rfl) rfl ?_
            first | refine RR.pv (pv_iaN rfl rfl at37 (by omega)) rfl ?_ | refine RR.pv (pv_iaZ rfl rfl at37 (by omega)) rfl ?_
            refine RR.pv (pv_ld rfl ct3 (hl4 _ (by omega))) rfl ?_
            refine RR.pv (pv_mv rfl) rfl ?_
            first | refine RR.pv (pv_iaN rfl rfl at37 (by omega)) rfl ?_ | refine RR.pv (pv_iaZ rfl rfl at37 (by omega)) rfl ?_
            refine RR.pv (pv_ld rfl ct3 (hl4 _ (by omega))) rfl ?_
            first | refine RR.pv (pv_gtr_t rfl rfl (by omega)) rfl ?_ | refine RR.pv (pv_gtr_f rfl rfl (by omega)) rfl ?_ | refine RR.pv (pv_gtr rfl rfl) rfl ?_
            refine RR.nil ?_
            refine CC.cond_f rfl ?_
            refine CC.skip ?_
            refine CC.region ?_
            refine RR.pv (pv_mv rfl) rfl ?_
            first | refine RR.pv (pv_addN (n := 1) rfl rfl (by omega)) rfl ?_ | refine RR.pv (pv_add64 rfl rfl (by omega)) rfl ?_
            refine RR.pv (pv_as rfl) rfl ?_
            refine RR.nil ?_
            refine Nxt.go (u + 1) ?_ ⟨rfl, hlt, by rw [hcs]; omega⟩ (by omega)
            rw [hcs]
            exact ⟨rfl, rfl, rfl, rfl, rfl, rfl, rfl, rfl, rfl, rfl, rfl, trivial⟩
        · have hu256 : u = 256 := by omega
          subst hu256
          rw [hPm hm]
          refine CC.seq ?_
          refine CC.seq ?_
          refine CC.region ?_
          refine RR.pv (pv_mv rfl) rfl ?_
          first | refine RR.pv (pv_lss_t rfl rfl (by omega)) rfl ?_ | refine RR.pv (pv_lss_f rfl rfl (by omega)) rfl ?_ | refine RR.pv (pv_lss rfl rfl) rfl ?_
          refine RR.nil ?_
          refine CC.cond_f rfl ?_
          refine CC.exit ?_
          refine CutQ.go () ?_ rfl
          rw [if_neg (by omega), Nat.add_zero]
          exact ⟨rfl, rfl, rfl, rfl, rfl, rfl, rfl, rfl, rfl, rfl, trivial⟩
      · refine CC.seq ?_
        refine CC.region ?_
        refine RR.pv (pv_mv rfl) rfl ?_
        first | refine RR.pv (pv_iaN rfl rfl at37 (by omega)) rfl ?_ | refine RR.pv (pv_iaZ rfl rfl at37 (by omega)) rfl ?_
        refine RR.pv (pv_ld rfl ct3 (hl4 _ (by omega))) rfl ?_
        first | refine RR.pv (pv_geq_t rfl rfl (by omega)) rfl ?_ | refine RR.pv (pv_geq_f rfl rfl (by omega)) rfl ?_ | refine RR.pv (pv_geq rfl rfl) rfl ?_
        refine RR.nil ?_
        refine CC.cond_f rfl ?_
        refine CC.seq ?_
        refine CC.region ?_
        refine RR.pv (pv_mv rfl) rfl ?_
        refine RR.pv (pv_as rfl) rfl ?_
        refine RR.nil ?_
        refine CC.seq ?_
        refine CC.seq ?_
        refine CC.region ?_
        refine RR.pv (pv_as rfl) rfl ?_
        refine RR.nil ?_
        refine CC.block ?_
        refine CC.loop (γ := Nat) (F := fun u => [(0, .slice (some ⟨bb, ob, none⟩) n nc), (1, .pointer (some ⟨bn, on, none⟩)), (2, .int .i64 nU), (7, .pointer (some ⟨bl, 0, none⟩)), (9, .int .i64 (met : Int)), (10, v), (11, .int .i64 ((Sym.run X t).z : Int)), (12, .int .i64 (t : Int)), (13, .int .i64 ((X t : Nat) : Int)), (14, .int .i64 ((met + Sym.cnt (fun y => decide (last y < 0)) u : Nat) : Int)), (16, .int .i64 (u : Int))])
          (I := fun u w' => w' = w4 ∧ u ≤ X t ∧ Sym.cnt (fun y => decide (last y < 0)) u ≤ u) (μ := fun u => 256 - u) 0 ⟨rfl, rfl, rfl, rfl, rfl, rfl, rfl, rfl, rfl, rfl, rfl, trivial⟩ ⟨rfl, Nat.zero_le _, Nat.le_refl _⟩ ?_
        rintro u w5 ⟨rfl, hu, hcu⟩
        by_cases hlt : u < X t
        · refine CC.seq ?_
          refine CC.seq ?_
          refine CC.region ?_
          refine RR.pv (pv_mv rfl) rfl ?_
          refine RR.pv (pv_mv rfl) rfl ?_
          first | refine RR.pv (pv_lss_t rfl rfl (by omega)) rfl ?_ | refine RR.pv (pv_lss_f rfl rfl (by omega)) rfl ?_ | refine RR.pv (pv_lss rfl rfl) rfl ?_
          refine RR.nil ?_
          refine CC.cond_t rfl ?_
          by_cases hgt : last u < 0
          · have hcs : Sym.cnt (fun y => decide (last y < 0)) (u + 1) = Sym.cnt (fun y => decide (last y < 0)) u + 1 := by simp [Sym.cnt, hgt]
            refine CC.skip ?_
            refine CC.seq ?_
            refine CC.block ?_
            refine CC.seq ?_
            refine CC.region ?_
            refine RR.pv (pv_mv rfl) rfl ?_
            first | refine RR.pv (pv_iaN rfl rfl at37 (by omega)) rfl ?_ | refine RR.pv (pv_iaZ rfl rfl at37 (by omega)) rfl ?_
            refine RR.pv (pv_ld rfl ct3 (hl4 _ (by omega))) rfl ?_
            first | refine RR.pv (pv_lss_t rfl rfl (by omega)) rfl ?_ | refine RR.pv (pv_lss_f rfl rfl (by omega)) rfl ?_ | refine RR.pv (pv_lss rfl rfl) rfl ?_
            refine RR.nil ?_
            refine CC.cond_t rfl ?_
            refine CC.region ?_
            refine RR.pv (pv_mv rfl) rfl ?_
            first | refine RR.pv (pv_addN (n := 1) rfl rfl (by omega)) rfl ?_ | refine RR.pv (pv_add64 rfl rfl (by omega)) rfl ?_
            refine RR.pv (pv_as rfl) rfl ?_
            refine RR.nil ?_
            refine CC.region ?_
            refine RR.pv (pv_mv rfl) rfl ?_
            first | refine RR.pv (pv_addN (n := 1) rfl rfl (by omega)) rfl ?_ | refine RR.pv (pv_add64 rfl rfl (by omega)) rfl ?_
            refine RR.pv (pv_as rfl) rfl ?_
            refine RR.nil ?_
            refine Nxt.go (u + 1) ?_ ⟨rfl, hlt, by rw [hcs]; omega⟩ (by omega)
            rw [hcs]
            exact ⟨rfl, rfl, rfl, rfl, rfl, rfl, rfl, rfl, rfl, rfl, rfl, trivial⟩
          · have hcs : Sym.cnt (fun y => decide (last y < 0)) (u + 1) = Sym.cnt (fun y => decide (last y < 0)) u := by simp [Sym.cnt, hgt]
            refine CC.skip ?_
            refine CC.seq ?_
            refine CC.block ?_
            refine CC.seq ?_
            refine CC.region ?_
            refine RR.pv (pv_mv rfl) rfl ?_
            first | refine RR.pv (pv_iaN rfl rfl at37 (by omega)) rfl ?_ | refine RR.pv (pv_iaZ rfl rfl at37 (by omega)) rfl ?_
            refine RR.pv (pv_ld rfl ct3 (hl4 _ (by omega))) rfl ?_
            first | refine RR.pv (pv_lss_t rfl rfl (by omega)) rfl ?_ | refine RR.pv (pv_lss_f rfl rfl (by omega)) rfl ?_ | refine RR.pv (pv_lss rfl rfl) rfl ?_
            refine RR.nil ?_
            refine CC.cond_f rfl ?_
            refine CC.skip ?_
            refine CC.region ?_
            refine RR.pv (pv_mv rfl) rfl ?_
            first | refine RR.pv (pv_addN (n := 1) rfl rfl (by omega)) rfl ?_ | refine RR.pv (pv_add64 rfl rfl (by omega)) rfl ?_
            refine RR.pv (pv_as rfl) rfl ?_
            refine RR.nil ?_
            refine Nxt.go (u + 1) ?_ ⟨rfl, hlt, by rw [hcs]; omega⟩ (by omega)
            rw [hcs]
            exact ⟨rfl, rfl, rfl, rfl, rfl, rfl, rfl, rfl, rfl, rfl, rfl, trivial⟩
        · have huX : u = X t := by omega
          subst huX
          rw [hPu (by omega)]
          refine CC.seq ?_
          refine CC.seq ?_
          refine CC.region ?_
          refine RR.pv (pv_mv rfl) rfl ?_
          refine RR.pv (pv_mv rfl) rfl ?_
          first | refine RR.pv (pv_lss_t rfl rfl (by omega)) rfl ?_ | refine RR.pv (pv_lss_f rfl rfl (by omega)) rfl ?_ | refine RR.pv (pv_lss rfl rfl) rfl ?_
          refine RR.nil ?_
          refine CC.cond_f rfl ?_
          refine CC.exit ?_
          refine CC.region ?_
          refine RR.pv (pv_mv rfl) rfl ?_
          first | refine RR.pv (pv_addN (n := 1) rfl rfl (by omega)) rfl ?_ | refine RR.pv (pv_add64 rfl rfl (by omega)) rfl ?_
          refine RR.pv (pv_as rfl) rfl ?_
          refine RR.nil ?_
          refine CutQ.go () ?_ rfl
          rw [if_pos (by omega)]
          exact ⟨rfl, rfl, rfl, rfl, rfl, rfl, rfl, rfl, rfl, rfl, trivial⟩
    · rintro _ w5 rfl
      refine CC.seq ?_
      refine CC.region ?_
      refine RR.pv (pv_mv rfl) rfl ?_
      refine RR.pv (pv_mv rfl) rfl ?_
      first | refine RR.pv (pv_iaN rfl rfl at37 (by omega)) rfl ?_ | refine RR.pv (pv_iaZ rfl rfl at37 (by omega)) rfl ?_
      refine RR.st rfl rfl ct3 OneV.i (hl4 _ (by omega)) (hw4 _ (by omega)) ?_
      refine RR.nil ?_
      have hl6 := hl4.set (i := X t) (by omega) (t : Int)
      have hw6 : WR (w5.setCell ⟨bl, 0 + X t, none⟩ (.int .i64 (t : Int))) bl 0 256 := hw4.set
      have hB6 := hB4.set_other (b := bl) (o := 0 + X t) (u := .int .i64 (t : Int)) (by omega) (fun e => by injection e with e; omega)
      have hT6 : Touch (fun b o => bo ≤ b ∨ b = bl) w3 (w5.setCell ⟨bl, 0 + X t, none⟩ (.int .i64 (t : Int))) := hT4.trans (Touch.setCell _ _ _ _) (fun _ _ _ h => h) (fun _ _ _ h => .inr h.1)
      generalize w5.setCell ⟨bl, 0 + X t, none⟩ (.int .i64 (t : Int)) = w6 at hl6 hw6 hB6 hT6 ⊢
      have hmet' : (met + if last (X t) < 0 then 1 else 0 : Nat) ≤ t + 1 := by split <;> omega
      generalize (met + if last (X t) < 0 then 1 else 0 : Nat) = met' at hstepL hmet' ⊢
      by_cases hP0 : P = 0
      · rw [if_pos hP0] at hstep
        refine CC.seq ?_
        refine CC.seq ?_
        refine CC.region ?_
        refine RR.pv (pv_mv rfl) rfl ?_
        first | refine RR.pv (pv_eql_t rfl rfl (by omega)) rfl ?_ | refine RR.pv (pv_eql_f rfl rfl (by omega)) rfl ?_ | refine RR.pv (pv_eql rfl rfl) rfl ?_
        refine RR.nil ?_
        refine CC.cond_t rfl ?_
        refine CC.seq ?_
        refine CC.region ?_
        refine RR.pv (pv_mv rfl) rfl ?_
        first | refine RR.pv (pv_addN (n := 1) rfl rfl (by omega)) rfl ?_ | refine RR.pv (pv_add64 rfl rfl (by omega)) rfl ?_
        refine RR.pv (pv_as rfl) rfl ?_
        refine RR.nil ?_
        refine CC.exit ?_
        refine CC.region ?_
        refine RR.pv (pv_mv rfl) rfl ?_
        first | refine RR.pv (pv_addN (n := 1) rfl rfl (by omega)) rfl ?_ | refine RR.pv (pv_add64 rfl rfl (by omega)) rfl ?_
        refine RR.pv (pv_as rfl) rfl ?_
        refine RR.nil ?_
        refine Nxt.go (t + 1, v, upd last (X t) (t : Int), met') ?_ ⟨htn, by dsimp only; rw [hstep]; exact hB6, hl6, hw6, by dsimp only; rw [hstep]; exact hstepL, hmet', hT6⟩ (by dsimp only; omega)
        dsimp only
        rw [hstep]
        exact ⟨rfl, rfl, rfl, rfl, rfl, rfl, rfl, rfl, trivial⟩
      · rw [if_neg hP0] at hstep
        have hzl := Sym.zdig_len (Sym.run X t).z
        refine CC.seq ?_
        refine CC.seq ?_
        refine CC.region ?_
        refine RR.pv (pv_mv rfl) rfl ?_
        first | refine RR.pv (pv_eql_t rfl rfl (by omega)) rfl ?_ | refine RR.pv (pv_eql_f rfl rfl (by omega)) rfl ?_ | refine RR.pv (pv_eql rfl rfl) rfl ?_
        refine RR.nil ?_
        refine CC.cond_f rfl ?_
        refine CC.skip ?_
        refine CC.seq ?_
        refine CC.region ?_
        refine RR.pv (pv_mv rfl) rfl ?_
        refine RR.pv (pv_mv rfl) rfl ?_
        refine RR.call Try.func32 nm32 rfl rfl (runDigits_any (some bo) (n + 1) _ (bo + 1) v _ _ w6 hB6 (by omega)) rfl ?_
        rintro v7 w7 ⟨hB7, hT7⟩
        have hS7 : ∀ b o, bufS (some bo) (bo + 1) b o → bo ≤ b := fun b o h => by
          rcases h with h | h
          · injection h with h; omega
          · omega
        have hl7 := hl6.touch hT7 (fun j _ hS => by have := hS7 _ _ hS; omega)
        have hw7 := hw6.touch (fun _ => hl6.lt (by omega)) hT7
        refine RR.pv (pv_as rfl) rfl ?_
        refine RR.nil ?_
        refine CC.seq ?_
        refine CC.region ?_
        refine RR.pv (pv_as rfl) rfl ?_
        refine RR.nil ?_
        refine CC.region ?_
        refine RR.pv (pv_mv rfl) rfl ?_
        refine RR.pv (pv_mv rfl) rfl ?_
        first | refine RR.pv (pv_addN (n := 1) rfl rfl (by omega)) rfl ?_ | refine RR.pv (pv_add64 rfl rfl (by omega)) rfl ?_
        first | refine RR.pv (pv_c3_21 rfl (by omega)) rfl ?_ | refine RR.pv (pv_c3_21w rfl) rfl ?_
        refine RR.push (n := ((P + 1 : Nat) : Int)) hB7 rfl rfl rfl (by simp; omega) rfl (fun v8 w8 hB8 hT8 => ?_)
        refine RR.pv (pv_as rfl) rfl ?_
        refine RR.nil ?_
        refine CC.region ?_
        refine RR.pv (pv_mv rfl) rfl ?_
        first | refine RR.pv (pv_addN (n := 1) rfl rfl (by omega)) rfl ?_ | refine RR.pv (pv_add64 rfl rfl (by omega)) rfl ?_
        refine RR.pv (pv_as rfl) rfl ?_
        refine RR.nil ?_
        have hl8 := hl7.touch hT8 (fun j _ hS => by have := hS7 _ _ hS; omega)
        have hw8 := hw7.touch (fun _ => hl7.lt (by omega)) hT8
        refine Nxt.go (t + 1, v8, upd last (X t) (t : Int), met') ?_ ⟨htn, by dsimp only; rw [hstep]; exact hB8, hl8, hw8, by dsimp only; rw [hstep]; exact hstepL, hmet', ?_⟩ (by dsimp only; omega)
        · dsimp only
          rw [hstep]
          exact ⟨rfl, rfl, rfl, rfl, rfl, rfl, rfl, rfl, trivial⟩
        · exact (hT6.trans hT7 (T := fun b o => bo ≤ b ∨ b = bl) (fun _ _ _ h => h) (fun b o _ h => .inl (hS7 b o h))).trans hT8 (fun _ _ _ h => h) (fun b o _ h => .inl (hS7 b o h))
  · have htn' : t = n := by omega
    subst htn'
    have hzl := Sym.zdig_len (Sym.run X t).z
    refine CC.seq ?_
    refine CC.seq ?_
    refine CC.region ?_
    refine RR.pv (pv_mv rfl) rfl ?_
    refine RR.pv (pv_mv rfl) rfl ?_
    refine RR.pv (pv_len rfl st22) rfl ?_
    first | refine RR.pv (pv_lss_t rfl rfl (by omega)) rfl ?_ | refine RR.pv (pv_lss_f rfl rfl (by omega)) rfl ?_ | refine RR.pv (pv_lss rfl rfl) rfl ?_
    refine RR.nil ?_
    refine CC.cond_f rfl ?_
    refine CC.exit ?_
    refine CC.seq ?_
    refine CC.region ?_
    refine RR.pv (pv_mv rfl) rfl ?_
    refine RR.pv (pv_mv rfl) rfl ?_
    refine RR.call Try.func32 nm32 rfl rfl (runDigits_any (some bo) (t + 1) _ (bo + 1) v _ _ w4 hB4 (by omega)) rfl ?_
    rintro v5 w5 ⟨hB5, hT5⟩
    refine RR.pv (pv_as rfl) rfl ?_
    refine RR.nil ?_
    refine CC.seq ?_
    refine CC.region ?_
    refine RR.pv (pv_mv rfl) rfl ?_
    refine RR.pv (pv_mv rfl) rfl ?_
    refine RR.pv (pv_add64w rfl rfl) rfl ?_
    refine RR.pv (pv_c3_21w rfl) rfl ?_
    refine RR.push (n := lastSym nU) hB5 rfl rfl rfl (by simp; omega) rfl (fun v6 w6 hB6 hT6 => ?_)
    refine RR.pv (pv_as rfl) rfl ?_
    refine RR.nil ?_
    refine CC.ret ?_
    have hS7 : ∀ b o, bufS (some bo) (bo + 1) b o → bo ≤ b := fun b o h => by
      rcases h with h | h
      · injection h with h; omega
      · omega
    refine EndQ.r1 Try.results24 rfl ⟨bo, t + 1, fun _ => 0, hB6, by omega, ?_⟩
    exact ((hT3.trans hT4 (T := fun _ _ => False) (fun _ _ _ h => h) (fun b o hb h => by omega)).trans hT5 (T := fun _ _ => False) (fun _ _ _ h => h) (fun b o hb h => by have := hS7 b o h; omega)).trans hT6 (fun _ _ _ h => h) (fun b o hb h => by have := hS7 b o h; omega)

set_option maxHeartbeats 2000000 in
theorem law7_any (sa : Option Addr) (L Lc : Nat) (s0 : Nat → Int) (ba : Option Addr) (n nc : Nat) (f : Nat → Nat) (pn : Option Addr) (num : Nat → Nat) (nU : Int) (w : World)
    (hsa : InI w sa L Lc s0) (hba : InN w ba n nc f) (hf : ∀ i, f i < 256) (hpn : InT w pn num) (hnum' : ∀ i, num i < 256) (hU : -9223372036854775808 ≤ nU ∧ nU ≤ 9223372036854775807) :
    FF 7 #[.slice sa L Lc, .slice ba n nc, .pointer pn, .int .i64 nU] w (fun v w' => v = .bool true ∧ Touch (fun _ _ => False) w w') := by
  refine FF.of_cc (l := [_, _, _, _]) Try.func7 rfl Try.ntmps7 rfl (CC.keep (F := [(0, _), (1, _), (2, _), (3, _)]) ⟨rfl, rfl, rfl, rfl, trivial⟩ ?_)
  refine CC.seq ?_
  refine CC.region ?_
  refine RR.pv (pv_as rfl) rfl ?_
  refine RR.nil ?_
  by_cases hzz : 1048576 < L + n
  · refine CC.seq ?_
    refine CC.seq ?_
    refine CC.region ?_
    refine RR.pv (pv_mv rfl) rfl ?_
    refine RR.pv (pv_mv rfl) rfl ?_
    refine RR.pv (pv_mv rfl) rfl ?_
    refine RR.pv (pv_mv rfl) rfl ?_
    refine RR.call Try.func22 nm22 rfl rfl (zz22_no sa L Lc ba n nc _ _ w hzz) rfl ?_
    rintro v w' ⟨rfl, rfl⟩
    first | refine RR.pv (pv_not_t rfl) rfl ?_ | refine RR.pv (pv_not_f rfl) rfl ?_ | refine RR.pv (pv_not rfl) rfl ?_
    refine RR.nil ?_
    refine CC.cond_t rfl ?_
    refine CC.seq ?_
    refine CC.region ?_
    refine RR.pv (pv_as rfl) rfl ?_
    refine RR.nil ?_
    refine CC.ret ?_
    exact EndQ.r1 Try.results7 rfl ⟨rfl, Touch.refl _ _⟩
  refine CC.seq ?_
  refine CC.seq ?_
  refine CC.region ?_
  refine RR.pv (pv_mv rfl) rfl ?_
  refine RR.pv (pv_mv rfl) rfl ?_
  refine RR.pv (pv_mv rfl) rfl ?_
  refine RR.pv (pv_mv rfl) rfl ?_
  refine RR.call Try.func22 nm22 rfl rfl (zz22 sa L Lc ba n nc _ _ w (by omega)) rfl ?_
  rintro v w1 ⟨rfl, rfl⟩
  first | refine RR.pv (pv_not_t rfl) rfl ?_ | refine RR.pv (pv_not_f rfl) rfl ?_ | refine RR.pv (pv_not rfl) rfl ?_
  refine RR.nil ?_
  refine CC.cond_f rfl ?_
  by_cases hL : 65536 < L
  · refine CC.skip ?_
    refine CC.seq ?_
    refine CC.seq ?_
    refine CC.region ?_
    refine RR.pv (pv_mv rfl) rfl ?_
    refine RR.pv (pv_len rfl st28) rfl ?_
    first | refine RR.pv (pv_gtr_t rfl rfl (by omega)) rfl ?_ | refine RR.pv (pv_gtr_f rfl rfl (by omega)) rfl ?_ | refine RR.pv (pv_gtr rfl rfl) rfl ?_
    refine RR.nil ?_
    refine CC.cond_t rfl ?_
    refine CC.seq ?_
    refine CC.region ?_
    refine RR.pv (pv_as rfl) rfl ?_
    refine RR.nil ?_
    refine CC.ret ?_
    exact EndQ.r1 Try.results7 rfl ⟨rfl, Touch.refl _ _⟩
  refine CC.skip ?_
  refine CC.seq ?_
  refine CC.seq ?_
  refine CC.region ?_
  refine RR.pv (pv_mv rfl) rfl ?_
  refine RR.pv (pv_len rfl st28) rfl ?_
  first | refine RR.pv (pv_gtr_t rfl rfl (by omega)) rfl ?_ | refine RR.pv (pv_gtr_f rfl rfl (by omega)) rfl ?_ | refine RR.pv (pv_gtr rfl rfl) rfl ?_
  refine RR.nil ?_
  refine CC.cond_f rfl ?_
  by_cases hn : 65536 < n
  · refine CC.skip ?_
    refine CC.seq ?_
    refine CC.seq ?_
    refine CC.region ?_
    refine RR.pv (pv_mv rfl) rfl ?_
    refine RR.pv (pv_len rfl st22) rfl ?_
    first | refine RR.pv (pv_gtr_t rfl rfl (by omega)) rfl ?_ | refine RR.pv (pv_gtr_f rfl rfl (by omega)) rfl ?_ | refine RR.pv (pv_gtr rfl rfl) rfl ?_
    refine RR.nil ?_
    refine CC.cond_t rfl ?_
    refine CC.seq ?_
    refine CC.region ?_
    refine RR.pv (pv_as rfl) rfl ?_
    refine RR.nil ?_
    refine CC.ret ?_
    exact EndQ.r1 Try.results7 rfl ⟨rfl, Touch.refl _ _⟩
  refine CC.skip ?_
  refine CC.seq ?_
  refine CC.seq ?_
  refine CC.region ?_
  refine RR.pv (pv_mv rfl) rfl ?_
  refine RR.pv (pv_len rfl st22) rfl ?_
  first | refine RR.pv (pv_gtr_t rfl rfl (by omega)) rfl ?_ | refine RR.pv (pv_gtr_f rfl rfl (by omega)) rfl ?_ | refine RR.pv (pv_gtr rfl rfl) rfl ?_
  refine RR.nil ?_
  refine CC.cond_f rfl ?_
  cases pn with
  | none =>
    refine CC.skip ?_
    refine CC.seq ?_
    refine CC.seq ?_
    refine CC.region ?_
    refine RR.pv (pv_mv rfl) rfl ?_
    refine RR.pv (pv_eqnilp rfl) rfl ?_
    refine RR.nil ?_
    refine CC.cond_t rfl ?_
    refine CC.seq ?_
    refine CC.region ?_
    refine RR.pv (pv_as rfl) rfl ?_
    refine RR.nil ?_
    refine CC.ret ?_
    exact EndQ.r1 Try.results7 rfl ⟨rfl, Touch.refl _ _⟩
  | some q =>
  obtain ⟨bn, on, rfl, hnum⟩ := hpn q rfl
  refine CC.skip ?_
  refine CC.seq ?_
  refine CC.seq ?_
  refine CC.region ?_
  refine RR.pv (pv_mv rfl) rfl ?_
  refine RR.pv (pv_eqnilp rfl) rfl ?_
  refine RR.nil ?_
  refine CC.cond_f rfl ?_
  refine CC.skip ?_
  refine CC.seq ?_
  refine CC.region ?_
  refine RR.pv (pv_mv rfl) rfl ?_
  refine RR.call Try.func17 nm17 rfl rfl (cloneInts_gen sa L Lc s0 w1 (by omega) hsa) rfl ?_
  rintro v w2 ⟨a0, rfl, hnil, hroom2, hT2⟩
  have hba2 := hba.touch hT2
  have hnum2 := hnum.touch hT2 (fun _ _ h => h)
  have hbnL := hnum.lt (by omega)
  refine RR.pv (pv_as rfl) rfl ?_
  refine RR.nil ?_
  refine CC.seq ?_
  refine CC.region ?_
  refine RR.pv (pv_mv rfl) rfl ?_
  refine RR.call Try.func12 nm12' rfl rfl (cloneBytes_gen ba n nc f w2 (by omega) hba2) rfl ?_
  rintro v w3 ⟨ab, rfl, hbnil, hb3, hT3⟩
  have hnum3 := hnum2.touch hT3 (fun _ _ h => h)
  refine RR.pv (pv_as rfl) rfl ?_
  refine RR.nil ?_
  refine CC.seq ?_
  refine CC.region ?_
  refine RR.pv (pv_mv rfl) rfl ?_
  refine RR.pv (pv_nilck rfl) rfl ?_
  refine RR.pv (pv_ld40 rfl hnum3) rfl ?_
  refine RR.al40 rfl ?_
  have hs4 := SN.new0 .u8 w3 40 256
  have hw4 := WR.new w3 (Array.replicate 256 (.int .u8 0)) 40 0 256
  have hT4 : Touch (fun _ _ => False) w3 (w3.alloc (.cells (Array.replicate 256 (.int .u8 0)) 40)) := Touch.alloc _ _ _
  have hsz4 : (w3.alloc (.cells (Array.replicate 256 (.int .u8 0)) 40)).heap.size = w3.heap.size + 1 := by simp
  refine RR.st40 (f' := num) rfl rfl hs4 hw4 ?_
  refine RR.nil ?_
  have hs5 := (hs4.v.setCells (p := 0) (m := 256) (f' := num) (Nat.le_refl _)).congr (g := num) (fun i hi => by rw [if_pos (by omega)]; rfl)
  have hT5 : Touch (fun _ _ => False) w3 ((w3.alloc (.cells (Array.replicate 256 (.int .u8 0)) 40)).setCells w3.heap.size 0 (cellsL (fun m : Nat => Value.int .u8 (m : Int)) num 256)) :=
    hT4.trans (Touch.setCells _ _ _ _) (fun _ _ _ h => h) (fun b o hb h => by have := h.1; omega)
  have hsz5 : ((w3.alloc (.cells (Array.replicate 256 (.int .u8 0)) 40)).setCells w3.heap.size 0 (cellsL (fun m : Nat => Value.int .u8 (m : Int)) num 256)).heap.size = w3.heap.size + 1 := by rw [size_setCells', hsz4]
  rw [Nat.add_zero] at hs5
  generalize (w3.alloc (.cells (Array.replicate 256 (.int .u8 0)) 40)).setCells w3.heap.size 0 (cellsL (fun m : Nat => Value.int .u8 (m : Int)) num 256) = w5 at hs5 hT5 hsz5 ⊢
  refine CC.seq ?_
  refine CC.region ?_
  refine RR.pv (pv_as rfl) rfl ?_
  refine RR.nil ?_
  have hT25 := hT3.trans hT5 (T := fun _ _ => False) (fun _ _ _ h => h) (fun _ _ _ h => h)
  have hroom5 : ∀ b0, a0 = some b0 → w1.heap.size ≤ b0 ∧ b0 < w3.heap.size ∧ SI .i32 w5 b0 0 L s0 ∧ WR w5 b0 0 L := fun b0 hb => by
    obtain ⟨h1, h2, h3, h4⟩ := hroom2 b0 hb
    have := hT3.size
    exact ⟨h1, by omega, h3.touch hT25 (fun _ _ h => h), h4.touch (fun _ => h2) hT25⟩
  have hin5 : InI w5 (a0.map fun b => ⟨b, 0, none⟩) L L s0 := by
    cases ha : a0 with
    | none => have := hnil ha; subst this; exact .inl ⟨rfl, rfl, rfl⟩
    | some b0 => exact .inr ⟨_, rfl, fun _ => ⟨b0, 0, rfl, (hroom5 b0 ha).2.2.1⟩⟩
  have hread5 : 0 < n → ∃ bb ob, (ab.map fun b => (⟨b, 0, none⟩ : Addr)) = some ⟨bb, ob, none⟩ ∧ SN .u8 w5 bb ob n f ∧ a0 ≠ some bb := fun h => by
    cases hab : ab with
    | none => have := hbnil hab; omega
    | some bb =>
      obtain ⟨h1, h2, h3, h4⟩ := hb3 bb hab
      refine ⟨bb, 0, rfl, h3.touch hT5 (fun _ _ h => h), fun e => ?_⟩
      have := (hroom2 bb e).2.1
      omega
  have hbt : ∀ b0, a0 = some b0 → b0 ≠ w3.heap.size := fun b0 hb e => by have := (hroom5 b0 hb).2.1; omega
  have hTw5 : Touch (fun _ _ => False) w1 w5 := hT2.trans hT25 (fun _ _ _ h => h) (fun _ _ _ h => h)
  generalize w3.heap.size = bt at hs5 hsz5 hbt hroom5 ⊢
  clear hT25 hT5 hT4 hsz4 hs4 hw4 hnum3 hnum2 hnum hb3 hbnil hba2 hba hsa hpn hT2 hT3 hroom2
  refine CC.seq ?_
  refine CC.region ?_
  refine RR.pv (pv_mv rfl) rfl ?_
  refine RR.call Try.func17 nm17 rfl rfl (cloneInts_gen (a0.map fun b => ⟨b, 0, none⟩) L L s0 w5 (by omega) hin5) rfl ?_
  rintro v w6 ⟨a1, rfl, hnil1, hroom1, hT6⟩
  have hread6 : 0 < n → ∃ bb ob, (ab.map fun b => (⟨b, 0, none⟩ : Addr)) = some ⟨bb, ob, none⟩ ∧ SN .u8 w6 bb ob n f ∧ a0 ≠ some bb := fun h => by
    obtain ⟨bb, ob, h1, h2, h3⟩ := hread5 h
    exact ⟨bb, ob, h1, h2.touch hT6 (fun _ _ h => h), h3⟩
  have hs6 : SN .u8 w6 bt 0 256 num := SN.touch hs5 hT6 (fun _ _ h => h)
  refine RR.pv (pv_as rfl) rfl ?_
  refine RR.nil ?_
  refine CC.seq ?_
  refine CC.region ?_
  refine RR.pv (pv_mv rfl) rfl ?_
  refine RR.pv (pv_mv rfl) rfl ?_
  refine RR.pv (pv_mv rfl) rfl ?_
  refine RR.pv (pv_mv rfl) rfl ?_
  refine RR.call Try.func23 nm23 rfl rfl (zzSymbols_any a0 L s0 (ab.map fun b => ⟨b, 0, none⟩) n n bt 0 f num nU w6 (by omega) hnil (fun b0 hb => ?_) hread6 hf hs6 hnum' (fun e => hbt _ e rfl)) rfl ?_
  · obtain ⟨h1, h2, h3, h4⟩ := hroom5 b0 hb
    have := hT6.size
    exact ⟨by omega, h3.touch hT6 (fun _ _ h => h), h4.touch (fun _ => by omega) hT6⟩
  rintro v w7 ⟨hB7, hT7⟩
  refine RR.pv (pv_as rfl) rfl ?_
  refine RR.nil ?_
  have hread7 : 0 < n → ∃ bb ob, (ab.map fun b => (⟨b, 0, none⟩ : Addr)) = some ⟨bb, ob, none⟩ ∧ SN .u8 w7 bb ob n f := fun h => by
    obtain ⟨bb, ob, h1, h2, h3⟩ := hread6 h
    refine ⟨bb, ob, h1, h2.touch hT7 (fun i _ hS => ?_)⟩
    rcases hS with hS | hS
    · exact h3 hS
    · have := h2.lt h; omega
  have hs7 : SN .u8 w7 bt 0 256 num := by
    refine hs6.touch hT7 (fun i _ hS => ?_)
    rcases hS with hS | hS
    · exact hbt _ hS rfl
    · have := hs6.lt (by omega); omega
  have hold7 : ∀ b1, a1 = some b1 → SI .i32 w7 b1 0 L s0 := fun b1 hb => by
    obtain ⟨h1, h2, h3, h4⟩ := hroom1 b1 hb
    refine h3.touch hT7 (fun i _ hS => ?_)
    rcases hS with hS | hS
    · have := (hroom5 b1 hS).2.1; omega
    · omega
  refine CC.seq ?_
  refine CC.region ?_
  refine RR.pv (pv_mv rfl) rfl ?_
  refine RR.pv (pv_mv rfl) rfl ?_
  refine RR.pv (pv_mv rfl) rfl ?_
  refine RR.call Try.func24 nm24 rfl rfl (model_any (ab.map fun b => ⟨b, 0, none⟩) n n bt 0 f num nU w7 (by omega) hread7 hf hs7 hnum') rfl ?_
  rintro v' w8 ⟨bo, L', s', hBw, hbo, hT8⟩
  have hB8 := hB7.touch hT8 (fun _ _ _ h => h) (fun _ _ _ _ _ h => h)
  have hold8 : ∀ b1, a1 = some b1 → SI .i32 w8 b1 0 L s0 := fun b1 hb => (hold7 b1 hb).touch hT8 (fun _ _ h => h)
  have hTall : Touch (fun _ _ => False) w1 w8 := by
    refine ((hTw5.trans hT6 (T := fun _ _ => False) (fun _ _ _ h => h) (fun _ _ _ h => h)).trans hT7 (T := fun _ _ => False) (fun _ _ _ h => h) (fun b o hb h => ?_)).trans hT8 (fun _ _ _ h => h) (fun _ _ _ h => h)
    rcases h with h | h
    · have := (hroom5 b h).1; omega
    · have := hTw5.size; have := hT6.size; omega
  have hlen := Sym.syms_len (fun t => num (f t)) n (lastSym nU)
  generalize Sym.syms (fun t => num (f t)) n (lastSym nU) = xs at hB7 hB8 hBw hlen
  obtain ⟨bg, cg, gx, hv, hsg, hgx⟩ := hB8.read hlen.2
  obtain ⟨bw, cw, gw, rfl, hsw, hgw⟩ := hBw.read hlen.2
  have hroom8 := hB8.room
  clear hB7 hB8 hBw hT7 hT8 hold7 hread7 hs7 hread6 hs6 hT6 hread5 hs5 hsz5 hroom5 hin5 hTw5
  subst hv
  have hl1 := hlen.1
  have hl0 := hlen.2
  refine RR.pv (pv_as rfl) rfl ?_
  refine RR.nil ?_
  refine CC.seq ?_
  refine CC.seq ?_
  refine CC.region ?_
  refine RR.pv (pv_mv rfl) rfl ?_
  refine RR.pv (pv_len rfl st28) rfl ?_
  refine RR.pv (pv_mv rfl) rfl ?_
  refine RR.pv (pv_len rfl st28) rfl ?_
  first | refine RR.pv (pv_neq_t rfl rfl (by omega)) rfl ?_ | refine RR.pv (pv_neq_f rfl rfl (by omega)) rfl ?_ | refine RR.pv (pv_neq rfl rfl) rfl ?_
  refine RR.nil ?_
  refine CC.cond_f rfl ?_
  refine CC.skip ?_
  refine CC.seq ?_
  refine CC.seq ?_
  refine CC.region ?_
  refine RR.pv (pv_as rfl) rfl ?_
  refine RR.nil ?_
  refine CC.block ?_
  refine CC.loop (γ := Nat) (F := fun i => [(0, own a0 L), (10, own a1 L), (11, .slice (some ⟨bg, 0, none⟩) xs.length cg), (12, .slice (some ⟨bw, 0, none⟩) xs.length cw), (13, .int .i64 (i : Int))])
    (I := fun i v => v = w8 ∧ i ≤ xs.length) (μ := fun i => xs.length - i) 0 ⟨rfl, rfl, rfl, rfl, rfl, trivial⟩ ⟨rfl, Nat.zero_le _⟩ ?_
  rintro i w9 ⟨rfl, hi⟩
  by_cases hlt : i < xs.length
  · have e1 := hgx i
    have e2 := hgw i
    refine CC.seq ?_
    refine CC.seq ?_
    refine CC.region ?_
    refine RR.pv (pv_mv rfl) rfl ?_
    refine RR.pv (pv_mv rfl) rfl ?_
    refine RR.pv (pv_len rfl st28) rfl ?_
    first | refine RR.pv (pv_lss_t rfl rfl (by omega)) rfl ?_ | refine RR.pv (pv_lss_f rfl rfl (by omega)) rfl ?_ | refine RR.pv (pv_lss rfl rfl) rfl ?_
    refine RR.nil ?_
    refine CC.cond_t rfl ?_
    refine CC.skip ?_
    refine CC.seq ?_
    refine CC.block ?_
    refine CC.seq ?_
    refine CC.regionQ (by decide +kernel) ?_
    refine RR.pv (pv_mv rfl) rfl ?_
    refine RR.pv (pv_mv rfl) rfl ?_
    first | refine RR.pv (pv_ixN rfl rfl st28 (by omega)) rfl ?_ | refine RR.pv (pv_ixZ rfl rfl st28 (by omega)) rfl ?_
    refine RR.pv (pv_ld rfl ct21 (hsg _ (by omega))) rfl ?_
    refine RR.pv (pv_mv rfl) rfl ?_
    refine RR.pv (pv_mv rfl) rfl ?_
    first | refine RR.pv (pv_ixN rfl rfl st28 (by omega)) rfl ?_ | refine RR.pv (pv_ixZ rfl rfl st28 (by omega)) rfl ?_
    refine RR.pv (pv_ld rfl ct21 (hsw _ (by omega))) rfl ?_
    first | refine RR.pv (pv_neq_t rfl rfl (by omega)) rfl ?_ | refine RR.pv (pv_neq_f rfl rfl (by omega)) rfl ?_ | refine RR.pv (pv_neq rfl rfl) rfl ?_
    refine RR.nil ?_
    refine CC.cond_f rfl ?_
    refine CC.skip ?_
    refine CC.region ?_
    refine RR.pv (pv_mv rfl) rfl ?_
    first | refine RR.pv (pv_addN (n := 1) rfl rfl (by omega)) rfl ?_ | refine RR.pv (pv_add64 rfl rfl (by omega)) rfl ?_
    refine RR.pv (pv_as rfl) rfl ?_
    refine RR.nil ?_
    exact Nxt.go (i + 1) ⟨rfl, rfl, rfl, rfl, rfl, trivial⟩ ⟨rfl, hlt⟩ (by omega)
  refine CC.seq ?_
  refine CC.seq ?_
  refine CC.region ?_
  refine RR.pv (pv_mv rfl) rfl ?_
  refine RR.pv (pv_mv rfl) rfl ?_
  refine RR.pv (pv_len rfl st28) rfl ?_
  first | refine RR.pv (pv_lss_t rfl rfl (by omega)) rfl ?_ | refine RR.pv (pv_lss_f rfl rfl (by omega)) rfl ?_ | refine RR.pv (pv_lss rfl rfl) rfl ?_
  refine RR.nil ?_
  refine CC.cond_f rfl ?_
  refine CC.exit ?_
  refine CC.seq ?_
  refine CC.seq ?_
  refine CC.region ?_
  refine RR.pv (pv_as rfl) rfl ?_
  refine RR.nil ?_
  refine CC.block ?_
  refine CC.loop (γ := Nat) (F := fun i => [(0, own a0 L), (10, own a1 L), (11, .slice (some ⟨bg, 0, none⟩) xs.length cg), (14, .int .i64 (i : Int))])
    (I := fun i v => v = w9 ∧ i ≤ L) (μ := fun i => L - i) 0 ⟨rfl, rfl, rfl, rfl, trivial⟩ ⟨rfl, Nat.zero_le _⟩ ?_
  rintro j w10 ⟨rfl, hj⟩
  by_cases hjL : j < L
  · obtain ⟨b0, hb0⟩ : ∃ b0, a0 = some b0 := by
      cases ha : a0 with
      | none => have := hnil ha; omega
      | some b0 => exact ⟨b0, rfl⟩
    obtain ⟨b1, hb1⟩ : ∃ b1, a1 = some b1 := by
      cases ha : a1 with
      | none => have := hnil1 ha; omega
      | some b1 => exact ⟨b1, rfl⟩
    subst hb0
    subst hb1
    have hsa := (hroom8 b0 rfl).1
    have hso := hold8 b1 rfl
    obtain ⟨fx, hfx⟩ : ∃ fx : Nat → Int, ∀ i, fx i = if i < xs.length then xs.getD i 0 else s0 i := ⟨_, fun _ => rfl⟩
    have hsa' : SI .i32 w10 b0 0 L fx := (hsa.v.congr (fun i _ => (hfx i).symm)).ii
    have e1 := hgx j
    have e2 := hfx j
    refine CC.seq ?_
    refine CC.seq ?_
    refine CC.region ?_
    refine RR.pv (pv_mv rfl) rfl ?_
    refine RR.pv (pv_mv rfl) rfl ?_
    refine RR.pv (pv_len rfl st28) rfl ?_
    first | refine RR.pv (pv_lss_t rfl rfl (by omega)) rfl ?_ | refine RR.pv (pv_lss_f rfl rfl (by omega)) rfl ?_ | refine RR.pv (pv_lss rfl rfl) rfl ?_
    refine RR.nil ?_
    refine CC.cond_t rfl ?_
    refine CC.skip ?_
    refine CC.seq ?_
    refine CC.block ?_
    refine CC.seq ?_
    refine CC.region ?_
    refine RR.pv (pv_mv rfl) rfl ?_
    refine RR.pv (pv_mv rfl) rfl ?_
    first | refine RR.pv (pv_ixN rfl rfl st28 (by omega)) rfl ?_ | refine RR.pv (pv_ixZ rfl rfl st28 (by omega)) rfl ?_
    refine RR.pv (pv_ld rfl ct21 (hso _ (by omega))) rfl ?_
    refine RR.pv (pv_as rfl) rfl ?_
    refine RR.nil ?_
    by_cases hjx : j < xs.length
    · rw [if_pos hjx] at e2
      refine CC.seq ?_
      refine CC.seq ?_
      refine CC.region ?_
      refine RR.pv (pv_mv rfl) rfl ?_
      refine RR.pv (pv_mv rfl) rfl ?_
      refine RR.pv (pv_len rfl st28) rfl ?_
      first | refine RR.pv (pv_lss_t rfl rfl (by omega)) rfl ?_ | refine RR.pv (pv_lss_f rfl rfl (by omega)) rfl ?_ | refine RR.pv (pv_lss rfl rfl) rfl ?_
      refine RR.nil ?_
      refine CC.cond_t rfl ?_
      refine CC.region ?_
      refine RR.pv (pv_mv rfl) rfl ?_
      refine RR.pv (pv_mv rfl) rfl ?_
      first | refine RR.pv (pv_ixN rfl rfl st28 (by omega)) rfl ?_ | refine RR.pv (pv_ixZ rfl rfl st28 (by omega)) rfl ?_
      refine RR.pv (pv_ld rfl ct21 (hsg _ (by omega))) rfl ?_
      refine RR.pv (pv_as rfl) rfl ?_
      refine RR.nil ?_
      refine CC.seq ?_
      refine CC.region ?_
      refine RR.pv (pv_mv rfl) rfl ?_
      refine RR.pv (pv_mv rfl) rfl ?_
      first | refine RR.pv (pv_ixN rfl rfl st28 (by omega)) rfl ?_ | refine RR.pv (pv_ixZ rfl rfl st28 (by omega)) rfl ?_
      refine RR.pv (pv_ld rfl ct21 (hsa' _ (by omega))) rfl ?_
      refine RR.pv (pv_mv rfl) rfl ?_
      first | refine RR.pv (pv_neq_t rfl rfl (by omega)) rfl ?_ | refine RR.pv (pv_neq_f rfl rfl (by omega)) rfl ?_ | refine RR.pv (pv_neq rfl rfl) rfl ?_
      refine RR.nil ?_
      refine CC.cond_f rfl ?_
      refine CC.skip ?_
      refine CC.region ?_
      refine RR.pv (pv_mv rfl) rfl ?_
      first | refine RR.pv (pv_addN (n := 1) rfl rfl (by omega)) rfl ?_ | refine RR.pv (pv_add64 rfl rfl (by omega)) rfl ?_
      refine RR.pv (pv_as rfl) rfl ?_
      refine RR.nil ?_
      exact Nxt.go (j + 1) ⟨rfl, rfl, rfl, rfl, trivial⟩ ⟨rfl, hjL⟩ (by omega)
    · rw [if_neg hjx] at e2
      refine CC.seq ?_
      refine CC.seq ?_
      refine CC.region ?_
      refine RR.pv (pv_mv rfl) rfl ?_
      refine RR.pv (pv_mv rfl) rfl ?_
      refine RR.pv (pv_len rfl st28) rfl ?_
      first | refine RR.pv (pv_lss_t rfl rfl (by omega)) rfl ?_ | refine RR.pv (pv_lss_f rfl rfl (by omega)) rfl ?_ | refine RR.pv (pv_lss rfl rfl) rfl ?_
      refine RR.nil ?_
      refine CC.cond_f rfl ?_
      refine CC.skip ?_
      refine CC.seq ?_
      refine CC.region ?_
      refine RR.pv (pv_mv rfl) rfl ?_
      refine RR.pv (pv_mv rfl) rfl ?_
      first | refine RR.pv (pv_ixN rfl rfl st28 (by omega)) rfl ?_ | refine RR.pv (pv_ixZ rfl rfl st28 (by omega)) rfl ?_
      refine RR.pv (pv_ld rfl ct21 (hsa' _ (by omega))) rfl ?_
      refine RR.pv (pv_mv rfl) rfl ?_
      first | refine RR.pv (pv_neq_t rfl rfl (by omega)) rfl ?_ | refine RR.pv (pv_neq_f rfl rfl (by omega)) rfl ?_ | refine RR.pv (pv_neq rfl rfl) rfl ?_
      refine RR.nil ?_
      refine CC.cond_f rfl ?_
      refine CC.skip ?_
      refine CC.region ?_
      refine RR.pv (pv_mv rfl) rfl ?_
      first | refine RR.pv (pv_addN (n := 1) rfl rfl (by omega)) rfl ?_ | refine RR.pv (pv_add64 rfl rfl (by omega)) rfl ?_
      refine RR.pv (pv_as rfl) rfl ?_
      refine RR.nil ?_
      exact Nxt.go (j + 1) ⟨rfl, rfl, rfl, rfl, trivial⟩ ⟨rfl, hjL⟩ (by omega)
  · refine CC.seq ?_
    refine CC.seq ?_
    refine CC.region ?_
    refine RR.pv (pv_mv rfl) rfl ?_
    refine RR.pv (pv_mv rfl) rfl ?_
    refine RR.pv (pv_len rfl st28) rfl ?_
    first | refine RR.pv (pv_lss_t rfl rfl (by omega)) rfl ?_ | refine RR.pv (pv_lss_f rfl rfl (by omega)) rfl ?_ | refine RR.pv (pv_lss rfl rfl) rfl ?_
    refine RR.nil ?_
    refine CC.cond_f rfl ?_
    refine CC.exit ?_
    refine CC.seq ?_
    refine CC.region ?_
    refine RR.pv (pv_as rfl) rfl ?_
    refine RR.nil ?_
    refine CC.ret ?_
    exact EndQ.r1 Try.results7 rfl ⟨rfl, hTall⟩

end Go.Proofs.Qxb6602663a.Vc
