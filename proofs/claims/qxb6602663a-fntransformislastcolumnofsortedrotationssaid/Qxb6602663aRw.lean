/-
  The walks of zzc1StartsFromCounts, zzc1OrderByRank and zzc1RotationRanks.
-/
import Derived.Test.Qxb6602663aLaw6
import Derived.Test.Qxb6602663aRk
namespace Go.Proofs.Qxb6602663a.Vc
open Go.RowKit
open Go.Proofs.Qxb6602663a.Sa (Nc Bk Bk_le)
open Go.Proofs.Qxb6602663a.Rk (pos pos_lt pos_eq pos_inj RK Srt NR)
set_option linter.unusedVariables false
set_option linter.unusedSimpArgs false
set_option maxRecDepth 10000

theorem nm30 : (Try.f30.name == "runtime.NumGoroutine") = false := by kernel_rfl

theorem starts_any (bc n m : Nat) (key : Nat → Nat) (w : World) (hn : n ≤ 1048576) (hm : m ≤ 1048576) (hc : SN .i64 w bc 0 m (Nc n key)) (hw : WR w bc 0 m) :
    FF 30 #[.slice (some ⟨bc, 0, none⟩) m m] w (fun v w' => SN .i64 w' bc 0 m (Bk n key) ∧ Touch (fun b o => b = bc) w w') := by
  refine FF.of_cc (l := [_]) Try.func30 rfl Try.ntmps30 rfl (CC.keep (F := [(0, _)]) ⟨rfl, trivial⟩ ?_)
  refine CC.seq ?_
  refine CC.region ?_
  refine RR.pv (pv_as rfl) rfl ?_
  refine RR.nil ?_
  refine CC.seq ?_
  refine CC.region ?_
  refine RR.pv (pv_as rfl) rfl ?_
  refine RR.nil ?_
  refine CC.block ?_
  refine CC.loop (γ := Nat × (Nat → Nat)) (F := fun g => [(0, .slice (some ⟨bc, 0, none⟩) m m), (2, .int .i64 ((Bk n key g.1 : Nat) : Int)), (3, .int .i64 (g.1 : Int))])
    (I := fun g w' => g.1 ≤ m ∧ SN .i64 w' bc 0 m g.2 ∧ WR w' bc 0 m ∧ (∀ v, v < g.1 → g.2 v = Bk n key v) ∧ (∀ v, g.1 ≤ v → g.2 v = Nc n key v) ∧ Touch (fun b o => b = bc) w w') (μ := fun g => m - g.1) (0, Nc n key)
    ⟨rfl, rfl, rfl, trivial⟩ ⟨Nat.zero_le _, hc, hw, fun v hv => absurd hv (Nat.not_lt_zero _), fun v _ => rfl, Touch.refl _ _⟩ ?_
  rintro ⟨v, h⟩ w1 ⟨hv, hc1, hw1, hlo, hhi, hT1⟩
  dsimp only at hv hc1 hlo hhi ⊢
  by_cases hlt : v < m
  · have e1 : Bk n key (v + 1) = Bk n key v + Nc n key v := rfl
    have e2 := Bk_le n key (v + 1)
    have hcell : w1.cell? ⟨bc, 0 + v, none⟩ = some (.int .i64 ((Nc n key v : Nat) : Int)) := by rw [← hhi v (Nat.le_refl _)]; exact hc1 v hlt
    refine CC.seq ?_
    refine CC.seq ?_
    refine CC.region ?_
    refine RR.pv (pv_mv rfl) rfl ?_
    refine RR.pv (pv_mv rfl) rfl ?_
    refine RR.pv (pv_len rfl st33) rfl ?_
    first | refine RR.pv (pv_lss_t rfl rfl (by omega)) rfl ?_ | refine RR.pv (pv_lss_f rfl rfl (by omega)) rfl ?_ | refine RR.pv (pv_lss rfl rfl) rfl ?_
    refine RR.nil ?_
    refine CC.cond_t rfl ?_
    refine CC.skip ?_
    refine CC.seq ?_
    refine CC.block ?_
    refine CC.seq ?_
    refine CC.region ?_
    refine RR.pv (pv_mv rfl) rfl ?_
    refine RR.pv (pv_mv rfl) rfl ?_
    first | refine RR.pv (pv_ixN rfl rfl st33 (by omega)) rfl ?_ | refine RR.pv (pv_ixZ rfl rfl st33 (by omega)) rfl ?_
    refine RR.pv (pv_ld rfl ct3 (hcell)) rfl ?_
    refine RR.pv (pv_as rfl) rfl ?_
    refine RR.nil ?_
    refine CC.seq ?_
    refine CC.region ?_
    refine RR.pv (pv_mv rfl) rfl ?_
    refine RR.pv (pv_mv rfl) rfl ?_
    refine RR.pv (pv_mv rfl) rfl ?_
    first | refine RR.pv (pv_ixN rfl rfl st33 (by omega)) rfl ?_ | refine RR.pv (pv_ixZ rfl rfl st33 (by omega)) rfl ?_
    refine RR.st rfl rfl ct3 OneV.i (hc1 v hlt) (hw1 _ hlt) ?_
    refine RR.nil ?_
    refine CC.region ?_
    refine RR.pv (pv_mv rfl) rfl ?_
    refine RR.pv (pv_mv rfl) rfl ?_
    refine RR.pv (pv_addN rfl rfl (by omega)) rfl ?_
    rw [← e1]
    refine RR.pv (pv_as rfl) rfl ?_
    refine RR.nil ?_
    refine CC.region ?_
    refine RR.pv (pv_mv rfl) rfl ?_
    first | refine RR.pv (pv_addN (n := 1) rfl rfl (by omega)) rfl ?_ | refine RR.pv (pv_add64 rfl rfl (by omega)) rfl ?_
    refine RR.pv (pv_as rfl) rfl ?_
    refine RR.nil ?_
    refine Nxt.go (v + 1, upd h v (Bk n key v)) ⟨rfl, rfl, rfl, trivial⟩ ⟨hlt, hc1.set hlt _, hw1.set, fun x hx => ?_, fun x hx => ?_, hT1.trans (Touch.setCell _ _ _ _) (fun _ _ _ h => h) (fun _ _ _ h => h.1)⟩ (by dsimp only; omega)
    · dsimp only at hx ⊢
      by_cases e : x = v
      · subst e; rw [upd_same]
      · rw [upd_ne _ _ e]; exact hlo x (by omega)
    · dsimp only at hx ⊢
      rw [upd_ne _ _ (by omega)]; exact hhi x (by omega)
  have hvm : v = m := by omega
  subst hvm
  refine CC.seq ?_
  refine CC.seq ?_
  refine CC.region ?_
  refine RR.pv (pv_mv rfl) rfl ?_
  refine RR.pv (pv_mv rfl) rfl ?_
  refine RR.pv (pv_len rfl st33) rfl ?_
  first | refine RR.pv (pv_lss_t rfl rfl (by omega)) rfl ?_ | refine RR.pv (pv_lss_f rfl rfl (by omega)) rfl ?_ | refine RR.pv (pv_lss rfl rfl) rfl ?_
  refine RR.nil ?_
  refine CC.cond_f rfl ?_
  refine CC.exit ?_
  exact EndQ.r0 Try.results30 ⟨(hc1.v.congr hlo).nn, hT1⟩

theorem place_upd (n : Nat) (key κ : Nat → Nat) (i c : Nat) : upd (fun v => Bk n key v + Nc i κ v) (κ i) (Bk n key (κ i) + Nc i κ (κ i) + 1) c = Bk n key c + Nc (i + 1) κ c := by
  rw [nc_succ]
  by_cases h : c = κ i
  · subst h; rw [upd_same, if_pos rfl]; omega
  · rw [upd_ne _ _ h, if_neg (fun e => h e.symm)]

/-- 256 or n, whichever is more. -/
def top (n : Nat) : Nat := if 256 < n then n else 256
theorem top_ge (n : Nat) : n ≤ top n ∧ 256 ≤ top n := by unfold top; split <;> omega
theorem top_le {n : Nat} (h : n ≤ 65536) : top n ≤ 65536 := by unfold top; split <;> omega

set_option maxHeartbeats 1000000 in
theorem orderByRank_any (br n : Nat) (rank : Nat → Nat) (w : World) (hn0 : 0 < n) (hn : n ≤ 65536) (hr : SN .i64 w br 0 n rank) (hrm : ∀ p, p < n → rank p < top n) :
    FF 20 #[.slice (some ⟨br, 0, none⟩) n n] w (fun v w' => ∃ b rows, v = .slice (some ⟨b, 0, none⟩) n n ∧ SN .i64 w' b 0 n rows ∧ (∀ p, p < n → rows (pos n rank p) = p) ∧ w.heap.size ≤ b ∧ b < w'.heap.size ∧ Touch (fun _ _ => False) w w') := by
  have htl := top_le hn
  have htg := top_ge n
  have hbr : br < w.heap.size := hr.lt hn0
  refine FF.of_cc (l := [_]) Try.func20 rfl Try.ntmps20 rfl (CC.keep (F := [(0, _)]) ⟨rfl, trivial⟩ ?_)
  refine CC.seq ?_
  refine CC.region ?_
  refine RR.pv (pv_as rfl) rfl ?_
  refine RR.nil ?_
  refine CC.seq ?_
  refine CC.region ?_
  refine RR.pv (pv_mv rfl) rfl ?_
  refine RR.pv (pv_len rfl st33) rfl ?_
  refine RR.pv (pv_as rfl) rfl ?_
  refine RR.nil ?_
  refine CC.seq ?_
  refine CC.region ?_
  refine RR.pv (pv_as rfl) rfl ?_
  refine RR.nil ?_
  refine CC.seqCut (γ := Unit) (fun _ => [(0, .slice (some ⟨br, 0, none⟩) n n), (3, .int .i64 (n : Int)), (4, .int .i64 ((top n : Nat) : Int))]) (fun _ w' => w' = w) ?_ ?_
  · by_cases h : 256 < n
    · refine CC.seq ?_
      refine CC.region ?_
      refine RR.pv (pv_mv rfl) rfl ?_
      refine RR.pv (pv_mv rfl) rfl ?_
      first | refine RR.pv (pv_gtr_t rfl rfl (by omega)) rfl ?_ | refine RR.pv (pv_gtr_f rfl rfl (by omega)) rfl ?_ | refine RR.pv (pv_gtr rfl rfl) rfl ?_
      refine RR.nil ?_
      refine CC.cond_t rfl ?_
      refine CC.region ?_
      refine RR.pv (pv_mv rfl) rfl ?_
      refine RR.pv (pv_as rfl) rfl ?_
      refine RR.nil ?_
      refine CutQ.go () ⟨rfl, rfl, ?_, trivial⟩ rfl
      unfold top; rw [if_pos h]; rfl
    · refine CC.seq ?_
      refine CC.region ?_
      refine RR.pv (pv_mv rfl) rfl ?_
      refine RR.pv (pv_mv rfl) rfl ?_
      first | refine RR.pv (pv_gtr_t rfl rfl (by omega)) rfl ?_ | refine RR.pv (pv_gtr_f rfl rfl (by omega)) rfl ?_ | refine RR.pv (pv_gtr rfl rfl) rfl ?_
      refine RR.nil ?_
      refine CC.cond_f rfl ?_
      refine CC.skip ?_
      refine CutQ.go () ⟨rfl, rfl, ?_, trivial⟩ rfl
      unfold top; rw [if_neg h]; rfl
  rintro _ w0 rfl
  generalize top n = m at hrm htl htg ⊢
  refine CC.seq ?_
  refine CC.region ?_
  refine RR.pv (pv_mv rfl) rfl ?_
  refine RR.mk33 rfl (by omega) rfl ?_
  have hc1 := SN.new0 .i64 w0 3 m
  have wc1 := WR.new w0 (Array.replicate m (.int .i64 0)) 3 0 m
  have hr1 := hr.alloc (.cells (Array.replicate m (.int .i64 0)) 3)
  have hT1 : Touch (fun _ _ => False) w0 (w0.alloc (.cells (Array.replicate m (.int .i64 0)) 3)) := Touch.alloc _ _ _
  generalize w0.alloc (.cells (Array.replicate m (.int .i64 0)) 3) = w1 at hc1 wc1 hr1 hT1 ⊢
  obtain ⟨bc, hbc⟩ : ∃ bc, w0.heap.size = bc := ⟨_, rfl⟩
  rw [hbc] at hc1 wc1 hbr ⊢
  refine RR.pv (pv_as rfl) rfl ?_
  refine RR.nil ?_
  refine CC.seq ?_
  refine CC.seq ?_
  refine CC.region ?_
  refine RR.pv (pv_as rfl) rfl ?_
  refine RR.nil ?_
  refine CC.block ?_
  refine CC.loop (γ := Nat) (F := fun p => [(0, .slice (some ⟨br, 0, none⟩) n n), (3, .int .i64 (n : Int)), (5, .slice (some ⟨bc, 0, none⟩) m m), (6, .int .i64 (p : Int))])
    (I := fun p v => p ≤ n ∧ SN .i64 v bc 0 m (Nc p rank) ∧ WR v bc 0 m ∧ SN .i64 v br 0 n rank ∧ Touch (fun b o => b = bc) w1 v) (μ := fun p => n - p) 0
    ⟨rfl, rfl, rfl, rfl, trivial⟩ ⟨Nat.zero_le _, hc1, wc1, hr1, Touch.refl _ _⟩ ?_
  rintro p w2 ⟨hp, hc2, wc2, hr2, hT2⟩
  by_cases hlt : p < n
  · have hle : Nc p rank (rank p) ≤ p := Sa.cnt_le_n _ _
    have hrp := hrm p hlt
    refine CC.seq ?_
    refine CC.seq ?_
    refine CC.region ?_
    refine RR.pv (pv_mv rfl) rfl ?_
    refine RR.pv (pv_mv rfl) rfl ?_
    first | refine RR.pv (pv_lss_t rfl rfl (by omega)) rfl ?_ | refine RR.pv (pv_lss_f rfl rfl (by omega)) rfl ?_ | refine RR.pv (pv_lss rfl rfl) rfl ?_
    refine RR.nil ?_
    refine CC.cond_t rfl ?_
    refine CC.skip ?_
    refine CC.seq ?_
    refine CC.block ?_
    refine CC.region ?_
    refine RR.pv (pv_mv rfl) rfl ?_
    refine RR.pv (pv_mv rfl) rfl ?_
    refine RR.pv (pv_mv rfl) rfl ?_
    first | refine RR.pv (pv_ixN rfl rfl st33 (by omega)) rfl ?_ | refine RR.pv (pv_ixZ rfl rfl st33 (by omega)) rfl ?_
    refine RR.pv (pv_ld rfl ct3 (hr2 p hlt)) rfl ?_
    first | refine RR.pv (pv_ixN rfl rfl st33 (by omega)) rfl ?_ | refine RR.pv (pv_ixZ rfl rfl st33 (by omega)) rfl ?_
    refine RR.pv (pv_ld rfl ct3 (hc2 (rank p) hrp)) rfl ?_
    first | refine RR.pv (pv_addN (n := 1) rfl rfl (by omega)) rfl ?_ | refine RR.pv (pv_add64 rfl rfl (by omega)) rfl ?_
    first | refine RR.pv (pv_ixN rfl rfl st33 (by omega)) rfl ?_ | refine RR.pv (pv_ixZ rfl rfl st33 (by omega)) rfl ?_
    refine RR.st rfl rfl ct3 OneV.i (hc2 (rank p) hrp) (wc2 _ hrp) ?_
    refine RR.nil ?_
    refine CC.region ?_
    refine RR.pv (pv_mv rfl) rfl ?_
    first | refine RR.pv (pv_addN (n := 1) rfl rfl (by omega)) rfl ?_ | refine RR.pv (pv_add64 rfl rfl (by omega)) rfl ?_
    refine RR.pv (pv_as rfl) rfl ?_
    refine RR.nil ?_
    exact Nxt.go (p + 1) ⟨rfl, rfl, rfl, rfl, trivial⟩ ⟨hlt, ((hc2.set hrp _).v.congr (fun c _ => nc_upd rank p c)).nn, wc2.set, hr2.set_ne (fun i hi e => by have := e.1; omega), hT2.trans (Touch.setCell _ _ _ _) (fun _ _ _ h => h) (fun _ _ _ h => h.1)⟩ (by omega)
  have hpn : p = n := by omega
  subst hpn
  refine CC.seq ?_
  refine CC.seq ?_
  refine CC.region ?_
  refine RR.pv (pv_mv rfl) rfl ?_
  refine RR.pv (pv_mv rfl) rfl ?_
  first | refine RR.pv (pv_lss_t rfl rfl (by omega)) rfl ?_ | refine RR.pv (pv_lss_f rfl rfl (by omega)) rfl ?_ | refine RR.pv (pv_lss rfl rfl) rfl ?_
  refine RR.nil ?_
  refine CC.cond_f rfl ?_
  refine CC.exit ?_
  refine CC.seq ?_
  refine CC.region ?_
  refine RR.pv (pv_mv rfl) rfl ?_
  refine RR.call Try.func30 nm30 rfl rfl (starts_any bc p m rank w2 (by omega) (by omega) hc2 wc2) rfl (fun v3 w3 hp3 => ?_)
  obtain ⟨hc3, hT3⟩ := hp3
  have wc3 := wc2.touch (fun _ => hc2.lt (by omega)) hT3
  have hr3 := hr2.touch hT3 (fun _ _ e => by omega)
  have hTw3 : Touch (fun _ _ => False) w0 w3 := hT1.trans (hT2.trans hT3 (T := fun b o => b = bc) (fun _ _ _ h => h) (fun _ _ _ h => h)) (fun _ _ _ h => h) (fun b o hb h => by omega)
  have hbc3 : bc < w3.heap.size := hc3.lt (by omega)
  clear hT1 hT2 hT3 hc1 wc1 hr1 hc2 wc2 hr2
  refine RR.nil ?_
  refine CC.seq ?_
  refine CC.region ?_
  refine RR.pv (pv_mv rfl) rfl ?_
  refine RR.mk33 rfl (by omega) rfl ?_
  have ho4 := SN.new0 .i64 w3 3 p
  have wo4 := WR.new w3 (Array.replicate p (.int .i64 0)) 3 0 p
  have hr4 := hr3.alloc (.cells (Array.replicate p (.int .i64 0)) 3)
  have hc4 : SN .i64 (w3.alloc (.cells (Array.replicate p (.int .i64 0)) 3)) bc 0 m (fun v => Bk p rank v + Nc 0 rank v) := (hc3.alloc (.cells (Array.replicate p (.int .i64 0)) 3)).v.congr (fun v _ => rfl)
  have wc4 := wc3.alloc (fun _ => hbc3) (.cells (Array.replicate p (.int .i64 0)) 3)
  have hT4 : Touch (fun _ _ => False) w0 (w3.alloc (.cells (Array.replicate p (.int .i64 0)) 3)) := hTw3.trans (Touch.alloc (fun _ _ => False) _ _) (fun _ _ _ h => h) (fun _ _ _ h => h)
  have hsz4 : (w3.alloc (.cells (Array.replicate p (.int .i64 0)) 3)).heap.size = w3.heap.size + 1 := by simp
  generalize w3.alloc (.cells (Array.replicate p (.int .i64 0)) 3) = w4 at ho4 wo4 hr4 hc4 wc4 hT4 hsz4 ⊢
  obtain ⟨bo, hbo⟩ : ∃ bo, w3.heap.size = bo := ⟨_, rfl⟩
  rw [hbo] at ho4 wo4 hbc3 hsz4 ⊢
  refine RR.pv (pv_as rfl) rfl ?_
  refine RR.nil ?_
  refine CC.seq ?_
  refine CC.seq ?_
  refine CC.region ?_
  refine RR.pv (pv_as rfl) rfl ?_
  refine RR.nil ?_
  refine CC.block ?_
  refine CC.loop (γ := Nat × (Nat → Nat)) (F := fun g => [(0, .slice (some ⟨br, 0, none⟩) p p), (3, .int .i64 (p : Int)), (5, .slice (some ⟨bc, 0, none⟩) m m), (7, .slice (some ⟨bo, 0, none⟩) p p), (8, .int .i64 (g.1 : Int))])
    (I := fun g v => g.1 ≤ p ∧ SN .i64 v bc 0 m (fun x => Bk p rank x + Nc g.1 rank x) ∧ WR v bc 0 m ∧ SN .i64 v br 0 p rank ∧ SN .i64 v bo 0 p g.2 ∧ WR v bo 0 p ∧ (∀ x, x < g.1 → g.2 (pos p rank x) = x) ∧ Touch (fun b o => b = bc ∨ b = bo) w4 v) (μ := fun g => p - g.1) (0, fun _ => 0)
    ⟨rfl, rfl, rfl, rfl, rfl, trivial⟩ ⟨Nat.zero_le _, hc4, wc4, hr4, ho4, wo4, fun x hx => absurd hx (Nat.not_lt_zero _), Touch.refl _ _⟩ ?_
  rintro ⟨i, h⟩ w5 ⟨hi, hc5, wc5, hr5, ho5, wo5, hall, hT5⟩
  dsimp only at hi hc5 ho5 hall ⊢
  by_cases hlt : i < p
  · have hrp := hrm i hlt
    have hpl := pos_lt (κ := rank) hlt
    have hpe := pos_eq (κ := rank) hlt
    have hcell : w5.cell? ⟨bc, 0 + rank i, none⟩ = some (.int .i64 ((pos p rank i : Nat) : Int)) := by rw [hpe]; exact hc5 (rank i) hrp
    refine CC.seq ?_
    refine CC.seq ?_
    refine CC.region ?_
    refine RR.pv (pv_mv rfl) rfl ?_
    refine RR.pv (pv_mv rfl) rfl ?_
    first | refine RR.pv (pv_lss_t rfl rfl (by omega)) rfl ?_ | refine RR.pv (pv_lss_f rfl rfl (by omega)) rfl ?_ | refine RR.pv (pv_lss rfl rfl) rfl ?_
    refine RR.nil ?_
    refine CC.cond_t rfl ?_
    refine CC.skip ?_
    refine CC.seq ?_
    refine CC.block ?_
    refine CC.seq ?_
    refine CC.region ?_
    refine RR.pv (pv_mv rfl) rfl ?_
    refine RR.pv (pv_mv rfl) rfl ?_
    first | refine RR.pv (pv_ixN rfl rfl st33 (by omega)) rfl ?_ | refine RR.pv (pv_ixZ rfl rfl st33 (by omega)) rfl ?_
    refine RR.pv (pv_ld rfl ct3 (hr5 i hlt)) rfl ?_
    refine RR.pv (pv_as rfl) rfl ?_
    refine RR.nil ?_
    refine CC.seq ?_
    refine CC.region ?_
    refine RR.pv (pv_mv rfl) rfl ?_
    refine RR.pv (pv_mv rfl) rfl ?_
    refine RR.pv (pv_mv rfl) rfl ?_
    first | refine RR.pv (pv_ixN rfl rfl st33 (by omega)) rfl ?_ | refine RR.pv (pv_ixZ rfl rfl st33 (by omega)) rfl ?_
    refine RR.pv (pv_ld rfl ct3 (hcell)) rfl ?_
    refine RR.pv (pv_mv rfl) rfl ?_
    first | refine RR.pv (pv_ixN rfl rfl st33 (by omega)) rfl ?_ | refine RR.pv (pv_ixZ rfl rfl st33 (by omega)) rfl ?_
    refine RR.st rfl rfl ct3 OneV.i (ho5 _ hpl) (wo5 _ hpl) ?_
    have ho6 := ho5.set hpl i
    have wo6 := wo5.set (ad := ⟨bo, 0 + pos p rank i, none⟩) (v := .int .i64 (i : Int))
    have hc6 := hc5.set_ne (b' := bo) (o' := 0 + pos p rank i) (v := .int .i64 (i : Int)) (fun i hi e => by have := e.1; omega)
    have wc6 := wc5.set (ad := ⟨bo, 0 + pos p rank i, none⟩) (v := .int .i64 (i : Int))
    have hr6 := hr5.set_ne (b' := bo) (o' := 0 + pos p rank i) (v := .int .i64 (i : Int)) (fun i hi e => by have := e.1; omega)
    have hT6 : Touch (fun b o => b = bc ∨ b = bo) w4 (w5.setCell ⟨bo, 0 + pos p rank i, none⟩ (.int .i64 (i : Int))) := hT5.trans (Touch.setCell _ _ _ _) (fun _ _ _ h => h) (fun _ _ _ h => .inr h.1)
    generalize w5.setCell _ _ = w6 at ho6 wo6 hc6 wc6 hr6 hT6 ⊢
    refine RR.nil ?_
    have hcell6 : w6.cell? ⟨bc, 0 + rank i, none⟩ = some (.int .i64 ((Bk p rank (rank i) + Nc i rank (rank i) : Nat) : Int)) := hc6 (rank i) hrp
    refine CC.region ?_
    refine RR.pv (pv_mv rfl) rfl ?_
    refine RR.pv (pv_mv rfl) rfl ?_
    first | refine RR.pv (pv_ixN rfl rfl st33 (by omega)) rfl ?_ | refine RR.pv (pv_ixZ rfl rfl st33 (by omega)) rfl ?_
    refine RR.pv (pv_ld rfl ct3 (hcell6)) rfl ?_
    first | refine RR.pv (pv_addN (n := 1) rfl rfl (by omega)) rfl ?_ | refine RR.pv (pv_add64 rfl rfl (by omega)) rfl ?_
    first | refine RR.pv (pv_ixN rfl rfl st33 (by omega)) rfl ?_ | refine RR.pv (pv_ixZ rfl rfl st33 (by omega)) rfl ?_
    refine RR.st rfl rfl ct3 OneV.i (hc6 (rank i) hrp) (wc6 _ hrp) ?_
    refine RR.nil ?_
    refine CC.region ?_
    refine RR.pv (pv_mv rfl) rfl ?_
    first | refine RR.pv (pv_addN (n := 1) rfl rfl (by omega)) rfl ?_ | refine RR.pv (pv_add64 rfl rfl (by omega)) rfl ?_
    refine RR.pv (pv_as rfl) rfl ?_
    refine RR.nil ?_
    refine Nxt.go (i + 1, upd h (pos p rank i) i) ⟨rfl, rfl, rfl, rfl, rfl, trivial⟩ ⟨hlt, ((hc6.set hrp _).v.congr (fun c _ => place_upd p rank rank i c)).nn, wc6.set, hr6.set_ne (fun i hi e => by have := e.1; omega), ho6.set_ne (fun i hi e => by have := e.1; omega), wo6.set, fun x hx => ?_, hT6.trans (Touch.setCell _ _ _ _) (fun _ _ _ h => h) (fun _ _ _ h => .inl h.1)⟩ (by dsimp only; omega)
    dsimp only at hx ⊢
    by_cases e : x = i
    · subst e; rw [upd_same]
    · rw [upd_ne _ _ (fun e' => e (pos_inj (by omega) hlt e'))]; exact hall x (by omega)
  have hip : i = p := by omega
  rw [hip] at hall
  refine CC.seq ?_
  refine CC.seq ?_
  refine CC.region ?_
  refine RR.pv (pv_mv rfl) rfl ?_
  refine RR.pv (pv_mv rfl) rfl ?_
  first | refine RR.pv (pv_lss_t rfl rfl (by omega)) rfl ?_ | refine RR.pv (pv_lss_f rfl rfl (by omega)) rfl ?_ | refine RR.pv (pv_lss rfl rfl) rfl ?_
  refine RR.nil ?_
  refine CC.cond_f rfl ?_
  refine CC.exit ?_
  refine CC.seq ?_
  refine CC.region ?_
  refine RR.pv (pv_mv rfl) rfl ?_
  refine RR.pv (pv_as rfl) rfl ?_
  refine RR.nil ?_
  refine CC.ret ?_
  have hsz5 := hT5.size
  exact EndQ.r1 Try.results20 rfl ⟨bo, h, rfl, ho5, hall, by omega, by omega, hT4.trans hT5 (fun _ _ _ h => h) (fun b o hb h => by omega)⟩

/-! ### zzc1RotationRanks -/
structure QG (br bn b7 b8 b9 : Nat) : Prop where
  d1 : br ≠ bn
  d2 : br ≠ b7
  d3 : br ≠ b8
  d4 : br ≠ b9
  d5 : bn ≠ b7
  d6 : bn ≠ b8
  d7 : bn ≠ b9
  d8 : b7 ≠ b8
  d9 : b7 ≠ b9
  d10 : b8 ≠ b9
structure QM (br bn b7 b8 b9 n m : Nat) (rank nxt bs rw ct : Nat → Nat) (w : World) : Prop where
  hr : SN .i64 w br 0 n rank
  wr : WR w br 0 n
  hn : SN .i64 w bn 0 n nxt
  wn : WR w bn 0 n
  h7 : SN .i64 w b7 0 n bs
  w7 : WR w b7 0 n
  h8 : SN .i64 w b8 0 n rw
  w8 : WR w b8 0 n
  h9 : SN .i64 w b9 0 m ct
  w9 : WR w b9 0 m
def qS (br bn b7 b8 b9 : Nat) : Nat → Nat → Prop := fun b o => b = br ∨ b = bn ∨ b = b7 ∨ b = b8 ∨ b = b9

section
variable {br bn b7 b8 b9 n m : Nat} {rank nxt bs rw ct : Nat → Nat} {w : World}
theorem QM.setR (h : QM br bn b7 b8 b9 n m rank nxt bs rw ct w) (g : QG br bn b7 b8 b9) {i : Nat} (hi : i < n) (v : Nat) : QM br bn b7 b8 b9 n m (upd rank i v) nxt bs rw ct (w.setCell ⟨br, 0 + i, none⟩ (.int .i64 (v : Int))) :=
  ⟨h.hr.set hi v, h.wr.set, h.hn.set_ne (fun _ _ e => g.d1 e.1.symm), h.wn.set, h.h7.set_ne (fun _ _ e => g.d2 e.1.symm), h.w7.set, h.h8.set_ne (fun _ _ e => g.d3 e.1.symm), h.w8.set, h.h9.set_ne (fun _ _ e => g.d4 e.1.symm), h.w9.set⟩
theorem QM.setN (h : QM br bn b7 b8 b9 n m rank nxt bs rw ct w) (g : QG br bn b7 b8 b9) {i : Nat} (hi : i < n) (v : Nat) : QM br bn b7 b8 b9 n m rank (upd nxt i v) bs rw ct (w.setCell ⟨bn, 0 + i, none⟩ (.int .i64 (v : Int))) :=
  ⟨h.hr.set_ne (fun _ _ e => g.d1 e.1), h.wr.set, h.hn.set hi v, h.wn.set, h.h7.set_ne (fun _ _ e => g.d5 e.1.symm), h.w7.set, h.h8.set_ne (fun _ _ e => g.d6 e.1.symm), h.w8.set, h.h9.set_ne (fun _ _ e => g.d7 e.1.symm), h.w9.set⟩
theorem QM.set7 (h : QM br bn b7 b8 b9 n m rank nxt bs rw ct w) (g : QG br bn b7 b8 b9) {i : Nat} (hi : i < n) (v : Nat) : QM br bn b7 b8 b9 n m rank nxt (upd bs i v) rw ct (w.setCell ⟨b7, 0 + i, none⟩ (.int .i64 (v : Int))) :=
  ⟨h.hr.set_ne (fun _ _ e => g.d2 e.1), h.wr.set, h.hn.set_ne (fun _ _ e => g.d5 e.1), h.wn.set, h.h7.set hi v, h.w7.set, h.h8.set_ne (fun _ _ e => g.d8 e.1.symm), h.w8.set, h.h9.set_ne (fun _ _ e => g.d9 e.1.symm), h.w9.set⟩
theorem QM.set8 (h : QM br bn b7 b8 b9 n m rank nxt bs rw ct w) (g : QG br bn b7 b8 b9) {i : Nat} (hi : i < n) (v : Nat) : QM br bn b7 b8 b9 n m rank nxt bs (upd rw i v) ct (w.setCell ⟨b8, 0 + i, none⟩ (.int .i64 (v : Int))) :=
  ⟨h.hr.set_ne (fun _ _ e => g.d3 e.1), h.wr.set, h.hn.set_ne (fun _ _ e => g.d6 e.1), h.wn.set, h.h7.set_ne (fun _ _ e => g.d8 e.1), h.w7.set, h.h8.set hi v, h.w8.set, h.h9.set_ne (fun _ _ e => g.d10 e.1.symm), h.w9.set⟩
theorem QM.set9 (h : QM br bn b7 b8 b9 n m rank nxt bs rw ct w) (g : QG br bn b7 b8 b9) {i : Nat} (hi : i < m) (v : Nat) : QM br bn b7 b8 b9 n m rank nxt bs rw (upd ct i v) (w.setCell ⟨b9, 0 + i, none⟩ (.int .i64 (v : Int))) :=
  ⟨h.hr.set_ne (fun _ _ e => g.d4 e.1), h.wr.set, h.hn.set_ne (fun _ _ e => g.d7 e.1), h.wn.set, h.h7.set_ne (fun _ _ e => g.d9 e.1), h.w7.set, h.h8.set_ne (fun _ _ e => g.d10 e.1), h.w8.set, h.h9.set hi v, h.w9.set⟩
theorem QM.c9 (h : QM br bn b7 b8 b9 n m rank nxt bs rw ct w) {ct' : Nat → Nat} (e : ∀ v, v < m → ct v = ct' v) : QM br bn b7 b8 b9 n m rank nxt bs rw ct' w :=
  ⟨h.hr, h.wr, h.hn, h.wn, h.h7, h.w7, h.h8, h.w8, (h.h9.v.congr e).nn, h.w9⟩
theorem QM.cR (h : QM br bn b7 b8 b9 n m rank nxt bs rw ct w) {rank' : Nat → Nat} (e : ∀ v, v < n → rank v = rank' v) : QM br bn b7 b8 b9 n m rank' nxt bs rw ct w :=
  ⟨(h.hr.v.congr e).nn, h.wr, h.hn, h.wn, h.h7, h.w7, h.h8, h.w8, h.h9, h.w9⟩
theorem QM.touch9 (h : QM br bn b7 b8 b9 n m rank nxt bs rw ct w) (g : QG br bn b7 b8 b9) (hn : 0 < n) (hm : 0 < m) {ct' : Nat → Nat} {w' : World} (hT : Touch (fun b o => b = b9) w w') (hc : SN .i64 w' b9 0 m ct') : QM br bn b7 b8 b9 n m rank nxt bs rw ct' w' :=
  ⟨h.hr.touch hT (fun _ _ e => g.d4 e), h.wr.touch (fun _ => h.hr.lt hn) hT, h.hn.touch hT (fun _ _ e => g.d7 e), h.wn.touch (fun _ => h.hn.lt hn) hT, h.h7.touch hT (fun _ _ e => g.d9 e), h.w7.touch (fun _ => h.h7.lt hn) hT, h.h8.touch hT (fun _ _ e => g.d10 e), h.w8.touch (fun _ => h.h8.lt hn) hT, hc, h.w9.touch (fun _ => h.h9.lt hm) hT⟩
theorem QM.swap (h : QM br bn b7 b8 b9 n m rank nxt bs rw ct w) : QM bn br b7 b8 b9 n m nxt rank bs rw ct w := ⟨h.hn, h.wn, h.hr, h.wr, h.h7, h.w7, h.h8, h.w8, h.h9, h.w9⟩
theorem QG.swap (g : QG br bn b7 b8 b9) : QG bn br b7 b8 b9 := ⟨g.d1.symm, g.d5, g.d6, g.d7, g.d2, g.d3, g.d4, g.d8, g.d9, g.d10⟩
theorem qS.tr {w1 w2 : World} (h : Touch (fun b _ => w.heap.size ≤ b) w w1) (h' : Touch (fun b _ => w.heap.size ≤ b) w1 w2) : Touch (fun b _ => w.heap.size ≤ b) w w2 := h.trans h' (fun _ _ _ h => h) (fun _ _ _ h => h)
theorem newT {w0 : World} {b o : Nat} {v : Value} (hb : w.heap.size ≤ b) : Touch (fun b _ => w.heap.size ≤ b) w0 (w0.setCell ⟨b, o, none⟩ v) := (Touch.setCell w0 b o v).mono (fun b' o' _ h => by rw [h.1]; exact hb)
end

theorem perm_of {n : Nat} {κ bs : Nat → Nat} (h1 : ∀ p, p < n → bs (pos n κ p) = p) : (∀ i, i < n → bs i < n) ∧ ∀ i j, i < n → j < n → bs i = bs j → i = j := by
  have hb : ∀ i, i < n → bs i < n ∧ pos n κ (bs i) = i := fun i hi => by
    obtain ⟨p, hp, e⟩ := Rk.pos_onto (κ := κ) hi
    have := h1 p hp
    rw [e] at this
    rw [this]
    exact ⟨hp, e⟩
  exact ⟨fun i hi => (hb i hi).1, fun i j hi hj e => by rw [← (hb i hi).2, ← (hb j hj).2, e]⟩

set_option maxHeartbeats 4000000 in
theorem rotationRanks_any (bo n : Nat) (f : Nat → Nat) (w : World) (hn0 : 0 < n) (hn : n ≤ 65536) (hs : SN .u8 w bo 0 n f) (hf : ∀ i, f i < 256) :
    FF 19 #[.slice (some ⟨bo, 0, none⟩) n n] w (fun v w' => ∃ b rank, v = .slice (some ⟨b, 0, none⟩) n n ∧ SN .i64 w' b 0 n rank ∧ RK n n (fun i => f (i % n)) rank ∧ (∀ p, p < n → rank p < top n) ∧ w.heap.size ≤ b ∧ b < w'.heap.size ∧ Touch (fun _ _ => False) w w') := by
  have htl := top_le hn
  have htg := top_ge n
  have hbo : bo < w.heap.size := hs.lt hn0
  have hper := per_mod_fn f n
  refine FF.of_cc (l := [_]) Try.func19 rfl Try.ntmps19 rfl (CC.keep (F := [(0, _)]) ⟨rfl, trivial⟩ ?_)
  refine CC.seq ?_
  refine CC.region ?_
  refine RR.pv (pv_as rfl) rfl ?_
  refine RR.nil ?_
  refine CC.seq ?_
  refine CC.region ?_
  refine RR.pv (pv_mv rfl) rfl ?_
  refine RR.pv (pv_len rfl st22) rfl ?_
  refine RR.pv (pv_as rfl) rfl ?_
  refine RR.nil ?_
  refine CC.seq ?_
  refine CC.region ?_
  refine RR.pv (pv_as rfl) rfl ?_
  refine RR.nil ?_
  refine CC.seqCut (γ := Unit) (fun _ => [(0, .slice (some ⟨bo, 0, none⟩) n n), (3, .int .i64 (n : Int)), (4, .int .i64 ((top n : Nat) : Int))]) (fun _ w' => w' = w) ?_ ?_
  · by_cases h : 256 < n
    · refine CC.seq ?_
      refine CC.region ?_
      refine RR.pv (pv_mv rfl) rfl ?_
      refine RR.pv (pv_mv rfl) rfl ?_
      first | refine RR.pv (pv_gtr_t rfl rfl (by omega)) rfl ?_ | refine RR.pv (pv_gtr_f rfl rfl (by omega)) rfl ?_ | refine RR.pv (pv_gtr rfl rfl) rfl ?_
      refine RR.nil ?_
      refine CC.cond_t rfl ?_
      refine CC.region ?_
      refine RR.pv (pv_mv rfl) rfl ?_
      refine RR.pv (pv_as rfl) rfl ?_
      refine RR.nil ?_
      refine CutQ.go () ⟨rfl, rfl, ?_, trivial⟩ rfl
      unfold top; rw [if_pos h]; rfl
    · refine CC.seq ?_
      refine CC.region ?_
      refine RR.pv (pv_mv rfl) rfl ?_
      refine RR.pv (pv_mv rfl) rfl ?_
      first | refine RR.pv (pv_gtr_t rfl rfl (by omega)) rfl ?_ | refine RR.pv (pv_gtr_f rfl rfl (by omega)) rfl ?_ | refine RR.pv (pv_gtr rfl rfl) rfl ?_
      refine RR.nil ?_
      refine CC.cond_f rfl ?_
      refine CC.skip ?_
      refine CutQ.go () ⟨rfl, rfl, ?_, trivial⟩ rfl
      unfold top; rw [if_neg h]; rfl
  rintro _ w0 rfl
  generalize top n = m at htl htg ⊢
  obtain ⟨B, hB⟩ : ∃ B, w0.heap.size = B := ⟨_, rfl⟩
  refine CC.seq ?_
  refine CC.region ?_
  refine RR.pv (pv_mv rfl) rfl ?_
  refine RR.mk33 rfl (by omega) rfl ?_
  have r1 := SN.new0 .i64 w0 3 n
  have x1 := WR.new w0 (Array.replicate n (.int .i64 0)) 3 0 n
  have s1 := hs.alloc (.cells (Array.replicate n (.int .i64 0)) 3)
  have T1 : Touch (fun b _ => w0.heap.size ≤ b) w0 (w0.alloc (.cells (Array.replicate n (.int .i64 0)) 3)) := Touch.alloc _ _ _
  have z1 : (w0.alloc (.cells (Array.replicate n (.int .i64 0)) 3)).heap.size = B + 1 := by simp [hB]
  generalize w0.alloc (.cells (Array.replicate n (.int .i64 0)) 3) = w1 at r1 x1 s1 T1 z1 ⊢
  refine RR.pv (pv_as rfl) rfl ?_
  refine RR.nil ?_
  refine CC.seq ?_
  refine CC.region ?_
  refine RR.pv (pv_mv rfl) rfl ?_
  refine RR.mk33 rfl (by omega) rfl ?_
  have r2 := SN.new0 .i64 w1 3 n
  have x2 := WR.new w1 (Array.replicate n (.int .i64 0)) 3 0 n
  have s2 := s1.alloc (.cells (Array.replicate n (.int .i64 0)) 3)
  have r12 := r1.alloc (.cells (Array.replicate n (.int .i64 0)) 3)
  have x12 := x1.alloc (fun _ => by omega) (.cells (Array.replicate n (.int .i64 0)) 3)
  have T2 := qS.tr T1 (Touch.alloc _ w1 (.cells (Array.replicate n (.int .i64 0)) 3))
  have z2 : (w1.alloc (.cells (Array.replicate n (.int .i64 0)) 3)).heap.size = B + 2 := by simp [z1]
  generalize w1.alloc (.cells (Array.replicate n (.int .i64 0)) 3) = w2 at r2 x2 s2 r12 x12 T2 z2 ⊢
  refine RR.pv (pv_as rfl) rfl ?_
  refine RR.nil ?_
  refine CC.seq ?_
  refine CC.region ?_
  refine RR.pv (pv_mv rfl) rfl ?_
  refine RR.mk33 rfl (by omega) rfl ?_
  have r3 := SN.new0 .i64 w2 3 n
  have x3 := WR.new w2 (Array.replicate n (.int .i64 0)) 3 0 n
  have s3 := s2.alloc (.cells (Array.replicate n (.int .i64 0)) 3)
  have r13 := r12.alloc (.cells (Array.replicate n (.int .i64 0)) 3)
  have x13 := x12.alloc (fun _ => by omega) (.cells (Array.replicate n (.int .i64 0)) 3)
  have r23 := r2.alloc (.cells (Array.replicate n (.int .i64 0)) 3)
  have x23 := x2.alloc (fun _ => by omega) (.cells (Array.replicate n (.int .i64 0)) 3)
  have T3 := qS.tr T2 (Touch.alloc _ w2 (.cells (Array.replicate n (.int .i64 0)) 3))
  have z3 : (w2.alloc (.cells (Array.replicate n (.int .i64 0)) 3)).heap.size = B + 3 := by simp [z2]
  generalize w2.alloc (.cells (Array.replicate n (.int .i64 0)) 3) = w3 at r3 x3 s3 r13 x13 r23 x23 T3 z3 ⊢
  refine RR.pv (pv_as rfl) rfl ?_
  refine RR.nil ?_
  refine CC.seq ?_
  refine CC.region ?_
  refine RR.pv (pv_mv rfl) rfl ?_
  refine RR.mk33 rfl (by omega) rfl ?_
  have r4 := SN.new0 .i64 w3 3 n
  have x4 := WR.new w3 (Array.replicate n (.int .i64 0)) 3 0 n
  have s4 := s3.alloc (.cells (Array.replicate n (.int .i64 0)) 3)
  have r14 := r13.alloc (.cells (Array.replicate n (.int .i64 0)) 3)
  have x14 := x13.alloc (fun _ => by omega) (.cells (Array.replicate n (.int .i64 0)) 3)
  have r24 := r23.alloc (.cells (Array.replicate n (.int .i64 0)) 3)
  have x24 := x23.alloc (fun _ => by omega) (.cells (Array.replicate n (.int .i64 0)) 3)
  have r34 := r3.alloc (.cells (Array.replicate n (.int .i64 0)) 3)
  have x34 := x3.alloc (fun _ => by omega) (.cells (Array.replicate n (.int .i64 0)) 3)
  have T4 := qS.tr T3 (Touch.alloc _ w3 (.cells (Array.replicate n (.int .i64 0)) 3))
  have z4 : (w3.alloc (.cells (Array.replicate n (.int .i64 0)) 3)).heap.size = B + 4 := by simp [z3]
  generalize w3.alloc (.cells (Array.replicate n (.int .i64 0)) 3) = w4 at r4 x4 s4 r14 x14 r24 x24 r34 x34 T4 z4 ⊢
  refine RR.pv (pv_as rfl) rfl ?_
  refine RR.nil ?_
  refine CC.seq ?_
  refine CC.region ?_
  refine RR.pv (pv_mv rfl) rfl ?_
  refine RR.mk33 rfl (by omega) rfl ?_
  have r5 := SN.new0 .i64 w4 3 m
  have x5 := WR.new w4 (Array.replicate m (.int .i64 0)) 3 0 m
  have s5 := s4.alloc (.cells (Array.replicate m (.int .i64 0)) 3)
  have M0 : QM w0.heap.size w1.heap.size w2.heap.size w3.heap.size w4.heap.size n m (fun _ => 0) (fun _ => 0) (fun _ => 0) (fun _ => 0) (fun _ => 0) (w4.alloc (.cells (Array.replicate m (.int .i64 0)) 3)) :=
    ⟨r14.alloc _, x14.alloc (fun _ => by omega) _, r24.alloc _, x24.alloc (fun _ => by omega) _, r34.alloc _, x34.alloc (fun _ => by omega) _, r4.alloc _, x4.alloc (fun _ => by omega) _, r5, x5⟩
  have T5 := qS.tr T4 (Touch.alloc _ w4 (.cells (Array.replicate m (.int .i64 0)) 3))
  clear r1 x1 s1 T1 r2 x2 s2 r12 x12 T2 r3 x3 s3 r13 x13 r23 x23 T3 r4 x4 s4 r14 x14 r24 x24 r34 x34 T4 r5 x5
  generalize w4.alloc (.cells (Array.replicate m (.int .i64 0)) 3) = w5 at s5 M0 T5 ⊢
  refine RR.pv (pv_as rfl) rfl ?_
  refine RR.nil ?_
  have G0 : QG w0.heap.size w1.heap.size w2.heap.size w3.heap.size w4.heap.size := ⟨by omega, by omega, by omega, by omega, by omega, by omega, by omega, by omega, by omega, by omega⟩
  have e7 : w0.heap.size ≤ w2.heap.size := by omega
  have e8 : w0.heap.size ≤ w3.heap.size := by omega
  have e9 : w0.heap.size ≤ w4.heap.size := by omega
  have en : w0.heap.size ≤ w1.heap.size := by omega
  generalize hb7 : w2.heap.size = b7 at M0 G0 e7 ⊢
  generalize hb8 : w3.heap.size = b8 at M0 G0 e8 ⊢
  generalize hb9 : w4.heap.size = b9 at M0 G0 e9 ⊢
  generalize hbn : w1.heap.size = bn0 at M0 G0 en ⊢
  clear z1 z2 z3 z4 hb7 hb8 hb9 hbn
  -- rank[p] = int(s[p])
  refine CC.seq ?_
  refine CC.seq ?_
  refine CC.region ?_
  refine RR.pv (pv_as rfl) rfl ?_
  refine RR.nil ?_
  refine CC.block ?_
  refine CC.loop (γ := Nat × (Nat → Nat)) (F := fun g => [(0, .slice (some ⟨bo, 0, none⟩) n n), (3, .int .i64 (n : Int)), (4, .int .i64 (m : Int)), (5, .slice (some ⟨w0.heap.size, 0, none⟩) n n), (6, .slice (some ⟨bn0, 0, none⟩) n n), (7, .slice (some ⟨b7, 0, none⟩) n n), (8, .slice (some ⟨b8, 0, none⟩) n n), (9, .slice (some ⟨b9, 0, none⟩) m m), (10, .int .i64 (g.1 : Int))])
    (I := fun g v => g.1 ≤ n ∧ QM w0.heap.size bn0 b7 b8 b9 n m g.2 (fun _ => 0) (fun _ => 0) (fun _ => 0) (fun _ => 0) v ∧ (∀ p, p < g.1 → g.2 p = f p) ∧ SN .u8 v bo 0 n f ∧ Touch (fun b _ => w0.heap.size ≤ b) w0 v) (μ := fun g => n - g.1) (0, fun _ => 0)
    ⟨rfl, rfl, rfl, rfl, rfl, rfl, rfl, rfl, rfl, trivial⟩ ⟨Nat.zero_le _, M0, fun p hp => absurd hp (Nat.not_lt_zero _), s5, T5⟩ ?_
  clear M0 T5 s5
  rintro ⟨p, rk⟩ w6 ⟨hp, M6, hall, s6, T6⟩
  dsimp only at hp M6 hall ⊢
  by_cases hlt : p < n
  · have hfp := hf p
    refine CC.seq ?_
    refine CC.seq ?_
    refine CC.region ?_
    refine RR.pv (pv_mv rfl) rfl ?_
    refine RR.pv (pv_mv rfl) rfl ?_
    first | refine RR.pv (pv_lss_t rfl rfl (by omega)) rfl ?_ | refine RR.pv (pv_lss_f rfl rfl (by omega)) rfl ?_ | refine RR.pv (pv_lss rfl rfl) rfl ?_
    refine RR.nil ?_
    refine CC.cond_t rfl ?_
    refine CC.skip ?_
    refine CC.seq ?_
    refine CC.block ?_
    refine CC.region ?_
    refine RR.pv (pv_mv rfl) rfl ?_
    refine RR.pv (pv_mv rfl) rfl ?_
    refine RR.pv (pv_mv rfl) rfl ?_
    refine RR.pv (pv_mv rfl) rfl ?_
    first | refine RR.pv (pv_ixN rfl rfl st22 (by omega)) rfl ?_ | refine RR.pv (pv_ixZ rfl rfl st22 (by omega)) rfl ?_
    refine RR.pv (pv_ld rfl ct5 (s6 p hlt)) rfl ?_
    refine RR.pv (pv_c5_3 rfl (by omega)) rfl ?_
    first | refine RR.pv (pv_ixN rfl rfl st33 (by omega)) rfl ?_ | refine RR.pv (pv_ixZ rfl rfl st33 (by omega)) rfl ?_
    refine RR.st rfl rfl ct3 OneV.i (M6.hr p hlt) (M6.wr _ hlt) ?_
    refine RR.nil ?_
    refine CC.region ?_
    refine RR.pv (pv_mv rfl) rfl ?_
    first | refine RR.pv (pv_addN (n := 1) rfl rfl (by omega)) rfl ?_ | refine RR.pv (pv_add64 rfl rfl (by omega)) rfl ?_
    refine RR.pv (pv_as rfl) rfl ?_
    refine RR.nil ?_
    refine Nxt.go (p + 1, upd rk p (f p)) ⟨rfl, rfl, rfl, rfl, rfl, rfl, rfl, rfl, rfl, trivial⟩ ⟨hlt, M6.setR G0 hlt _, fun x hx => ?_, s6.set_ne (fun i hi e => by have := e.1; omega), qS.tr T6 (newT (Nat.le_refl _))⟩ (by dsimp only; omega)
    dsimp only at hx ⊢
    by_cases e : x = p
    · subst e; rw [upd_same]
    · rw [upd_ne _ _ e]; exact hall x (by omega)
  have hpn : n = p := by omega
  subst hpn
  refine CC.seq ?_
  refine CC.seq ?_
  refine CC.region ?_
  refine RR.pv (pv_mv rfl) rfl ?_
  refine RR.pv (pv_mv rfl) rfl ?_
  first | refine RR.pv (pv_lss_t rfl rfl (by omega)) rfl ?_ | refine RR.pv (pv_lss_f rfl rfl (by omega)) rfl ?_ | refine RR.pv (pv_lss rfl rfl) rfl ?_
  refine RR.nil ?_
  refine CC.cond_f rfl ?_
  refine CC.exit ?_
  have M7 := M6.cR hall
  have hRK1 : RK n 1 (fun i => f (i % n)) f := Rk.rk_one (fun i hi => by show f (i % n) = f i; rw [Nat.mod_eq_of_lt hi])
  clear M6 hall s6
  -- doubling
  refine CC.seq ?_
  refine CC.seq ?_
  refine CC.region ?_
  refine RR.pv (pv_as rfl) rfl ?_
  refine RR.nil ?_
  refine CC.block ?_
  refine CC.loop (γ := Nat × Nat × Nat × (Nat → Nat)) (F := fun g => [(3, .int .i64 (n : Int)), (4, .int .i64 (m : Int)), (5, .slice (some ⟨g.1, 0, none⟩) n n), (6, .slice (some ⟨g.2.1, 0, none⟩) n n), (7, .slice (some ⟨b7, 0, none⟩) n n), (8, .slice (some ⟨b8, 0, none⟩) n n), (9, .slice (some ⟨b9, 0, none⟩) m m), (11, .int .i64 (g.2.2.1 : Int))])
    (I := fun g v => 1 ≤ g.2.2.1 ∧ w0.heap.size ≤ g.1 ∧ w0.heap.size ≤ g.2.1 ∧ QG g.1 g.2.1 b7 b8 b9 ∧ RK n g.2.2.1 (fun i => f (i % n)) g.2.2.2 ∧ (∀ p, p < n → g.2.2.2 p < m) ∧ (∃ nx c7 c8 c9, QM g.1 g.2.1 b7 b8 b9 n m g.2.2.2 nx c7 c8 c9 v) ∧ Touch (fun b _ => w0.heap.size ≤ b) w0 v) (μ := fun g => n - g.2.2.1) (w0.heap.size, bn0, 1, f)
    ⟨rfl, rfl, rfl, rfl, rfl, rfl, rfl, rfl, trivial⟩ ⟨Nat.le_refl _, Nat.le_refl _, en, G0, hRK1, fun p _ => by have := hf p; dsimp only; omega, ⟨_, _, _, _, M7⟩, T6⟩ ?_
  clear M7 T6 G0 hRK1 en
  rintro ⟨br, bn, s, rank⟩ w7 ⟨hs1, er, en, G, hRK, hrm, ⟨nx, c7, c8, c9, M7⟩, T7⟩
  dsimp only at hs1 er en G hRK hrm M7 ⊢
  by_cases hsn : s < n
  rotate_left
  · refine CC.seq ?_
    refine CC.seq ?_
    refine CC.region ?_
    refine RR.pv (pv_mv rfl) rfl ?_
    refine RR.pv (pv_mv rfl) rfl ?_
    first | refine RR.pv (pv_lss_t rfl rfl (by omega)) rfl ?_ | refine RR.pv (pv_lss_f rfl rfl (by omega)) rfl ?_ | refine RR.pv (pv_lss rfl rfl) rfl ?_
    refine RR.nil ?_
    refine CC.cond_f rfl ?_
    refine CC.exit ?_
    refine CC.seq ?_
    refine CC.region ?_
    refine RR.pv (pv_mv rfl) rfl ?_
    refine RR.pv (pv_as rfl) rfl ?_
    refine RR.nil ?_
    refine CC.ret ?_
    exact EndQ.r1 Try.results19 rfl ⟨br, rank, rfl, M7.hr, Rk.rk_whole hper hn0 (by omega) hRK, hrm, er, M7.hr.lt hn0, T7.mono (fun b o hb h => by omega)⟩
  have hmod : ∀ p, (p + s) % n < n := fun p => Nat.mod_lt _ hn0
  refine CC.seq ?_
  refine CC.seq ?_
  refine CC.region ?_
  refine RR.pv (pv_mv rfl) rfl ?_
  refine RR.pv (pv_mv rfl) rfl ?_
  first | refine RR.pv (pv_lss_t rfl rfl (by omega)) rfl ?_ | refine RR.pv (pv_lss_f rfl rfl (by omega)) rfl ?_ | refine RR.pv (pv_lss rfl rfl) rfl ?_
  refine RR.nil ?_
  refine CC.cond_t rfl ?_
  -- counts of the second halves
  refine CC.skip ?_
  refine CC.seq ?_
  refine CC.block ?_
  refine CC.seq ?_
  refine CC.seq ?_
  refine CC.region ?_
  refine RR.pv (pv_as rfl) rfl ?_
  refine RR.nil ?_
  refine CC.block ?_
  refine CC.loop (γ := Nat × (Nat → Nat)) (F := fun g => [(3, .int .i64 (n : Int)), (4, .int .i64 (m : Int)), (5, .slice (some ⟨br, 0, none⟩) n n), (6, .slice (some ⟨bn, 0, none⟩) n n), (7, .slice (some ⟨b7, 0, none⟩) n n), (8, .slice (some ⟨b8, 0, none⟩) n n), (9, .slice (some ⟨b9, 0, none⟩) m m), (11, .int .i64 (s : Int)), (12, .int .i64 (g.1 : Int))])
    (I := fun g v => g.1 ≤ m ∧ QM br bn b7 b8 b9 n m rank nx c7 c8 g.2 v ∧ (∀ x, x < g.1 → g.2 x = 0) ∧ Touch (fun b _ => w0.heap.size ≤ b) w0 v) (μ := fun g => m - g.1) (0, c9)
    ⟨rfl, rfl, rfl, rfl, rfl, rfl, rfl, rfl, rfl, trivial⟩ ⟨Nat.zero_le _, M7, fun x hx => absurd hx (Nat.not_lt_zero _), T7⟩ ?_
  clear M7 T7
  rintro ⟨v, ct⟩ w8 ⟨hv, M8, hall, T8⟩
  dsimp only at hv M8 hall ⊢
  by_cases hlt : v < m
  · refine CC.seq ?_
    refine CC.seq ?_
    refine CC.region ?_
    refine RR.pv (pv_mv rfl) rfl ?_
    refine RR.pv (pv_mv rfl) rfl ?_
    first | refine RR.pv (pv_lss_t rfl rfl (by omega)) rfl ?_ | refine RR.pv (pv_lss_f rfl rfl (by omega)) rfl ?_ | refine RR.pv (pv_lss rfl rfl) rfl ?_
    refine RR.nil ?_
    refine CC.cond_t rfl ?_
    refine CC.skip ?_
    refine CC.seq ?_
    refine CC.block ?_
    refine CC.region ?_
    refine RR.pv (pv_mv rfl) rfl ?_
    refine RR.pv (pv_mv rfl) rfl ?_
    first | refine RR.pv (pv_ixN rfl rfl st33 (by omega)) rfl ?_ | refine RR.pv (pv_ixZ rfl rfl st33 (by omega)) rfl ?_
    refine RR.st rfl rfl ct3 OneV.i (M8.h9 v hlt) (M8.w9 _ hlt) ?_
    refine RR.nil ?_
    refine CC.region ?_
    refine RR.pv (pv_mv rfl) rfl ?_
    first | refine RR.pv (pv_addN (n := 1) rfl rfl (by omega)) rfl ?_ | refine RR.pv (pv_add64 rfl rfl (by omega)) rfl ?_
    refine RR.pv (pv_as rfl) rfl ?_
    refine RR.nil ?_
    refine Nxt.go (v + 1, upd ct v 0) ⟨rfl, rfl, rfl, rfl, rfl, rfl, rfl, rfl, rfl, trivial⟩ ⟨hlt, M8.set9 G hlt 0, fun x hx => ?_, qS.tr T8 (newT e9)⟩ (by dsimp only; omega)
    dsimp only at hx ⊢
    by_cases e : x = v
    · subst e; rw [upd_same]
    · rw [upd_ne _ _ e]; exact hall x (by omega)
  have hvm : m = v := by omega
  subst hvm
  refine CC.seq ?_
  refine CC.seq ?_
  refine CC.region ?_
  refine RR.pv (pv_mv rfl) rfl ?_
  refine RR.pv (pv_mv rfl) rfl ?_
  first | refine RR.pv (pv_lss_t rfl rfl (by omega)) rfl ?_ | refine RR.pv (pv_lss_f rfl rfl (by omega)) rfl ?_ | refine RR.pv (pv_lss rfl rfl) rfl ?_
  refine RR.nil ?_
  refine CC.cond_f rfl ?_
  refine CC.exit ?_
  have M9 : QM br bn b7 b8 b9 n m rank nx c7 c8 (Nc 0 (fun p => rank ((p + s) % n))) w8 := M8.c9 hall
  clear M8 hall
  refine CC.seq ?_
  refine CC.seq ?_
  refine CC.region ?_
  refine RR.pv (pv_as rfl) rfl ?_
  refine RR.nil ?_
  refine CC.block ?_
  refine CC.loop (γ := Nat) (F := fun p => [(3, .int .i64 (n : Int)), (4, .int .i64 (m : Int)), (5, .slice (some ⟨br, 0, none⟩) n n), (6, .slice (some ⟨bn, 0, none⟩) n n), (7, .slice (some ⟨b7, 0, none⟩) n n), (8, .slice (some ⟨b8, 0, none⟩) n n), (9, .slice (some ⟨b9, 0, none⟩) m m), (11, .int .i64 (s : Int)), (13, .int .i64 (p : Int))])
    (I := fun p v => p ≤ n ∧ QM br bn b7 b8 b9 n m rank nx c7 c8 (Nc p (fun p => rank ((p + s) % n))) v ∧ Touch (fun b _ => w0.heap.size ≤ b) w0 v) (μ := fun p => n - p) 0
    ⟨rfl, rfl, rfl, rfl, rfl, rfl, rfl, rfl, rfl, trivial⟩ ⟨Nat.zero_le _, M9, T8⟩ ?_
  clear M9 T8
  rintro p w9 ⟨hp, M9, T9⟩
  by_cases hlt : p < n
  · have hmp := hmod p
    have hrp := hrm _ (hmod p)
    have hle : Nc p (fun p => rank ((p + s) % n)) (rank ((p + s) % n)) ≤ p := Sa.cnt_le_n _ _
    refine CC.seq ?_
    refine CC.seq ?_
    refine CC.region ?_
    refine RR.pv (pv_mv rfl) rfl ?_
    refine RR.pv (pv_mv rfl) rfl ?_
    first | refine RR.pv (pv_lss_t rfl rfl (by omega)) rfl ?_ | refine RR.pv (pv_lss_f rfl rfl (by omega)) rfl ?_ | refine RR.pv (pv_lss rfl rfl) rfl ?_
    refine RR.nil ?_
    refine CC.cond_t rfl ?_
    refine CC.skip ?_
    refine CC.seq ?_
    refine CC.block ?_
    refine CC.region ?_
    refine RR.pv (pv_mv rfl) rfl ?_
    refine RR.pv (pv_mv rfl) rfl ?_
    refine RR.pv (pv_mv rfl) rfl ?_
    refine RR.pv (pv_mv rfl) rfl ?_
    first | refine RR.pv (pv_addN rfl rfl (by omega)) rfl ?_ | refine RR.pv (pv_add64 rfl rfl (by omega)) rfl ?_
    refine RR.pv (pv_mv rfl) rfl ?_
    refine RR.pv (pv_remN rfl rfl (by omega) (by omega)) rfl ?_
    first | refine RR.pv (pv_ixN rfl rfl st33 (by omega)) rfl ?_ | refine RR.pv (pv_ixZ rfl rfl st33 (by omega)) rfl ?_
    refine RR.pv (pv_ld rfl ct3 (M9.hr _ (hmod p))) rfl ?_
    first | refine RR.pv (pv_ixN rfl rfl st33 (by omega)) rfl ?_ | refine RR.pv (pv_ixZ rfl rfl st33 (by omega)) rfl ?_
    refine RR.pv (pv_ld rfl ct3 (M9.h9 _ hrp)) rfl ?_
    first | refine RR.pv (pv_addN (n := 1) rfl rfl (by omega)) rfl ?_ | refine RR.pv (pv_add64 rfl rfl (by omega)) rfl ?_
    first | refine RR.pv (pv_ixN rfl rfl st33 (by omega)) rfl ?_ | refine RR.pv (pv_ixZ rfl rfl st33 (by omega)) rfl ?_
    refine RR.st rfl rfl ct3 OneV.i (M9.h9 _ hrp) (M9.w9 _ hrp) ?_
    refine RR.nil ?_
    refine CC.region ?_
    refine RR.pv (pv_mv rfl) rfl ?_
    first | refine RR.pv (pv_addN (n := 1) rfl rfl (by omega)) rfl ?_ | refine RR.pv (pv_add64 rfl rfl (by omega)) rfl ?_
    refine RR.pv (pv_as rfl) rfl ?_
    refine RR.nil ?_
    exact Nxt.go (p + 1) ⟨rfl, rfl, rfl, rfl, rfl, rfl, rfl, rfl, rfl, trivial⟩ ⟨hlt, (M9.set9 G hrp _).c9 (fun c _ => nc_upd (fun p => rank ((p + s) % n)) p c), qS.tr T9 (newT e9)⟩ (by omega)
  have hpn : n = p := by omega
  subst hpn
  refine CC.seq ?_
  refine CC.seq ?_
  refine CC.region ?_
  refine RR.pv (pv_mv rfl) rfl ?_
  refine RR.pv (pv_mv rfl) rfl ?_
  first | refine RR.pv (pv_lss_t rfl rfl (by omega)) rfl ?_ | refine RR.pv (pv_lss_f rfl rfl (by omega)) rfl ?_ | refine RR.pv (pv_lss rfl rfl) rfl ?_
  refine RR.nil ?_
  refine CC.cond_f rfl ?_
  refine CC.exit ?_
  refine CC.seq ?_
  refine CC.region ?_
  refine RR.pv (pv_mv rfl) rfl ?_
  refine RR.call Try.func30 nm30 rfl rfl (starts_any b9 n m (fun p => rank ((p + s) % n)) w9 (by omega) (by omega) M9.h9 M9.w9) rfl (fun v10 w10 hp10 => ?_)
  obtain ⟨hc10, hT10⟩ := hp10
  have M10 : QM br bn b7 b8 b9 n m rank nx c7 c8 (fun x => Bk n (fun p => rank ((p + s) % n)) x + Nc 0 (fun p => rank ((p + s) % n)) x) w10 := (M9.touch9 G hn0 (by omega) hT10 hc10).c9 (fun _ _ => rfl)
  have T10 := qS.tr T9 (hT10.mono (fun b o _ h => by rw [h]; exact e9))
  clear M9 T9 hT10 hc10
  refine RR.nil ?_
  -- by the second halves
  refine CC.seq ?_
  refine CC.seq ?_
  refine CC.region ?_
  refine RR.pv (pv_as rfl) rfl ?_
  refine RR.nil ?_
  refine CC.block ?_
  refine CC.loop (γ := Nat × (Nat → Nat)) (F := fun g => [(3, .int .i64 (n : Int)), (4, .int .i64 (m : Int)), (5, .slice (some ⟨br, 0, none⟩) n n), (6, .slice (some ⟨bn, 0, none⟩) n n), (7, .slice (some ⟨b7, 0, none⟩) n n), (8, .slice (some ⟨b8, 0, none⟩) n n), (9, .slice (some ⟨b9, 0, none⟩) m m), (11, .int .i64 (s : Int)), (14, .int .i64 (g.1 : Int))])
    (I := fun g v => g.1 ≤ n ∧ QM br bn b7 b8 b9 n m rank nx g.2 c8 (fun x => Bk n (fun p => rank ((p + s) % n)) x + Nc g.1 (fun p => rank ((p + s) % n)) x) v ∧ (∀ x, x < g.1 → g.2 (pos n (fun p => rank ((p + s) % n)) x) = x) ∧ Touch (fun b _ => w0.heap.size ≤ b) w0 v) (μ := fun g => n - g.1) (0, c7)
    ⟨rfl, rfl, rfl, rfl, rfl, rfl, rfl, rfl, rfl, trivial⟩ ⟨Nat.zero_le _, M10, fun x hx => absurd hx (Nat.not_lt_zero _), T10⟩ ?_
  clear M10 T10
  rintro ⟨p, bs⟩ w11 ⟨hp, M11, hall, T11⟩
  dsimp only at hp M11 hall ⊢
  by_cases hlt : p < n
  · have hmp := hmod p
    have hrp := hrm _ (hmod p)
    have hpl := pos_lt (κ := fun p => rank ((p + s) % n)) hlt
    have hpe := pos_eq (κ := fun p => rank ((p + s) % n)) hlt
    have hcell : w11.cell? ⟨b9, 0 + rank ((p + s) % n), none⟩ = some (.int .i64 ((pos n (fun p => rank ((p + s) % n)) p : Nat) : Int)) := by rw [hpe]; exact M11.h9 _ hrp
    refine CC.seq ?_
    refine CC.seq ?_
    refine CC.region ?_
    refine RR.pv (pv_mv rfl) rfl ?_
    refine RR.pv (pv_mv rfl) rfl ?_
    first | refine RR.pv (pv_lss_t rfl rfl (by omega)) rfl ?_ | refine RR.pv (pv_lss_f rfl rfl (by omega)) rfl ?_ | refine RR.pv (pv_lss rfl rfl) rfl ?_
    refine RR.nil ?_
    refine CC.cond_t rfl ?_
    refine CC.skip ?_
    refine CC.seq ?_
    refine CC.block ?_
    refine CC.seq ?_
    refine CC.region ?_
    refine RR.pv (pv_mv rfl) rfl ?_
    refine RR.pv (pv_mv rfl) rfl ?_
    refine RR.pv (pv_mv rfl) rfl ?_
    first | refine RR.pv (pv_addN rfl rfl (by omega)) rfl ?_ | refine RR.pv (pv_add64 rfl rfl (by omega)) rfl ?_
    refine RR.pv (pv_mv rfl) rfl ?_
    refine RR.pv (pv_remN rfl rfl (by omega) (by omega)) rfl ?_
    first | refine RR.pv (pv_ixN rfl rfl st33 (by omega)) rfl ?_ | refine RR.pv (pv_ixZ rfl rfl st33 (by omega)) rfl ?_
    refine RR.pv (pv_ld rfl ct3 (M11.hr _ (hmod p))) rfl ?_
    refine RR.pv (pv_as rfl) rfl ?_
    refine RR.nil ?_
    refine CC.seq ?_
    refine CC.region ?_
    refine RR.pv (pv_mv rfl) rfl ?_
    refine RR.pv (pv_mv rfl) rfl ?_
    refine RR.pv (pv_mv rfl) rfl ?_
    first | refine RR.pv (pv_ixN rfl rfl st33 (by omega)) rfl ?_ | refine RR.pv (pv_ixZ rfl rfl st33 (by omega)) rfl ?_
    refine RR.pv (pv_ld rfl ct3 (hcell)) rfl ?_
    refine RR.pv (pv_mv rfl) rfl ?_
    first | refine RR.pv (pv_ixN rfl rfl st33 (by omega)) rfl ?_ | refine RR.pv (pv_ixZ rfl rfl st33 (by omega)) rfl ?_
    refine RR.st rfl rfl ct3 OneV.i (M11.h7 _ hpl) (M11.w7 _ hpl) ?_
    have M12 := M11.set7 G hpl p
    have T12 := qS.tr T11 (newT (w0 := w11) (o := 0 + pos n (fun p => rank ((p + s) % n)) p) (v := .int .i64 (p : Int)) e7)
    generalize w11.setCell _ _ = w12 at M12 T12 ⊢
    refine RR.nil ?_
    have hcell6 : w12.cell? ⟨b9, 0 + rank ((p + s) % n), none⟩ = some (.int .i64 ((Bk n (fun p => rank ((p + s) % n)) (rank ((p + s) % n)) + Nc p (fun p => rank ((p + s) % n)) (rank ((p + s) % n)) : Nat) : Int)) := M12.h9 _ hrp
    refine CC.region ?_
    refine RR.pv (pv_mv rfl) rfl ?_
    refine RR.pv (pv_mv rfl) rfl ?_
    first | refine RR.pv (pv_ixN rfl rfl st33 (by omega)) rfl ?_ | refine RR.pv (pv_ixZ rfl rfl st33 (by omega)) rfl ?_
    refine RR.pv (pv_ld rfl ct3 (hcell6)) rfl ?_
    first | refine RR.pv (pv_addN (n := 1) rfl rfl (by omega)) rfl ?_ | refine RR.pv (pv_add64 rfl rfl (by omega)) rfl ?_
    first | refine RR.pv (pv_ixN rfl rfl st33 (by omega)) rfl ?_ | refine RR.pv (pv_ixZ rfl rfl st33 (by omega)) rfl ?_
    refine RR.st rfl rfl ct3 OneV.i (M12.h9 _ hrp) (M12.w9 _ hrp) ?_
    refine RR.nil ?_
    refine CC.region ?_
    refine RR.pv (pv_mv rfl) rfl ?_
    first | refine RR.pv (pv_addN (n := 1) rfl rfl (by omega)) rfl ?_ | refine RR.pv (pv_add64 rfl rfl (by omega)) rfl ?_
    refine RR.pv (pv_as rfl) rfl ?_
    refine RR.nil ?_
    refine Nxt.go (p + 1, upd bs (pos n (fun p => rank ((p + s) % n)) p) p) ⟨rfl, rfl, rfl, rfl, rfl, rfl, rfl, rfl, rfl, trivial⟩ ⟨hlt, (M12.set9 G hrp _).c9 (fun c _ => place_upd n (fun p => rank ((p + s) % n)) (fun p => rank ((p + s) % n)) p c), fun x hx => ?_, qS.tr T12 (newT e9)⟩ (by dsimp only; omega)
    dsimp only at hx ⊢
    by_cases e : x = p
    · subst e; rw [upd_same]
    · rw [upd_ne _ _ (fun e' => e (pos_inj (by omega) hlt e'))]; exact hall x (by omega)
  have hpn : n = p := by omega
  subst hpn
  refine CC.seq ?_
  refine CC.seq ?_
  refine CC.region ?_
  refine RR.pv (pv_mv rfl) rfl ?_
  refine RR.pv (pv_mv rfl) rfl ?_
  first | refine RR.pv (pv_lss_t rfl rfl (by omega)) rfl ?_ | refine RR.pv (pv_lss_f rfl rfl (by omega)) rfl ?_ | refine RR.pv (pv_lss rfl rfl) rfl ?_
  refine RR.nil ?_
  refine CC.cond_f rfl ?_
  refine CC.exit ?_
  obtain ⟨hbl, hbi⟩ := perm_of hall
  -- counts of the first halves
  refine CC.seq ?_
  refine CC.seq ?_
  refine CC.region ?_
  refine RR.pv (pv_as rfl) rfl ?_
  refine RR.nil ?_
  refine CC.block ?_
  refine CC.loop (γ := Nat × (Nat → Nat)) (F := fun g => [(3, .int .i64 (n : Int)), (4, .int .i64 (m : Int)), (5, .slice (some ⟨br, 0, none⟩) n n), (6, .slice (some ⟨bn, 0, none⟩) n n), (7, .slice (some ⟨b7, 0, none⟩) n n), (8, .slice (some ⟨b8, 0, none⟩) n n), (9, .slice (some ⟨b9, 0, none⟩) m m), (11, .int .i64 (s : Int)), (16, .int .i64 (g.1 : Int))])
    (I := fun g v => g.1 ≤ m ∧ QM br bn b7 b8 b9 n m rank nx bs c8 g.2 v ∧ (∀ x, x < g.1 → g.2 x = 0) ∧ Touch (fun b _ => w0.heap.size ≤ b) w0 v) (μ := fun g => m - g.1) (0, _)
    ⟨rfl, rfl, rfl, rfl, rfl, rfl, rfl, rfl, rfl, trivial⟩ ⟨Nat.zero_le _, M11, fun x hx => absurd hx (Nat.not_lt_zero _), T11⟩ ?_
  clear M11 T11
  rintro ⟨v, ct⟩ w13 ⟨hv, M13, hz, T13⟩
  dsimp only at hv M13 hz ⊢
  by_cases hlt : v < m
  · refine CC.seq ?_
    refine CC.seq ?_
    refine CC.region ?_
    refine RR.pv (pv_mv rfl) rfl ?_
    refine RR.pv (pv_mv rfl) rfl ?_
    first | refine RR.pv (pv_lss_t rfl rfl (by omega)) rfl ?_ | refine RR.pv (pv_lss_f rfl rfl (by omega)) rfl ?_ | refine RR.pv (pv_lss rfl rfl) rfl ?_
    refine RR.nil ?_
    refine CC.cond_t rfl ?_
    refine CC.skip ?_
    refine CC.seq ?_
    refine CC.block ?_
    refine CC.region ?_
    refine RR.pv (pv_mv rfl) rfl ?_
    refine RR.pv (pv_mv rfl) rfl ?_
    first | refine RR.pv (pv_ixN rfl rfl st33 (by omega)) rfl ?_ | refine RR.pv (pv_ixZ rfl rfl st33 (by omega)) rfl ?_
    refine RR.st rfl rfl ct3 OneV.i (M13.h9 v hlt) (M13.w9 _ hlt) ?_
    refine RR.nil ?_
    refine CC.region ?_
    refine RR.pv (pv_mv rfl) rfl ?_
    first | refine RR.pv (pv_addN (n := 1) rfl rfl (by omega)) rfl ?_ | refine RR.pv (pv_add64 rfl rfl (by omega)) rfl ?_
    refine RR.pv (pv_as rfl) rfl ?_
    refine RR.nil ?_
    refine Nxt.go (v + 1, upd ct v 0) ⟨rfl, rfl, rfl, rfl, rfl, rfl, rfl, rfl, rfl, trivial⟩ ⟨hlt, M13.set9 G hlt 0, fun x hx => ?_, qS.tr T13 (newT e9)⟩ (by dsimp only; omega)
    dsimp only at hx ⊢
    by_cases e : x = v
    · subst e; rw [upd_same]
    · rw [upd_ne _ _ e]; exact hz x (by omega)
  have hvm : m = v := by omega
  subst hvm
  refine CC.seq ?_
  refine CC.seq ?_
  refine CC.region ?_
  refine RR.pv (pv_mv rfl) rfl ?_
  refine RR.pv (pv_mv rfl) rfl ?_
  first | refine RR.pv (pv_lss_t rfl rfl (by omega)) rfl ?_ | refine RR.pv (pv_lss_f rfl rfl (by omega)) rfl ?_ | refine RR.pv (pv_lss rfl rfl) rfl ?_
  refine RR.nil ?_
  refine CC.cond_f rfl ?_
  refine CC.exit ?_
  have M14 : QM br bn b7 b8 b9 n m rank nx bs c8 (Nc 0 rank) w13 := M13.c9 hz
  clear M13 hz
  refine CC.seq ?_
  refine CC.seq ?_
  refine CC.region ?_
  refine RR.pv (pv_as rfl) rfl ?_
  refine RR.nil ?_
  refine CC.block ?_
  refine CC.loop (γ := Nat) (F := fun p => [(3, .int .i64 (n : Int)), (4, .int .i64 (m : Int)), (5, .slice (some ⟨br, 0, none⟩) n n), (6, .slice (some ⟨bn, 0, none⟩) n n), (7, .slice (some ⟨b7, 0, none⟩) n n), (8, .slice (some ⟨b8, 0, none⟩) n n), (9, .slice (some ⟨b9, 0, none⟩) m m), (11, .int .i64 (s : Int)), (17, .int .i64 (p : Int))])
    (I := fun p v => p ≤ n ∧ QM br bn b7 b8 b9 n m rank nx bs c8 (Nc p rank) v ∧ Touch (fun b _ => w0.heap.size ≤ b) w0 v) (μ := fun p => n - p) 0
    ⟨rfl, rfl, rfl, rfl, rfl, rfl, rfl, rfl, rfl, trivial⟩ ⟨Nat.zero_le _, M14, T13⟩ ?_
  clear M14 T13
  rintro p w14 ⟨hp, M14, T14⟩
  by_cases hlt : p < n
  · have hrp := hrm p hlt
    have hle : Nc p rank (rank p) ≤ p := Sa.cnt_le_n _ _
    refine CC.seq ?_
    refine CC.seq ?_
    refine CC.region ?_
    refine RR.pv (pv_mv rfl) rfl ?_
    refine RR.pv (pv_mv rfl) rfl ?_
    first | refine RR.pv (pv_lss_t rfl rfl (by omega)) rfl ?_ | refine RR.pv (pv_lss_f rfl rfl (by omega)) rfl ?_ | refine RR.pv (pv_lss rfl rfl) rfl ?_
    refine RR.nil ?_
    refine CC.cond_t rfl ?_
    refine CC.skip ?_
    refine CC.seq ?_
    refine CC.block ?_
    refine CC.region ?_
    refine RR.pv (pv_mv rfl) rfl ?_
    refine RR.pv (pv_mv rfl) rfl ?_
    refine RR.pv (pv_mv rfl) rfl ?_
    first | refine RR.pv (pv_ixN rfl rfl st33 (by omega)) rfl ?_ | refine RR.pv (pv_ixZ rfl rfl st33 (by omega)) rfl ?_
    refine RR.pv (pv_ld rfl ct3 (M14.hr p hlt)) rfl ?_
    first | refine RR.pv (pv_ixN rfl rfl st33 (by omega)) rfl ?_ | refine RR.pv (pv_ixZ rfl rfl st33 (by omega)) rfl ?_
    refine RR.pv (pv_ld rfl ct3 (M14.h9 _ hrp)) rfl ?_
    first | refine RR.pv (pv_addN (n := 1) rfl rfl (by omega)) rfl ?_ | refine RR.pv (pv_add64 rfl rfl (by omega)) rfl ?_
    first | refine RR.pv (pv_ixN rfl rfl st33 (by omega)) rfl ?_ | refine RR.pv (pv_ixZ rfl rfl st33 (by omega)) rfl ?_
    refine RR.st rfl rfl ct3 OneV.i (M14.h9 _ hrp) (M14.w9 _ hrp) ?_
    refine RR.nil ?_
    refine CC.region ?_
    refine RR.pv (pv_mv rfl) rfl ?_
    first | refine RR.pv (pv_addN (n := 1) rfl rfl (by omega)) rfl ?_ | refine RR.pv (pv_add64 rfl rfl (by omega)) rfl ?_
    refine RR.pv (pv_as rfl) rfl ?_
    refine RR.nil ?_
    exact Nxt.go (p + 1) ⟨rfl, rfl, rfl, rfl, rfl, rfl, rfl, rfl, rfl, trivial⟩ ⟨hlt, (M14.set9 G hrp _).c9 (fun c _ => nc_upd rank p c), qS.tr T14 (newT e9)⟩ (by omega)
  have hpn : n = p := by omega
  subst hpn
  refine CC.seq ?_
  refine CC.seq ?_
  refine CC.region ?_
  refine RR.pv (pv_mv rfl) rfl ?_
  refine RR.pv (pv_mv rfl) rfl ?_
  first | refine RR.pv (pv_lss_t rfl rfl (by omega)) rfl ?_ | refine RR.pv (pv_lss_f rfl rfl (by omega)) rfl ?_ | refine RR.pv (pv_lss rfl rfl) rfl ?_
  refine RR.nil ?_
  refine CC.cond_f rfl ?_
  refine CC.exit ?_
  refine CC.seq ?_
  refine CC.region ?_
  refine RR.pv (pv_mv rfl) rfl ?_
  refine RR.call Try.func30 nm30 rfl rfl (starts_any b9 n m rank w14 (by omega) (by omega) M14.h9 M14.w9) rfl (fun v15 w15 hp15 => ?_)
  obtain ⟨hc15, hT15⟩ := hp15
  have M15 : QM br bn b7 b8 b9 n m rank nx bs c8 (fun x => Bk n rank x + Nc 0 (fun i => rank (bs i)) x) w15 := (M14.touch9 G hn0 (by omega) hT15 hc15).c9 (fun _ _ => rfl)
  have T15 := qS.tr T14 (hT15.mono (fun b o _ h => by rw [h]; exact e9))
  clear M14 T14 hT15 hc15
  refine RR.nil ?_
  -- by the first halves
  refine CC.seq ?_
  refine CC.seq ?_
  refine CC.region ?_
  refine RR.pv (pv_as rfl) rfl ?_
  refine RR.nil ?_
  refine CC.block ?_
  refine CC.loop (γ := Nat × (Nat → Nat)) (F := fun g => [(3, .int .i64 (n : Int)), (4, .int .i64 (m : Int)), (5, .slice (some ⟨br, 0, none⟩) n n), (6, .slice (some ⟨bn, 0, none⟩) n n), (7, .slice (some ⟨b7, 0, none⟩) n n), (8, .slice (some ⟨b8, 0, none⟩) n n), (9, .slice (some ⟨b9, 0, none⟩) m m), (11, .int .i64 (s : Int)), (18, .int .i64 (g.1 : Int))])
    (I := fun g v => g.1 ≤ n ∧ QM br bn b7 b8 b9 n m rank nx bs g.2 (fun x => Bk n rank x + Nc g.1 (fun i => rank (bs i)) x) v ∧ (∀ x, x < g.1 → g.2 (pos n (fun i => rank (bs i)) x) = bs x) ∧ Touch (fun b _ => w0.heap.size ≤ b) w0 v) (μ := fun g => n - g.1) (0, c8)
    ⟨rfl, rfl, rfl, rfl, rfl, rfl, rfl, rfl, rfl, trivial⟩ ⟨Nat.zero_le _, M15, fun x hx => absurd hx (Nat.not_lt_zero _), T15⟩ ?_
  clear M15 T15
  rintro ⟨i, rw'⟩ w16 ⟨hi, M16, hall2, T16⟩
  dsimp only at hi M16 hall2 ⊢
  by_cases hlt : i < n
  · have hbs := hbl i hlt
    have hrp := hrm _ hbs
    have hpl := pos_lt (κ := fun i => rank (bs i)) hlt
    have hpe := Rk.place_eq (κ := fun i => rank (bs i)) (key := rank) (fun v => Rk.bk_map hbl hbi v) hlt
    have hcell : w16.cell? ⟨b9, 0 + rank (bs i), none⟩ = some (.int .i64 ((pos n (fun i => rank (bs i)) i : Nat) : Int)) := by rw [← hpe]; exact M16.h9 _ hrp
    refine CC.seq ?_
    refine CC.seq ?_
    refine CC.region ?_
    refine RR.pv (pv_mv rfl) rfl ?_
    refine RR.pv (pv_mv rfl) rfl ?_
    first | refine RR.pv (pv_lss_t rfl rfl (by omega)) rfl ?_ | refine RR.pv (pv_lss_f rfl rfl (by omega)) rfl ?_ | refine RR.pv (pv_lss rfl rfl) rfl ?_
    refine RR.nil ?_
    refine CC.cond_t rfl ?_
    refine CC.skip ?_
    refine CC.seq ?_
    refine CC.block ?_
    refine CC.seq ?_
    refine CC.region ?_
    refine RR.pv (pv_mv rfl) rfl ?_
    refine RR.pv (pv_mv rfl) rfl ?_
    first | refine RR.pv (pv_ixN rfl rfl st33 (by omega)) rfl ?_ | refine RR.pv (pv_ixZ rfl rfl st33 (by omega)) rfl ?_
    refine RR.pv (pv_ld rfl ct3 (M16.h7 i hlt)) rfl ?_
    refine RR.pv (pv_as rfl) rfl ?_
    refine RR.nil ?_
    refine CC.seq ?_
    refine CC.region ?_
    refine RR.pv (pv_mv rfl) rfl ?_
    refine RR.pv (pv_mv rfl) rfl ?_
    first | refine RR.pv (pv_ixN rfl rfl st33 (by omega)) rfl ?_ | refine RR.pv (pv_ixZ rfl rfl st33 (by omega)) rfl ?_
    refine RR.pv (pv_ld rfl ct3 (M16.hr _ hbs)) rfl ?_
    refine RR.pv (pv_as rfl) rfl ?_
    refine RR.nil ?_
    refine CC.seq ?_
    refine CC.region ?_
    refine RR.pv (pv_mv rfl) rfl ?_
    refine RR.pv (pv_mv rfl) rfl ?_
    refine RR.pv (pv_mv rfl) rfl ?_
    first | refine RR.pv (pv_ixN rfl rfl st33 (by omega)) rfl ?_ | refine RR.pv (pv_ixZ rfl rfl st33 (by omega)) rfl ?_
    refine RR.pv (pv_ld rfl ct3 (hcell)) rfl ?_
    refine RR.pv (pv_mv rfl) rfl ?_
    first | refine RR.pv (pv_ixN rfl rfl st33 (by omega)) rfl ?_ | refine RR.pv (pv_ixZ rfl rfl st33 (by omega)) rfl ?_
    refine RR.st rfl rfl ct3 OneV.i (M16.h8 _ hpl) (M16.w8 _ hpl) ?_
    have M17 := M16.set8 G hpl (bs i)
    have T17 := qS.tr T16 (newT (w0 := w16) (o := 0 + pos n (fun i => rank (bs i)) i) (v := .int .i64 ((bs i : Nat) : Int)) e8)
    generalize w16.setCell _ _ = w17 at M17 T17 ⊢
    refine RR.nil ?_
    have hcell6 : w17.cell? ⟨b9, 0 + rank (bs i), none⟩ = some (.int .i64 ((Bk n rank (rank (bs i)) + Nc i (fun i => rank (bs i)) (rank (bs i)) : Nat) : Int)) := M17.h9 _ hrp
    refine CC.region ?_
    refine RR.pv (pv_mv rfl) rfl ?_
    refine RR.pv (pv_mv rfl) rfl ?_
    first | refine RR.pv (pv_ixN rfl rfl st33 (by omega)) rfl ?_ | refine RR.pv (pv_ixZ rfl rfl st33 (by omega)) rfl ?_
    refine RR.pv (pv_ld rfl ct3 (hcell6)) rfl ?_
    first | refine RR.pv (pv_addN (n := 1) rfl rfl (by omega)) rfl ?_ | refine RR.pv (pv_add64 rfl rfl (by omega)) rfl ?_
    first | refine RR.pv (pv_ixN rfl rfl st33 (by omega)) rfl ?_ | refine RR.pv (pv_ixZ rfl rfl st33 (by omega)) rfl ?_
    refine RR.st rfl rfl ct3 OneV.i (M17.h9 _ hrp) (M17.w9 _ hrp) ?_
    refine RR.nil ?_
    refine CC.region ?_
    refine RR.pv (pv_mv rfl) rfl ?_
    first | refine RR.pv (pv_addN (n := 1) rfl rfl (by omega)) rfl ?_ | refine RR.pv (pv_add64 rfl rfl (by omega)) rfl ?_
    refine RR.pv (pv_as rfl) rfl ?_
    refine RR.nil ?_
    refine Nxt.go (i + 1, upd rw' (pos n (fun i => rank (bs i)) i) (bs i)) ⟨rfl, rfl, rfl, rfl, rfl, rfl, rfl, rfl, rfl, trivial⟩ ⟨hlt, (M17.set9 G hrp _).c9 (fun c _ => place_upd n rank (fun i => rank (bs i)) i c), fun x hx => ?_, qS.tr T17 (newT e9)⟩ (by dsimp only; omega)
    dsimp only at hx ⊢
    by_cases e : x = i
    · subst e; rw [upd_same]
    · rw [upd_ne _ _ (fun e' => e (pos_inj (by omega) hlt e'))]; exact hall2 x (by omega)
  have hin : n = i := by omega
  subst hin
  refine CC.seq ?_
  refine CC.seq ?_
  refine CC.region ?_
  refine RR.pv (pv_mv rfl) rfl ?_
  refine RR.pv (pv_mv rfl) rfl ?_
  first | refine RR.pv (pv_lss_t rfl rfl (by omega)) rfl ?_ | refine RR.pv (pv_lss_f rfl rfl (by omega)) rfl ?_ | refine RR.pv (pv_lss rfl rfl) rfl ?_
  refine RR.nil ?_
  refine CC.cond_f rfl ?_
  refine CC.exit ?_
  obtain ⟨_, hS⟩ := Rk.srt_of (g := fun i => f (i % n)) hall hall2
  obtain ⟨nr, hNR, hnr⟩ := Rk.nr_ex n s rank rw'
  clear hall hall2
  -- the new ranks
  have h0n := hS.lt 0 hn0
  refine CC.seq ?_
  refine CC.region ?_
  refine RR.pv (pv_mv rfl) rfl ?_
  refine RR.pv (pv_mv rfl) rfl ?_
  first | refine RR.pv (pv_ixN (i := 0) rfl rfl st33 (by omega)) rfl ?_ | refine RR.pv (pv_ixZ rfl rfl st33 (by omega)) rfl ?_
  refine RR.pv (pv_ld rfl ct3 (M16.h8 0 hn0)) rfl ?_
  first | refine RR.pv (pv_ixN rfl rfl st33 (by omega)) rfl ?_ | refine RR.pv (pv_ixZ rfl rfl st33 (by omega)) rfl ?_
  refine RR.st rfl rfl ct3 OneV.i (M16.hn _ h0n) (M16.wn _ h0n) ?_
  have M18 := M16.setN G h0n 0
  have T18 := qS.tr T16 (newT (w0 := w16) (o := 0 + rw' 0) (v := .int .i64 0) en)
  have hN18 : ∀ j, j < 1 → upd nx (rw' 0) 0 (rw' j) = nr j := fun j hj => by rw [show j = 0 from by omega, upd_same, hNR.zero]
  generalize w16.setCell _ _ = w18 at M18 T18 ⊢
  refine RR.nil ?_
  clear M16 T16
  refine CC.seq ?_
  refine CC.seq ?_
  refine CC.region ?_
  refine RR.pv (pv_as rfl) rfl ?_
  refine RR.nil ?_
  refine CC.block ?_
  refine CC.loop (γ := Nat × (Nat → Nat)) (F := fun g => [(3, .int .i64 (n : Int)), (4, .int .i64 (m : Int)), (5, .slice (some ⟨br, 0, none⟩) n n), (6, .slice (some ⟨bn, 0, none⟩) n n), (7, .slice (some ⟨b7, 0, none⟩) n n), (8, .slice (some ⟨b8, 0, none⟩) n n), (9, .slice (some ⟨b9, 0, none⟩) m m), (11, .int .i64 (s : Int)), (21, .int .i64 (g.1 : Int))])
    (I := fun g v => 1 ≤ g.1 ∧ g.1 ≤ n ∧ (∃ c9', QM br bn b7 b8 b9 n m rank g.2 bs rw' c9' v) ∧ (∀ j, j < g.1 → g.2 (rw' j) = nr j) ∧ Touch (fun b _ => w0.heap.size ≤ b) w0 v) (μ := fun g => n - g.1) (1, upd nx (rw' 0) 0)
    ⟨rfl, rfl, rfl, rfl, rfl, rfl, rfl, rfl, rfl, trivial⟩ ⟨Nat.le_refl _, by dsimp only; omega, ⟨_, M18⟩, hN18, T18⟩ ?_
  clear M18 T18 hN18
  rintro ⟨i, nx'⟩ w19 ⟨hi1, hi, ⟨c9', M19⟩, hall, T19⟩
  dsimp only at hi1 hi M19 hall ⊢
  by_cases hlt : i < n
  · obtain ⟨j, rfl⟩ : ∃ j, i = j + 1 := ⟨i - 1, by omega⟩
    have ha := hS.lt j (by omega)
    have hb := hS.lt (j + 1) hlt
    have hnj := hnr j
    have hm1 := hmod (rw' j)
    have hm2 := hmod (rw' (j + 1))
    have hca : w19.cell? ⟨bn, 0 + rw' j, none⟩ = some (.int .i64 ((nr j : Nat) : Int)) := by rw [← hall j (by omega)]; exact M19.hn _ ha
    have hfin : ∀ v, v = nr (j + 1) → ∀ x, x < j + 1 + 1 → upd nx' (rw' (j + 1)) v (rw' x) = nr x := fun v hv x hx => by
      by_cases e : x = j + 1
      · subst e; rw [upd_same, hv]
      · rw [upd_ne _ _ (fun e' => e (hS.inj x (j + 1) (by omega) hlt e'))]; exact hall x (by omega)
    refine CC.seq ?_
    refine CC.seq ?_
    refine CC.region ?_
    refine RR.pv (pv_mv rfl) rfl ?_
    refine RR.pv (pv_mv rfl) rfl ?_
    first | refine RR.pv (pv_lss_t rfl rfl (by omega)) rfl ?_ | refine RR.pv (pv_lss_f rfl rfl (by omega)) rfl ?_ | refine RR.pv (pv_lss rfl rfl) rfl ?_
    refine RR.nil ?_
    refine CC.cond_t rfl ?_
    refine CC.skip ?_
    refine CC.seq ?_
    refine CC.block ?_
    refine CC.seq ?_
    refine CC.region ?_
    refine RR.pv (pv_mv rfl) rfl ?_
    refine RR.pv (pv_mv rfl) rfl ?_
    first | refine RR.pv (pv_subN (n := 1) rfl rfl (by omega)) rfl ?_ | refine RR.pv (pv_sub64 rfl rfl (by omega)) rfl ?_
    rw [show j + 1 - 1 = j from by omega]
    first | refine RR.pv (pv_ixN rfl rfl st33 (by omega)) rfl ?_ | refine RR.pv (pv_ixZ rfl rfl st33 (by omega)) rfl ?_
    refine RR.pv (pv_ld rfl ct3 (M19.h8 j (by omega))) rfl ?_
    refine RR.pv (pv_as rfl) rfl ?_
    refine RR.nil ?_
    refine CC.seq ?_
    refine CC.region ?_
    refine RR.pv (pv_mv rfl) rfl ?_
    refine RR.pv (pv_mv rfl) rfl ?_
    first | refine RR.pv (pv_ixN rfl rfl st33 (by omega)) rfl ?_ | refine RR.pv (pv_ixZ rfl rfl st33 (by omega)) rfl ?_
    refine RR.pv (pv_ld rfl ct3 (M19.h8 (j + 1) hlt)) rfl ?_
    refine RR.pv (pv_as rfl) rfl ?_
    refine RR.nil ?_
    by_cases hsm : rank (rw' j) = rank (rw' (j + 1)) ∧ rank ((rw' j + s) % n) = rank ((rw' (j + 1) + s) % n)
    · obtain ⟨q1, q2⟩ := hsm
      have hstep := hNR.same j hlt q1 q2
      refine CC.seq ?_
      refine CC.regionQ (by decide +kernel) ?_
      refine RR.pv (pv_mv rfl) rfl ?_
      refine RR.pv (pv_mv rfl) rfl ?_
      first | refine RR.pv (pv_ixN rfl rfl st33 (by omega)) rfl ?_ | refine RR.pv (pv_ixZ rfl rfl st33 (by omega)) rfl ?_
      refine RR.pv (pv_ld rfl ct3 (M19.hr _ ha)) rfl ?_
      refine RR.pv (pv_mv rfl) rfl ?_
      refine RR.pv (pv_mv rfl) rfl ?_
      first | refine RR.pv (pv_ixN rfl rfl st33 (by omega)) rfl ?_ | refine RR.pv (pv_ixZ rfl rfl st33 (by omega)) rfl ?_
      refine RR.pv (pv_ld rfl ct3 (M19.hr _ hb)) rfl ?_
      first | refine RR.pv (pv_eql_t rfl rfl (by omega)) rfl ?_ | refine RR.pv (pv_eql_f rfl rfl (by omega)) rfl ?_ | refine RR.pv (pv_eql rfl rfl) rfl ?_
      refine RR.pv (pv_mv rfl) rfl ?_
      first | refine RR.gy rfl rfl (pv_mv rfl) rfl ?_ | refine RR.gn rfl rfl rfl rfl ?_
      first | refine RR.gy rfl rfl (pv_mv rfl) rfl ?_ | refine RR.gn rfl rfl rfl rfl ?_
      first | refine RR.gy rfl rfl (pv_mv rfl) rfl ?_ | refine RR.gn rfl rfl rfl rfl ?_
      first | refine RR.gy rfl rfl (pv_addN rfl rfl (by omega)) rfl ?_ | refine RR.gy rfl rfl (pv_add64 rfl rfl (by omega)) rfl ?_ | refine RR.gn rfl rfl rfl rfl ?_
      first | refine RR.gy rfl rfl (pv_mv rfl) rfl ?_ | refine RR.gn rfl rfl rfl rfl ?_
      first | refine RR.gy rfl rfl (pv_remN rfl rfl (by omega) (by omega)) rfl ?_ | refine RR.gn rfl rfl rfl rfl ?_
      first | refine RR.gy rfl rfl (pv_ixN rfl rfl st33 (by omega)) rfl ?_ | refine RR.gy rfl rfl (pv_ixZ rfl rfl st33 (by omega)) rfl ?_ | refine RR.gn rfl rfl rfl rfl ?_
      first | refine RR.gy rfl rfl (pv_ld rfl ct3 (M19.hr _ (hmod (rw' j)))) rfl ?_ | refine RR.gn rfl rfl rfl rfl ?_
      first | refine RR.gy rfl rfl (pv_mv rfl) rfl ?_ | refine RR.gn rfl rfl rfl rfl ?_
      first | refine RR.gy rfl rfl (pv_mv rfl) rfl ?_ | refine RR.gn rfl rfl rfl rfl ?_
      first | refine RR.gy rfl rfl (pv_mv rfl) rfl ?_ | refine RR.gn rfl rfl rfl rfl ?_
      first | refine RR.gy rfl rfl (pv_addN rfl rfl (by omega)) rfl ?_ | refine RR.gy rfl rfl (pv_add64 rfl rfl (by omega)) rfl ?_ | refine RR.gn rfl rfl rfl rfl ?_
      first | refine RR.gy rfl rfl (pv_mv rfl) rfl ?_ | refine RR.gn rfl rfl rfl rfl ?_
      first | refine RR.gy rfl rfl (pv_remN rfl rfl (by omega) (by omega)) rfl ?_ | refine RR.gn rfl rfl rfl rfl ?_
      first | refine RR.gy rfl rfl (pv_ixN rfl rfl st33 (by omega)) rfl ?_ | refine RR.gy rfl rfl (pv_ixZ rfl rfl st33 (by omega)) rfl ?_ | refine RR.gn rfl rfl rfl rfl ?_
      first | refine RR.gy rfl rfl (pv_ld rfl ct3 (M19.hr _ (hmod (rw' (j + 1))))) rfl ?_ | refine RR.gn rfl rfl rfl rfl ?_
      first | refine RR.gy rfl rfl (pv_eql_t rfl rfl (by omega)) rfl ?_ | refine RR.gy rfl rfl (pv_eql_f rfl rfl (by omega)) rfl ?_ | refine RR.gy rfl rfl (pv_eql rfl rfl) rfl ?_ | refine RR.gn rfl rfl rfl rfl ?_
      first | refine RR.pv (pv_pick_t rfl rfl) rfl ?_ | refine RR.pv (pv_pick_f rfl rfl) rfl ?_
      refine RR.nil ?_
      refine CC.cond_t rfl ?_
      refine CC.region ?_
      refine RR.pv (pv_mv rfl) rfl ?_
      refine RR.pv (pv_mv rfl) rfl ?_
      refine RR.pv (pv_mv rfl) rfl ?_
      refine RR.pv (pv_mv rfl) rfl ?_
      first | refine RR.pv (pv_ixN rfl rfl st33 (by omega)) rfl ?_ | refine RR.pv (pv_ixZ rfl rfl st33 (by omega)) rfl ?_
      refine RR.pv (pv_ld rfl ct3 (hca)) rfl ?_
      first | refine RR.pv (pv_ixN rfl rfl st33 (by omega)) rfl ?_ | refine RR.pv (pv_ixZ rfl rfl st33 (by omega)) rfl ?_
      refine RR.st rfl rfl ct3 OneV.i (M19.hn _ hb) (M19.wn _ hb) ?_
      refine RR.nil ?_
      refine CC.region ?_
      refine RR.pv (pv_mv rfl) rfl ?_
      first | refine RR.pv (pv_addN (n := 1) rfl rfl (by omega)) rfl ?_ | refine RR.pv (pv_add64 rfl rfl (by omega)) rfl ?_
      refine RR.pv (pv_as rfl) rfl ?_
      refine RR.nil ?_
      exact Nxt.go (j + 1 + 1, upd nx' (rw' (j + 1)) (nr j)) ⟨rfl, rfl, rfl, rfl, rfl, rfl, rfl, rfl, rfl, trivial⟩ ⟨by dsimp only; omega, hlt, ⟨_, M19.setN G hb _⟩, hfin (nr j) hstep.symm, qS.tr T19 (newT en)⟩ (by dsimp only; omega)
    have hstep := hNR.more j hlt hsm
    by_cases q1 : rank (rw' j) = rank (rw' (j + 1))
    · have q2 : rank ((rw' j + s) % n) ≠ rank ((rw' (j + 1) + s) % n) := fun e => hsm ⟨q1, e⟩
      refine CC.seq ?_
      refine CC.regionQ (by decide +kernel) ?_
      refine RR.pv (pv_mv rfl) rfl ?_
      refine RR.pv (pv_mv rfl) rfl ?_
      first | refine RR.pv (pv_ixN rfl rfl st33 (by omega)) rfl ?_ | refine RR.pv (pv_ixZ rfl rfl st33 (by omega)) rfl ?_
      refine RR.pv (pv_ld rfl ct3 (M19.hr _ ha)) rfl ?_
      refine RR.pv (pv_mv rfl) rfl ?_
      refine RR.pv (pv_mv rfl) rfl ?_
      first | refine RR.pv (pv_ixN rfl rfl st33 (by omega)) rfl ?_ | refine RR.pv (pv_ixZ rfl rfl st33 (by omega)) rfl ?_
      refine RR.pv (pv_ld rfl ct3 (M19.hr _ hb)) rfl ?_
      first | refine RR.pv (pv_eql_t rfl rfl (by omega)) rfl ?_ | refine RR.pv (pv_eql_f rfl rfl (by omega)) rfl ?_ | refine RR.pv (pv_eql rfl rfl) rfl ?_
      refine RR.pv (pv_mv rfl) rfl ?_
      first | refine RR.gy rfl rfl (pv_mv rfl) rfl ?_ | refine RR.gn rfl rfl rfl rfl ?_
      first | refine RR.gy rfl rfl (pv_mv rfl) rfl ?_ | refine RR.gn rfl rfl rfl rfl ?_
      first | refine RR.gy rfl rfl (pv_mv rfl) rfl ?_ | refine RR.gn rfl rfl rfl rfl ?_
      first | refine RR.gy rfl rfl (pv_addN rfl rfl (by omega)) rfl ?_ | refine RR.gy rfl rfl (pv_add64 rfl rfl (by omega)) rfl ?_ | refine RR.gn rfl rfl rfl rfl ?_
      first | refine RR.gy rfl rfl (pv_mv rfl) rfl ?_ | refine RR.gn rfl rfl rfl rfl ?_
      first | refine RR.gy rfl rfl (pv_remN rfl rfl (by omega) (by omega)) rfl ?_ | refine RR.gn rfl rfl rfl rfl ?_
      first | refine RR.gy rfl rfl (pv_ixN rfl rfl st33 (by omega)) rfl ?_ | refine RR.gy rfl rfl (pv_ixZ rfl rfl st33 (by omega)) rfl ?_ | refine RR.gn rfl rfl rfl rfl ?_
      first | refine RR.gy rfl rfl (pv_ld rfl ct3 (M19.hr _ (hmod (rw' j)))) rfl ?_ | refine RR.gn rfl rfl rfl rfl ?_
      first | refine RR.gy rfl rfl (pv_mv rfl) rfl ?_ | refine RR.gn rfl rfl rfl rfl ?_
      first | refine RR.gy rfl rfl (pv_mv rfl) rfl ?_ | refine RR.gn rfl rfl rfl rfl ?_
      first | refine RR.gy rfl rfl (pv_mv rfl) rfl ?_ | refine RR.gn rfl rfl rfl rfl ?_
      first | refine RR.gy rfl rfl (pv_addN rfl rfl (by omega)) rfl ?_ | refine RR.gy rfl rfl (pv_add64 rfl rfl (by omega)) rfl ?_ | refine RR.gn rfl rfl rfl rfl ?_
      first | refine RR.gy rfl rfl (pv_mv rfl) rfl ?_ | refine RR.gn rfl rfl rfl rfl ?_
      first | refine RR.gy rfl rfl (pv_remN rfl rfl (by omega) (by omega)) rfl ?_ | refine RR.gn rfl rfl rfl rfl ?_
      first | refine RR.gy rfl rfl (pv_ixN rfl rfl st33 (by omega)) rfl ?_ | refine RR.gy rfl rfl (pv_ixZ rfl rfl st33 (by omega)) rfl ?_ | refine RR.gn rfl rfl rfl rfl ?_
      first | refine RR.gy rfl rfl (pv_ld rfl ct3 (M19.hr _ (hmod (rw' (j + 1))))) rfl ?_ | refine RR.gn rfl rfl rfl rfl ?_
      first | refine RR.gy rfl rfl (pv_eql_t rfl rfl (by omega)) rfl ?_ | refine RR.gy rfl rfl (pv_eql_f rfl rfl (by omega)) rfl ?_ | refine RR.gy rfl rfl (pv_eql rfl rfl) rfl ?_ | refine RR.gn rfl rfl rfl rfl ?_
      first | refine RR.pv (pv_pick_t rfl rfl) rfl ?_ | refine RR.pv (pv_pick_f rfl rfl) rfl ?_
      refine RR.nil ?_
      refine CC.cond_f rfl ?_
      refine CC.region ?_
      refine RR.pv (pv_mv rfl) rfl ?_
      refine RR.pv (pv_mv rfl) rfl ?_
      refine RR.pv (pv_mv rfl) rfl ?_
      refine RR.pv (pv_mv rfl) rfl ?_
      first | refine RR.pv (pv_ixN rfl rfl st33 (by omega)) rfl ?_ | refine RR.pv (pv_ixZ rfl rfl st33 (by omega)) rfl ?_
      refine RR.pv (pv_ld rfl ct3 (hca)) rfl ?_
      first | refine RR.pv (pv_addN (n := 1) rfl rfl (by omega)) rfl ?_ | refine RR.pv (pv_add64 rfl rfl (by omega)) rfl ?_
      first | refine RR.pv (pv_ixN rfl rfl st33 (by omega)) rfl ?_ | refine RR.pv (pv_ixZ rfl rfl st33 (by omega)) rfl ?_
      refine RR.st rfl rfl ct3 OneV.i (M19.hn _ hb) (M19.wn _ hb) ?_
      refine RR.nil ?_
      refine CC.region ?_
      refine RR.pv (pv_mv rfl) rfl ?_
      first | refine RR.pv (pv_addN (n := 1) rfl rfl (by omega)) rfl ?_ | refine RR.pv (pv_add64 rfl rfl (by omega)) rfl ?_
      refine RR.pv (pv_as rfl) rfl ?_
      refine RR.nil ?_
      exact Nxt.go (j + 1 + 1, upd nx' (rw' (j + 1)) (nr j + 1)) ⟨rfl, rfl, rfl, rfl, rfl, rfl, rfl, rfl, rfl, trivial⟩ ⟨by dsimp only; omega, hlt, ⟨_, M19.setN G hb _⟩, hfin (nr j + 1) hstep.symm, qS.tr T19 (newT en)⟩ (by dsimp only; omega)
    · refine CC.seq ?_
      refine CC.regionQ (by decide +kernel) ?_
      refine RR.pv (pv_mv rfl) rfl ?_
      refine RR.pv (pv_mv rfl) rfl ?_
      first | refine RR.pv (pv_ixN rfl rfl st33 (by omega)) rfl ?_ | refine RR.pv (pv_ixZ rfl rfl st33 (by omega)) rfl ?_
      refine RR.pv (pv_ld rfl ct3 (M19.hr _ ha)) rfl ?_
      refine RR.pv (pv_mv rfl) rfl ?_
      refine RR.pv (pv_mv rfl) rfl ?_
      first | refine RR.pv (pv_ixN rfl rfl st33 (by omega)) rfl ?_ | refine RR.pv (pv_ixZ rfl rfl st33 (by omega)) rfl ?_
      refine RR.pv (pv_ld rfl ct3 (M19.hr _ hb)) rfl ?_
      first | refine RR.pv (pv_eql_t rfl rfl (by omega)) rfl ?_ | refine RR.pv (pv_eql_f rfl rfl (by omega)) rfl ?_ | refine RR.pv (pv_eql rfl rfl) rfl ?_
      refine RR.pv (pv_mv rfl) rfl ?_
      first | refine RR.gy rfl rfl (pv_mv rfl) rfl ?_ | refine RR.gn rfl rfl rfl rfl ?_
      first | refine RR.gy rfl rfl (pv_mv rfl) rfl ?_ | refine RR.gn rfl rfl rfl rfl ?_
      first | refine RR.gy rfl rfl (pv_mv rfl) rfl ?_ | refine RR.gn rfl rfl rfl rfl ?_
      first | refine RR.gy rfl rfl (pv_addN rfl rfl (by omega)) rfl ?_ | refine RR.gy rfl rfl (pv_add64 rfl rfl (by omega)) rfl ?_ | refine RR.gn rfl rfl rfl rfl ?_
      first | refine RR.gy rfl rfl (pv_mv rfl) rfl ?_ | refine RR.gn rfl rfl rfl rfl ?_
      first | refine RR.gy rfl rfl (pv_remN rfl rfl (by omega) (by omega)) rfl ?_ | refine RR.gn rfl rfl rfl rfl ?_
      first | refine RR.gy rfl rfl (pv_ixN rfl rfl st33 (by omega)) rfl ?_ | refine RR.gy rfl rfl (pv_ixZ rfl rfl st33 (by omega)) rfl ?_ | refine RR.gn rfl rfl rfl rfl ?_
      first | refine RR.gy rfl rfl (pv_ld rfl ct3 (M19.hr _ (hmod (rw' j)))) rfl ?_ | refine RR.gn rfl rfl rfl rfl ?_
      first | refine RR.gy rfl rfl (pv_mv rfl) rfl ?_ | refine RR.gn rfl rfl rfl rfl ?_
      first | refine RR.gy rfl rfl (pv_mv rfl) rfl ?_ | refine RR.gn rfl rfl rfl rfl ?_
      first | refine RR.gy rfl rfl (pv_mv rfl) rfl ?_ | refine RR.gn rfl rfl rfl rfl ?_
      first | refine RR.gy rfl rfl (pv_addN rfl rfl (by omega)) rfl ?_ | refine RR.gy rfl rfl (pv_add64 rfl rfl (by omega)) rfl ?_ | refine RR.gn rfl rfl rfl rfl ?_
      first | refine RR.gy rfl rfl (pv_mv rfl) rfl ?_ | refine RR.gn rfl rfl rfl rfl ?_
      first | refine RR.gy rfl rfl (pv_remN rfl rfl (by omega) (by omega)) rfl ?_ | refine RR.gn rfl rfl rfl rfl ?_
      first | refine RR.gy rfl rfl (pv_ixN rfl rfl st33 (by omega)) rfl ?_ | refine RR.gy rfl rfl (pv_ixZ rfl rfl st33 (by omega)) rfl ?_ | refine RR.gn rfl rfl rfl rfl ?_
      first | refine RR.gy rfl rfl (pv_ld rfl ct3 (M19.hr _ (hmod (rw' (j + 1))))) rfl ?_ | refine RR.gn rfl rfl rfl rfl ?_
      first | refine RR.gy rfl rfl (pv_eql_t rfl rfl (by omega)) rfl ?_ | refine RR.gy rfl rfl (pv_eql_f rfl rfl (by omega)) rfl ?_ | refine RR.gy rfl rfl (pv_eql rfl rfl) rfl ?_ | refine RR.gn rfl rfl rfl rfl ?_
      first | refine RR.pv (pv_pick_t rfl rfl) rfl ?_ | refine RR.pv (pv_pick_f rfl rfl) rfl ?_
      refine RR.nil ?_
      refine CC.cond_f rfl ?_
      refine CC.region ?_
      refine RR.pv (pv_mv rfl) rfl ?_
      refine RR.pv (pv_mv rfl) rfl ?_
      refine RR.pv (pv_mv rfl) rfl ?_
      refine RR.pv (pv_mv rfl) rfl ?_
      first | refine RR.pv (pv_ixN rfl rfl st33 (by omega)) rfl ?_ | refine RR.pv (pv_ixZ rfl rfl st33 (by omega)) rfl ?_
      refine RR.pv (pv_ld rfl ct3 (hca)) rfl ?_
      first | refine RR.pv (pv_addN (n := 1) rfl rfl (by omega)) rfl ?_ | refine RR.pv (pv_add64 rfl rfl (by omega)) rfl ?_
      first | refine RR.pv (pv_ixN rfl rfl st33 (by omega)) rfl ?_ | refine RR.pv (pv_ixZ rfl rfl st33 (by omega)) rfl ?_
      refine RR.st rfl rfl ct3 OneV.i (M19.hn _ hb) (M19.wn _ hb) ?_
      refine RR.nil ?_
      refine CC.region ?_
      refine RR.pv (pv_mv rfl) rfl ?_
      first | refine RR.pv (pv_addN (n := 1) rfl rfl (by omega)) rfl ?_ | refine RR.pv (pv_add64 rfl rfl (by omega)) rfl ?_
      refine RR.pv (pv_as rfl) rfl ?_
      refine RR.nil ?_
      exact Nxt.go (j + 1 + 1, upd nx' (rw' (j + 1)) (nr j + 1)) ⟨rfl, rfl, rfl, rfl, rfl, rfl, rfl, rfl, rfl, trivial⟩ ⟨by dsimp only; omega, hlt, ⟨_, M19.setN G hb _⟩, hfin (nr j + 1) hstep.symm, qS.tr T19 (newT en)⟩ (by dsimp only; omega)
  have hin : n = i := by omega
  subst hin
  refine CC.seq ?_
  refine CC.seq ?_
  refine CC.region ?_
  refine RR.pv (pv_mv rfl) rfl ?_
  refine RR.pv (pv_mv rfl) rfl ?_
  first | refine RR.pv (pv_lss_t rfl rfl (by omega)) rfl ?_ | refine RR.pv (pv_lss_f rfl rfl (by omega)) rfl ?_ | refine RR.pv (pv_lss rfl rfl) rfl ?_
  refine RR.nil ?_
  refine CC.cond_f rfl ?_
  refine CC.exit ?_
  have hRK2 := Rk.rk_dbl hper hn0 hRK hS hNR hall
  have hrm2 : ∀ p, p < n → nx' p < m := fun p hp => by
    obtain ⟨y, hy, e⟩ := Sa.pig_onto (P := fun _ => true) (fun k hk => ⟨hS.lt k hk, rfl⟩) hS.inj (Sa.cnt_le_n _ _) hp rfl
    rw [← e, hall y hy]
    have := hnr y
    omega
  refine CC.region ?_
  refine RR.pv (pv_mv rfl) rfl ?_
  refine RR.pv (pv_mv rfl) rfl ?_
  refine RR.pv (pv_as rfl) rfl ?_
  refine RR.pv (pv_as rfl) rfl ?_
  refine RR.nil ?_
  refine CC.region ?_
  refine RR.pv (pv_mv rfl) rfl ?_
  refine RR.pv (pv_mulN (n := 2) rfl rfl (by omega)) rfl ?_
  rw [show s * 2 = s + s from by omega]
  refine RR.pv (pv_as rfl) rfl ?_
  refine RR.nil ?_
  exact Nxt.go (bn, br, s + s, nx') ⟨rfl, rfl, rfl, rfl, rfl, rfl, rfl, rfl, trivial⟩ ⟨by dsimp only; omega, en, er, G.swap, hRK2, hrm2, ⟨_, _, _, _, M19.swap⟩, T19⟩ (by dsimp only; omega)


end Go.Proofs.Qxb6602663a.Vc
