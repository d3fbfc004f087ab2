/-
  The walk of suffixArray.
-/
import Derived.Test.Qxb6602663aInd
import Derived.Test.Qxb6602663aSame
import Derived.Test.Qxb6602663aSa5
namespace Go.Proofs.Qxb6602663a.Vc
open Go.RowKit
open Go.Proofs.Qxb6602663a.Sa (Nc Bk Bk_le Bk_mono Ty Ini LI SP PI lms lms_iff IsSA lay_begin lay_pass lay_push lay_done Eq2 Gat Names Red LS gat_of names_ex red_of ls_of cnt_sel cnt_rank cnt_rank_inj cnt_le_of cnt_succ cnt_onto lms_count lms_last lms_apart isSA_of isSA_distinct GI NI CI RI QI)
open Go.Proofs.Qxb6602663a.Sym (cnt cnt_congr cnt_restrict)
set_option linter.unusedVariables false
set_option linter.unusedSimpArgs false
set_option maxRecDepth 10000

theorem nm36 : (Try.f36.name == "runtime.NumGoroutine") = false := by kernel_rfl
theorem nm40 : (Try.f40.name == "runtime.NumGoroutine") = false := by kernel_rfl
theorem nm37 : (Try.f37.name == "runtime.NumGoroutine") = false := by kernel_rfl
theorem nm41 : (Try.f41.name == "runtime.NumGoroutine") = false := by kernel_rfl
theorem nm38 : (Try.f38.name == "runtime.NumGoroutine") = false := by kernel_rfl

def saT (bs os n : Nat) : Nat → Nat → Prop := fun b o => b = bs ∧ os ≤ o ∧ o < os + n

/-- A call that turned the first cells of the suffix array. -/
theorem M5.sub {K : IntKind} {l : Lay} {t : Nat → Nat} {s : Nat → Bool} {cn : Nat → Nat} {A : Nat → Int} {bk : Nat → Nat} {w w' : World} (h : M5 K l t s cn A bk w) (g : Geo l) {m : Nat} (hm : m ≤ l.n) (hn : 0 < l.n) (hk : 0 < l.k) {A' : Nat → Int}
    (hT : Touch (saT l.bs l.os m) w w') (hS : SI .i32 w' l.bs l.os m A') : M5 K l t s cn (fun x => if x < m then A' x else A x) bk w' := by
  refine ⟨h.ht.touch hT (fun i hi e => g.dj i (l.ot + i - l.os) hi (by have := e.2; omega) ⟨e.1, by have := e.2; omega⟩), h.hs.touch hT (fun i hi e => g.rs e.1), fun i hi => ?_, h.wa.touch (fun _ => h.ha.lt hn) hT, h.hb.touch hT (fun i hi e => g.sb e.1.symm), h.wb.touch (fun _ => h.hb.lt hk) hT, h.hc.touch hT (fun i hi e => g.cs' e.1)⟩
  by_cases him : i < m
  · rw [if_pos him]; exact hS i him
  · rw [if_neg him, hT.cell _ _ (h.ha.lt hn) (fun e => by have := e.2; omega)]; exact h.ha i hi

/-- What suffixArray does. -/
def SaisOK (F : FuncId) (K : IntKind) (n : Nat) : Prop := ∀ (bt ot ct bs os cs k : Nat) (t : Nat → Nat) (A : Nat → Int) (w : World), 0 < n → k ≤ 1048576 → (∀ i, i < n → t i < k) → n ≤ cs →
  SN K w bt ot n t → SI .i32 w bs os n A → WR w bs os n → (∀ i j, i < n → j < n → ¬ (bt = bs ∧ ot + i = os + j)) →
  FF F #[.slice (some ⟨bt, ot, none⟩) n ct, .slice (some ⟨bs, os, none⟩) n cs, .int .i64 (k : Int)] w (fun v w' => ∃ A', IsSA n t A' ∧ SI .i32 w' bs os n A' ∧ Touch (saT bs os n) w w')

set_option maxHeartbeats 4000000 in
theorem sais38_step (n : Nat) (hn : n ≤ 1048576) (hrec : ∀ m, m < n → SaisOK 38 .i32 m) : SaisOK 38 .i32 n := by
  intro bt ot ct bs os cs k t A00 w hn0 hkk hk hcs ht ha wa hdj
  refine FF.of_cc (l := [_, _, _]) Try.func38 rfl Try.ntmps38 rfl (CC.keep (F := [(0, _), (1, _), (2, _)]) ⟨rfl, rfl, rfl, trivial⟩ ?_)
  refine CC.seq ?_
  refine CC.region ?_
  refine RR.pv (pv_mv rfl) rfl ?_
  refine RR.pv (pv_len rfl st28) rfl ?_
  refine RR.pv (pv_as rfl) rfl ?_
  refine RR.nil ?_
  refine CC.seq ?_
  refine CC.seq ?_
  refine CC.region ?_
  refine RR.pv (pv_mv rfl) rfl ?_
  refine RR.nil ?_
  refine CC.block ?_
  refine CC.seq ?_
  refine CC.region ?_
  first | refine RR.pv (pv_eql_t rfl rfl (by omega)) rfl ?_ | refine RR.pv (pv_eql_f rfl rfl (by omega)) rfl ?_ | refine RR.pv (pv_eql rfl rfl) rfl ?_
  refine RR.pv (pv_as rfl) rfl ?_
  refine RR.nil ?_
  refine CC.cond_f rfl ?_
  by_cases hn1 : n = 1
  · subst hn1
    refine CC.seq ?_
    refine CC.region ?_
    first | refine RR.pv (pv_eql_t rfl rfl (by omega)) rfl ?_ | refine RR.pv (pv_eql_f rfl rfl (by omega)) rfl ?_ | refine RR.pv (pv_eql rfl rfl) rfl ?_
    refine RR.pv (pv_as rfl) rfl ?_
    refine RR.nil ?_
    refine CC.cond_t rfl ?_
    refine CC.seq ?_
    refine CC.region ?_
    refine RR.pv (pv_mv rfl) rfl ?_
    first | refine RR.pv (pv_ixN (i := 0) rfl rfl st28 (by omega)) rfl ?_ | refine RR.pv (pv_ixZ rfl rfl st28 (by omega)) rfl ?_
    refine RR.st rfl rfl ct21 OneV.i (ha 0 (by omega)) (wa 0 (by omega)) ?_
    refine RR.nil ?_
    refine CC.ret ?_
    refine EndQ.r0 Try.results38 ⟨upd A00 0 0, ⟨fun j hj => ⟨0, by omega, ?_⟩, fun j j' hj hj' _ => by omega, fun p hp => ⟨0, by omega, ?_⟩, fun j j' p q hj hj' e e' hl => ?_⟩, ha.set (by omega) 0, (Touch.setCell _ _ _ _).mono (fun b o _ h => ⟨h.1, by omega, by omega⟩)⟩
    · rw [show j = 0 from by omega, upd_same]; rfl
    · rw [show p = 0 from by omega, upd_same]; rfl
    · exfalso
      rw [show j = 0 from by omega, upd_same] at e
      rw [show j' = 0 from by omega, upd_same] at e'
      obtain ⟨d, _, h2⟩ := hl
      rw [show p = 0 from by omega, show q = 0 from by omega] at h2
      omega
  refine CC.seq ?_
  refine CC.region ?_
  first | refine RR.pv (pv_eql_t rfl rfl (by omega)) rfl ?_ | refine RR.pv (pv_eql_f rfl rfl (by omega)) rfl ?_ | refine RR.pv (pv_eql rfl rfl) rfl ?_
  refine RR.pv (pv_as rfl) rfl ?_
  refine RR.nil ?_
  refine CC.cond_f rfl ?_
  have hn2 : 2 ≤ n := by omega
  have hbt : bt < w.heap.size := ht.lt (by omega)
  have hbs : bs < w.heap.size := ha.lt (by omega)
  refine CC.skip ?_
  refine CC.seq ?_
  refine CC.region ?_
  refine RR.pv (pv_mv rfl) rfl ?_
  refine RR.mk36 rfl (by omega) rfl ?_
  have hs1 := SB.new0 w 4 n
  have ws1 := WR.new w (Array.replicate n (.bool false)) 4 0 n
  have ht1 := ht.alloc (.cells (Array.replicate n (.bool false)) 4)
  have hT1 : Touch (fun _ _ => False) w (w.alloc (.cells (Array.replicate n (.bool false)) 4)) := Touch.alloc _ _ _
  generalize w.alloc (.cells (Array.replicate n (.bool false)) 4) = w1 at hs1 ws1 ht1 hT1 ⊢
  obtain ⟨b3, hb3⟩ : ∃ b3, w.heap.size = b3 := ⟨_, rfl⟩
  rw [hb3] at hs1 ws1 ⊢
  refine RR.pv (pv_as rfl) rfl ?_
  refine RR.nil ?_
  refine CC.seq ?_
  refine CC.seq ?_
  refine CC.region ?_
  refine RR.pv (pv_mv rfl) rfl ?_
  first | refine RR.pv (pv_subN (n := 2) rfl rfl (by omega)) rfl ?_ | refine RR.pv (pv_sub64 rfl rfl (by omega)) rfl ?_
  refine RR.pv (pv_as rfl) rfl ?_
  refine RR.nil ?_
  refine CC.block ?_
  refine CC.loop (γ := Nat × (Nat → Bool)) (F := fun g => [(0, .slice (some ⟨bt, ot, none⟩) n ct), (1, .slice (some ⟨bs, os, none⟩) n cs), (2, .int .i64 (k : Int)), (6, .int .i64 (n : Int)), (7, .slice (some ⟨b3, 0, none⟩) n n), (8, .int .i64 ((g.1 : Int) - 1))])
    (I := fun g w' => g.1 < n ∧ SB w' b3 0 n g.2 ∧ WR w' b3 0 n ∧ SN .i32 w' bt ot n t ∧ g.2 (n - 1) = false ∧ (∀ x, g.1 ≤ x → x + 1 < n → (g.2 x = true ↔ t x < t (x + 1) ∨ (t x = t (x + 1) ∧ g.2 (x + 1) = true))) ∧ Touch (fun b o => b = b3) w1 w') (μ := fun g => g.1) (n - 1, fun _ => false)
    ⟨rfl, rfl, rfl, rfl, rfl, by show some _ = some _; congr 2; omega, trivial⟩
    ⟨by dsimp only; omega, hs1, ws1, ht1, rfl, fun x h1 h2 => by dsimp only at h1; omega, Touch.refl _ _⟩ ?_
  rintro ⟨i', s⟩ w2 ⟨hi, hs2, ws2, ht2, hlast, hty, hT2⟩
  dsimp only at hi hs2 hlast hty ⊢
  by_cases h0 : i' = 0
  rotate_left
  · obtain ⟨i, rfl⟩ : ∃ i, i' = i + 1 := ⟨i' - 1, by omega⟩
    rw [show ((i + 1 : Nat) : Int) - 1 = (i : Int) from by omega]
    refine CC.seq ?_
    refine CC.seq ?_
    refine CC.region ?_
    refine RR.pv (pv_mv rfl) rfl ?_
    first | refine RR.pv (pv_geq_t rfl rfl (by omega)) rfl ?_ | refine RR.pv (pv_geq_f rfl rfl (by omega)) rfl ?_ | refine RR.pv (pv_geq rfl rfl) rfl ?_
    refine RR.nil ?_
    refine CC.cond_t rfl ?_
    have hne : bt ≠ b3 := by omega
    have fin : ∀ v : Bool, (v = true ↔ t i < t (i + 1) ∨ (t i = t (i + 1) ∧ s (i + 1) = true)) → ∀ x, i ≤ x → x + 1 < n → (upd s i v x = true ↔ t x < t (x + 1) ∨ (t x = t (x + 1) ∧ upd s i v (x + 1) = true)) := fun v hv x h1 h2 => by
      rw [upd_ne s v (show x + 1 ≠ i from by omega)]
      by_cases e : x = i
      · subst e; rw [upd_same]; exact hv
      · rw [upd_ne _ _ e]; exact hty x (by omega) h2
    rcases Nat.lt_trichotomy (t i) (t (i + 1)) with hc | hc | hc
    · refine CC.skip ?_
      refine CC.seq ?_
      refine CC.block ?_
      refine CC.regionT 31 (by decide +kernel) ?_
      refine RS.pv (pv_mv rfl) rfl ?_
      refine RS.pv (pv_mv rfl) rfl ?_
      refine RS.pv (pv_mv rfl) rfl ?_
      refine RS.pv (pv_mv rfl) rfl ?_
      first | refine RS.pv (pv_ixN rfl rfl st28 (by omega)) rfl ?_ | refine RS.pv (pv_ixZ rfl rfl st28 (by omega)) rfl ?_
      refine RS.pv (pv_ld rfl ct21 (ht2 i (by omega))) rfl ?_
      refine RS.pv (pv_mv rfl) rfl ?_
      refine RS.pv (pv_mv rfl) rfl ?_
      first | refine RS.pv (pv_addN (n := 1) rfl rfl (by omega)) rfl ?_ | refine RS.pv (pv_add64 rfl rfl (by omega)) rfl ?_
      first | refine RS.pv (pv_ixN rfl rfl st28 (by omega)) rfl ?_ | refine RS.pv (pv_ixZ rfl rfl st28 (by omega)) rfl ?_
      refine RS.pv (pv_ld rfl ct21 (ht2 (i + 1) (by omega))) rfl ?_
      first | refine RS.pv (pv_lss_t rfl rfl (by omega)) rfl ?_ | refine RS.pv (pv_lss_f rfl rfl (by omega)) rfl ?_ | refine RS.pv (pv_lss rfl rfl) rfl ?_
      refine RS.pv (pv_mv rfl) rfl ?_
      first | refine RS.gy rfl rfl (pv_mv rfl) rfl ?_ | refine RS.gn rfl rfl rfl rfl ?_ | refine RS.gu rfl rfl rfl ?_
      first | refine RS.gy rfl rfl (pv_mv rfl) rfl ?_ | refine RS.gn rfl rfl rfl rfl ?_ | refine RS.gu rfl rfl rfl ?_
      first | refine RS.gy rfl rfl (pv_ixN rfl rfl st28 (by omega)) rfl ?_ | refine RS.gy rfl rfl (pv_ixZ rfl rfl st28 (by omega)) rfl ?_ | refine RS.gn rfl rfl rfl rfl ?_ | refine RS.gu rfl rfl rfl ?_
      first | refine RS.gy rfl rfl (pv_ld rfl ct21 (ht2 (i + 1) (by omega))) rfl ?_ | refine RS.gn rfl rfl rfl rfl ?_ | refine RS.gu rfl rfl rfl ?_
      first | refine RS.gy rfl rfl (pv_mv rfl) rfl ?_ | refine RS.gn rfl rfl rfl rfl ?_ | refine RS.gu rfl rfl rfl ?_
      first | refine RS.gy rfl rfl (pv_mv rfl) rfl ?_ | refine RS.gn rfl rfl rfl rfl ?_ | refine RS.gu rfl rfl rfl ?_
      first | refine RS.gy rfl rfl (pv_addN (n := 1) rfl rfl (by omega)) rfl ?_ | refine RS.gy rfl rfl (pv_add64 rfl rfl (by omega)) rfl ?_ | refine RS.gn rfl rfl rfl rfl ?_ | refine RS.gu rfl rfl rfl ?_
      first | refine RS.gy rfl rfl (pv_ixN rfl rfl st28 (by omega)) rfl ?_ | refine RS.gy rfl rfl (pv_ixZ rfl rfl st28 (by omega)) rfl ?_ | refine RS.gn rfl rfl rfl rfl ?_ | refine RS.gu rfl rfl rfl ?_
      first | refine RS.gy rfl rfl (pv_ld rfl ct21 (ht2 (i + 1) (by omega))) rfl ?_ | refine RS.gn rfl rfl rfl rfl ?_ | refine RS.gu rfl rfl rfl ?_
      first | refine RS.gy rfl rfl (pv_eql_t rfl rfl (by omega)) rfl ?_ | refine RS.gy rfl rfl (pv_eql_f rfl rfl (by omega)) rfl ?_ | refine RS.gy rfl rfl (pv_eql rfl rfl) rfl ?_ | refine RS.gn rfl rfl rfl rfl ?_ | refine RS.gu rfl rfl rfl ?_
      first | refine RS.gy rfl rfl (pv_mv rfl) rfl ?_ | refine RS.gn rfl rfl rfl rfl ?_ | refine RS.gu rfl rfl rfl ?_
      first | refine RS.gy rfl rfl (pv_mv rfl) rfl ?_ | refine RS.gn rfl rfl rfl rfl ?_ | refine RS.gu rfl rfl rfl ?_
      first | refine RS.gy rfl rfl (pv_mv rfl) rfl ?_ | refine RS.gn rfl rfl rfl rfl ?_ | refine RS.gu rfl rfl rfl ?_
      first | refine RS.gy rfl rfl (pv_addN (n := 1) rfl rfl (by omega)) rfl ?_ | refine RS.gy rfl rfl (pv_add64 rfl rfl (by omega)) rfl ?_ | refine RS.gn rfl rfl rfl rfl ?_ | refine RS.gu rfl rfl rfl ?_
      first | refine RS.gy rfl rfl (pv_ixN rfl rfl st36 (by omega)) rfl ?_ | refine RS.gy rfl rfl (pv_ixZ rfl rfl st36 (by omega)) rfl ?_ | refine RS.gn rfl rfl rfl rfl ?_ | refine RS.gu rfl rfl rfl ?_
      first | refine RS.gy rfl rfl (pv_ld rfl ct4 (ht2 (i + 1) (by omega))) rfl ?_ | refine RS.gn rfl rfl rfl rfl ?_ | refine RS.gu rfl rfl rfl ?_
      first | refine RS.gy rfl rfl (pv_pick_t rfl rfl) rfl ?_ | refine RS.gy rfl rfl (pv_pick_f rfl rfl) rfl ?_ | refine RS.gn rfl rfl rfl rfl ?_ | refine RS.gu rfl rfl rfl ?_
      first | refine RS.pv (pv_pick_t rfl rfl) rfl ?_ | refine RS.pv (pv_pick_f rfl rfl) rfl ?_
      refine RS.nil ?_
      first | refine RR.pv (pv_ixN rfl rfl st36 (by omega)) rfl ?_ | refine RR.pv (pv_ixZ rfl rfl st36 (by omega)) rfl ?_
      refine RR.st rfl rfl ct4 OneV.b (hs2 i (by omega)) (ws2 i (by omega)) ?_
      refine RR.nil ?_
      refine CC.region ?_
      refine RR.pv (pv_mv rfl) rfl ?_
      first | refine RR.pv (pv_subN (n := 1) rfl rfl (by omega)) rfl ?_ | refine RR.pv (pv_sub64 rfl rfl (by omega)) rfl ?_
      refine RR.pv (pv_as rfl) rfl ?_
      refine RR.nil ?_
      refine Nxt.go (i, upd s i true) ⟨rfl, rfl, rfl, rfl, rfl, rfl, trivial⟩ ⟨by dsimp only; omega, hs2.set (by omega) _, ws2.set, ht2.set_ne (fun j hj e => hne e.1), ?_, fin true ⟨fun _ => .inl hc, fun _ => rfl⟩, hT2.trans (Touch.setCell _ _ _ _) (fun _ _ _ h => h) (fun _ _ _ h => h.1)⟩ (by dsimp only; omega)
      dsimp only; rw [upd_ne _ _ (by omega)]; exact hlast
    · refine CC.skip ?_
      refine CC.seq ?_
      refine CC.block ?_
      refine CC.regionT 31 (by decide +kernel) ?_
      refine RS.pv (pv_mv rfl) rfl ?_
      refine RS.pv (pv_mv rfl) rfl ?_
      refine RS.pv (pv_mv rfl) rfl ?_
      refine RS.pv (pv_mv rfl) rfl ?_
      first | refine RS.pv (pv_ixN rfl rfl st28 (by omega)) rfl ?_ | refine RS.pv (pv_ixZ rfl rfl st28 (by omega)) rfl ?_
      refine RS.pv (pv_ld rfl ct21 (ht2 i (by omega))) rfl ?_
      refine RS.pv (pv_mv rfl) rfl ?_
      refine RS.pv (pv_mv rfl) rfl ?_
      first | refine RS.pv (pv_addN (n := 1) rfl rfl (by omega)) rfl ?_ | refine RS.pv (pv_add64 rfl rfl (by omega)) rfl ?_
      first | refine RS.pv (pv_ixN rfl rfl st28 (by omega)) rfl ?_ | refine RS.pv (pv_ixZ rfl rfl st28 (by omega)) rfl ?_
      refine RS.pv (pv_ld rfl ct21 (ht2 (i + 1) (by omega))) rfl ?_
      first | refine RS.pv (pv_lss_t rfl rfl (by omega)) rfl ?_ | refine RS.pv (pv_lss_f rfl rfl (by omega)) rfl ?_ | refine RS.pv (pv_lss rfl rfl) rfl ?_
      refine RS.pv (pv_mv rfl) rfl ?_
      first | refine RS.gy rfl rfl (pv_mv rfl) rfl ?_ | refine RS.gn rfl rfl rfl rfl ?_ | refine RS.gu rfl rfl rfl ?_
      first | refine RS.gy rfl rfl (pv_mv rfl) rfl ?_ | refine RS.gn rfl rfl rfl rfl ?_ | refine RS.gu rfl rfl rfl ?_
      first | refine RS.gy rfl rfl (pv_ixN rfl rfl st28 (by omega)) rfl ?_ | refine RS.gy rfl rfl (pv_ixZ rfl rfl st28 (by omega)) rfl ?_ | refine RS.gn rfl rfl rfl rfl ?_ | refine RS.gu rfl rfl rfl ?_
      first | refine RS.gy rfl rfl (pv_ld rfl ct21 (ht2 i (by omega))) rfl ?_ | refine RS.gn rfl rfl rfl rfl ?_ | refine RS.gu rfl rfl rfl ?_
      first | refine RS.gy rfl rfl (pv_mv rfl) rfl ?_ | refine RS.gn rfl rfl rfl rfl ?_ | refine RS.gu rfl rfl rfl ?_
      first | refine RS.gy rfl rfl (pv_mv rfl) rfl ?_ | refine RS.gn rfl rfl rfl rfl ?_ | refine RS.gu rfl rfl rfl ?_
      first | refine RS.gy rfl rfl (pv_addN (n := 1) rfl rfl (by omega)) rfl ?_ | refine RS.gy rfl rfl (pv_add64 rfl rfl (by omega)) rfl ?_ | refine RS.gn rfl rfl rfl rfl ?_ | refine RS.gu rfl rfl rfl ?_
      first | refine RS.gy rfl rfl (pv_ixN rfl rfl st28 (by omega)) rfl ?_ | refine RS.gy rfl rfl (pv_ixZ rfl rfl st28 (by omega)) rfl ?_ | refine RS.gn rfl rfl rfl rfl ?_ | refine RS.gu rfl rfl rfl ?_
      first | refine RS.gy rfl rfl (pv_ld rfl ct21 (ht2 (i + 1) (by omega))) rfl ?_ | refine RS.gn rfl rfl rfl rfl ?_ | refine RS.gu rfl rfl rfl ?_
      first | refine RS.gy rfl rfl (pv_eql_t rfl rfl (by omega)) rfl ?_ | refine RS.gy rfl rfl (pv_eql_f rfl rfl (by omega)) rfl ?_ | refine RS.gy rfl rfl (pv_eql rfl rfl) rfl ?_ | refine RS.gn rfl rfl rfl rfl ?_ | refine RS.gu rfl rfl rfl ?_
      first | refine RS.gy rfl rfl (pv_mv rfl) rfl ?_ | refine RS.gn rfl rfl rfl rfl ?_ | refine RS.gu rfl rfl rfl ?_
      first | refine RS.gy rfl rfl (pv_mv rfl) rfl ?_ | refine RS.gn rfl rfl rfl rfl ?_ | refine RS.gu rfl rfl rfl ?_
      first | refine RS.gy rfl rfl (pv_mv rfl) rfl ?_ | refine RS.gn rfl rfl rfl rfl ?_ | refine RS.gu rfl rfl rfl ?_
      first | refine RS.gy rfl rfl (pv_addN (n := 1) rfl rfl (by omega)) rfl ?_ | refine RS.gy rfl rfl (pv_add64 rfl rfl (by omega)) rfl ?_ | refine RS.gn rfl rfl rfl rfl ?_ | refine RS.gu rfl rfl rfl ?_
      first | refine RS.gy rfl rfl (pv_ixN rfl rfl st36 (by omega)) rfl ?_ | refine RS.gy rfl rfl (pv_ixZ rfl rfl st36 (by omega)) rfl ?_ | refine RS.gn rfl rfl rfl rfl ?_ | refine RS.gu rfl rfl rfl ?_
      first | refine RS.gy rfl rfl (pv_ld rfl ct4 (hs2 (i + 1) (by omega))) rfl ?_ | refine RS.gn rfl rfl rfl rfl ?_ | refine RS.gu rfl rfl rfl ?_
      first | refine RS.gy rfl rfl (pv_pick_t rfl rfl) rfl ?_ | refine RS.gy rfl rfl (pv_pick_f rfl rfl) rfl ?_ | refine RS.gn rfl rfl rfl rfl ?_ | refine RS.gu rfl rfl rfl ?_
      first | refine RS.pv (pv_pick_t rfl rfl) rfl ?_ | refine RS.pv (pv_pick_f rfl rfl) rfl ?_
      refine RS.nil ?_
      first | refine RR.pv (pv_ixN rfl rfl st36 (by omega)) rfl ?_ | refine RR.pv (pv_ixZ rfl rfl st36 (by omega)) rfl ?_
      refine RR.st rfl rfl ct4 OneV.b (hs2 i (by omega)) (ws2 i (by omega)) ?_
      refine RR.nil ?_
      refine CC.region ?_
      refine RR.pv (pv_mv rfl) rfl ?_
      first | refine RR.pv (pv_subN (n := 1) rfl rfl (by omega)) rfl ?_ | refine RR.pv (pv_sub64 rfl rfl (by omega)) rfl ?_
      refine RR.pv (pv_as rfl) rfl ?_
      refine RR.nil ?_
      refine Nxt.go (i, upd s i (s (i + 1))) ⟨rfl, rfl, rfl, rfl, rfl, rfl, trivial⟩ ⟨by dsimp only; omega, hs2.set (by omega) _, ws2.set, ht2.set_ne (fun j hj e => hne e.1), ?_, fin (s (i + 1)) ⟨fun h => .inr ⟨hc, h⟩, fun h => h.elim (fun h => by omega) (fun h => h.2)⟩, hT2.trans (Touch.setCell _ _ _ _) (fun _ _ _ h => h) (fun _ _ _ h => h.1)⟩ (by dsimp only; omega)
      dsimp only; rw [upd_ne _ _ (by omega)]; exact hlast
    · refine CC.skip ?_
      refine CC.seq ?_
      refine CC.block ?_
      refine CC.regionT 31 (by decide +kernel) ?_
      refine RS.pv (pv_mv rfl) rfl ?_
      refine RS.pv (pv_mv rfl) rfl ?_
      refine RS.pv (pv_mv rfl) rfl ?_
      refine RS.pv (pv_mv rfl) rfl ?_
      first | refine RS.pv (pv_ixN rfl rfl st28 (by omega)) rfl ?_ | refine RS.pv (pv_ixZ rfl rfl st28 (by omega)) rfl ?_
      refine RS.pv (pv_ld rfl ct21 (ht2 i (by omega))) rfl ?_
      refine RS.pv (pv_mv rfl) rfl ?_
      refine RS.pv (pv_mv rfl) rfl ?_
      first | refine RS.pv (pv_addN (n := 1) rfl rfl (by omega)) rfl ?_ | refine RS.pv (pv_add64 rfl rfl (by omega)) rfl ?_
      first | refine RS.pv (pv_ixN rfl rfl st28 (by omega)) rfl ?_ | refine RS.pv (pv_ixZ rfl rfl st28 (by omega)) rfl ?_
      refine RS.pv (pv_ld rfl ct21 (ht2 (i + 1) (by omega))) rfl ?_
      first | refine RS.pv (pv_lss_t rfl rfl (by omega)) rfl ?_ | refine RS.pv (pv_lss_f rfl rfl (by omega)) rfl ?_ | refine RS.pv (pv_lss rfl rfl) rfl ?_
      refine RS.pv (pv_mv rfl) rfl ?_
      first | refine RS.gy rfl rfl (pv_mv rfl) rfl ?_ | refine RS.gn rfl rfl rfl rfl ?_ | refine RS.gu rfl rfl rfl ?_
      first | refine RS.gy rfl rfl (pv_mv rfl) rfl ?_ | refine RS.gn rfl rfl rfl rfl ?_ | refine RS.gu rfl rfl rfl ?_
      first | refine RS.gy rfl rfl (pv_ixN rfl rfl st28 (by omega)) rfl ?_ | refine RS.gy rfl rfl (pv_ixZ rfl rfl st28 (by omega)) rfl ?_ | refine RS.gn rfl rfl rfl rfl ?_ | refine RS.gu rfl rfl rfl ?_
      first | refine RS.gy rfl rfl (pv_ld rfl ct21 (ht2 i (by omega))) rfl ?_ | refine RS.gn rfl rfl rfl rfl ?_ | refine RS.gu rfl rfl rfl ?_
      first | refine RS.gy rfl rfl (pv_mv rfl) rfl ?_ | refine RS.gn rfl rfl rfl rfl ?_ | refine RS.gu rfl rfl rfl ?_
      first | refine RS.gy rfl rfl (pv_mv rfl) rfl ?_ | refine RS.gn rfl rfl rfl rfl ?_ | refine RS.gu rfl rfl rfl ?_
      first | refine RS.gy rfl rfl (pv_addN (n := 1) rfl rfl (by omega)) rfl ?_ | refine RS.gy rfl rfl (pv_add64 rfl rfl (by omega)) rfl ?_ | refine RS.gn rfl rfl rfl rfl ?_ | refine RS.gu rfl rfl rfl ?_
      first | refine RS.gy rfl rfl (pv_ixN rfl rfl st28 (by omega)) rfl ?_ | refine RS.gy rfl rfl (pv_ixZ rfl rfl st28 (by omega)) rfl ?_ | refine RS.gn rfl rfl rfl rfl ?_ | refine RS.gu rfl rfl rfl ?_
      first | refine RS.gy rfl rfl (pv_ld rfl ct21 (ht2 (i + 1) (by omega))) rfl ?_ | refine RS.gn rfl rfl rfl rfl ?_ | refine RS.gu rfl rfl rfl ?_
      first | refine RS.gy rfl rfl (pv_eql_t rfl rfl (by omega)) rfl ?_ | refine RS.gy rfl rfl (pv_eql_f rfl rfl (by omega)) rfl ?_ | refine RS.gy rfl rfl (pv_eql rfl rfl) rfl ?_ | refine RS.gn rfl rfl rfl rfl ?_ | refine RS.gu rfl rfl rfl ?_
      first | refine RS.gy rfl rfl (pv_mv rfl) rfl ?_ | refine RS.gn rfl rfl rfl rfl ?_ | refine RS.gu rfl rfl rfl ?_
      first | refine RS.gy rfl rfl (pv_mv rfl) rfl ?_ | refine RS.gn rfl rfl rfl rfl ?_ | refine RS.gu rfl rfl rfl ?_
      first | refine RS.gy rfl rfl (pv_mv rfl) rfl ?_ | refine RS.gn rfl rfl rfl rfl ?_ | refine RS.gu rfl rfl rfl ?_
      first | refine RS.gy rfl rfl (pv_addN (n := 1) rfl rfl (by omega)) rfl ?_ | refine RS.gy rfl rfl (pv_add64 rfl rfl (by omega)) rfl ?_ | refine RS.gn rfl rfl rfl rfl ?_ | refine RS.gu rfl rfl rfl ?_
      first | refine RS.gy rfl rfl (pv_ixN rfl rfl st36 (by omega)) rfl ?_ | refine RS.gy rfl rfl (pv_ixZ rfl rfl st36 (by omega)) rfl ?_ | refine RS.gn rfl rfl rfl rfl ?_ | refine RS.gu rfl rfl rfl ?_
      first | refine RS.gy rfl rfl (pv_ld rfl ct4 (hs2 (i + 1) (by omega))) rfl ?_ | refine RS.gn rfl rfl rfl rfl ?_ | refine RS.gu rfl rfl rfl ?_
      first | refine RS.gy rfl rfl (pv_pick_t rfl rfl) rfl ?_ | refine RS.gy rfl rfl (pv_pick_f rfl rfl) rfl ?_ | refine RS.gn rfl rfl rfl rfl ?_ | refine RS.gu rfl rfl rfl ?_
      first | refine RS.pv (pv_pick_t rfl rfl) rfl ?_ | refine RS.pv (pv_pick_f rfl rfl) rfl ?_
      refine RS.nil ?_
      first | refine RR.pv (pv_ixN rfl rfl st36 (by omega)) rfl ?_ | refine RR.pv (pv_ixZ rfl rfl st36 (by omega)) rfl ?_
      refine RR.st rfl rfl ct4 OneV.b (hs2 i (by omega)) (ws2 i (by omega)) ?_
      refine RR.nil ?_
      refine CC.region ?_
      refine RR.pv (pv_mv rfl) rfl ?_
      first | refine RR.pv (pv_subN (n := 1) rfl rfl (by omega)) rfl ?_ | refine RR.pv (pv_sub64 rfl rfl (by omega)) rfl ?_
      refine RR.pv (pv_as rfl) rfl ?_
      refine RR.nil ?_
      refine Nxt.go (i, upd s i false) ⟨rfl, rfl, rfl, rfl, rfl, rfl, trivial⟩ ⟨by dsimp only; omega, hs2.set (by omega) _, ws2.set, ht2.set_ne (fun j hj e => hne e.1), ?_, fin false ⟨fun h => Bool.noConfusion h, fun h => by omega⟩, hT2.trans (Touch.setCell _ _ _ _) (fun _ _ _ h => h) (fun _ _ _ h => h.1)⟩ (by dsimp only; omega)
      dsimp only; rw [upd_ne _ _ (by omega)]; exact hlast
  subst h0
  have hTy : Ty n t s := ⟨fun _ => hlast, fun i hi => hty i (Nat.zero_le _) hi⟩
  have hTw2 : Touch (fun _ _ => False) w w2 := hT1.trans hT2 (fun _ _ _ h => h) (fun b o hb h => by omega)
  have hb32 : b3 < w2.heap.size := hs2.lt (by omega)
  clear hty hlast hT2 hT1 hs1 ws1 ht1 ht
  refine CC.seq ?_
  refine CC.seq ?_
  refine CC.region ?_
  refine RR.pv (pv_mv rfl) rfl ?_
  first | refine RR.pv (pv_geq_t rfl rfl (by omega)) rfl ?_ | refine RR.pv (pv_geq_f rfl rfl (by omega)) rfl ?_ | refine RR.pv (pv_geq rfl rfl) rfl ?_
  refine RR.nil ?_
  refine CC.cond_f rfl ?_
  refine CC.exit ?_
  have hk0 : 0 < k := by have := hk 0 (by omega); omega
  refine CC.seq ?_
  refine CC.region ?_
  refine RR.pv (pv_mv rfl) rfl ?_
  refine RR.mk28 rfl (by omega) rfl ?_
  have hc3 := SN.new0 .i32 w2 21 k
  have wc3 := WR.new w2 (Array.replicate k (.int .i32 0)) 21 0 k
  have ht3 := ht2.alloc (.cells (Array.replicate k (.int .i32 0)) 21)
  have hs3 := hs2.alloc (.cells (Array.replicate k (.int .i32 0)) 21)
  have hT3 : Touch (fun _ _ => False) w (w2.alloc (.cells (Array.replicate k (.int .i32 0)) 21)) := hTw2.trans (Touch.alloc (fun _ _ => False) _ _) (fun _ _ _ h => h) (fun _ _ _ h => h)
  generalize w2.alloc (.cells (Array.replicate k (.int .i32 0)) 21) = w3 at hc3 wc3 ht3 hs3 hT3 ⊢
  obtain ⟨bc, hbc⟩ : ∃ bc, w2.heap.size = bc := ⟨_, rfl⟩
  rw [hbc] at hc3 wc3 hb32 ⊢
  have hbw2 : w.heap.size ≤ bc := by have := hTw2.size; omega
  clear ht2 hs2 ws2 hTw2
  refine RR.pv (pv_as rfl) rfl ?_
  refine RR.nil ?_
  refine CC.seq ?_
  refine CC.seq ?_
  refine CC.region ?_
  refine RR.pv (pv_mv rfl) rfl ?_
  refine RR.pv (pv_len rfl st28) rfl ?_
  refine RR.pv (pv_mv rfl) rfl ?_
  refine RR.nil ?_
  refine CC.block ?_
  refine CC.loop (γ := Nat) (F := fun i => [(0, .slice (some ⟨bt, ot, none⟩) n ct), (1, .slice (some ⟨bs, os, none⟩) n cs), (2, .int .i64 (k : Int)), (6, .int .i64 (n : Int)), (7, .slice (some ⟨b3, 0, none⟩) n n), (9, .slice (some ⟨bc, 0, none⟩) k k), (87, .slice (some ⟨bt, ot, none⟩) n ct), (88, .int .i64 (n : Int)), (89, .int .i64 (i : Int))])
    (I := fun i w' => i ≤ n ∧ SN .i32 w' bc 0 k (Nc i t) ∧ WR w' bc 0 k ∧ SN .i32 w' bt ot n t ∧ SB w' b3 0 n s ∧ Touch (fun b o => b = bc) w3 w') (μ := fun i => n - i) 0
    ⟨rfl, rfl, rfl, rfl, rfl, rfl, rfl, rfl, rfl, trivial⟩
    ⟨Nat.zero_le _, hc3, wc3, ht3, hs3, Touch.refl _ _⟩ ?_
  rintro i w4 ⟨hi, hc4, wc4, ht4, hs4, hT4⟩
  by_cases hlt : i < n
  · have hti := hk i hlt
    have hle : Nc i t (t i) ≤ i := Sa.cnt_le_n _ _
    refine CC.seq ?_
    refine CC.region ?_
    first | refine RR.pv (pv_lss_t rfl rfl (by omega)) rfl ?_ | refine RR.pv (pv_lss_f rfl rfl (by omega)) rfl ?_ | refine RR.pv (pv_lss rfl rfl) rfl ?_
    refine RR.nil ?_
    refine CC.seq ?_
    refine CC.cond_t rfl ?_
    refine CC.skip ?_
    refine CC.seq ?_
    refine CC.block ?_
    refine CC.seq ?_
    refine CC.region ?_
    first | refine RR.pv (pv_ixN rfl rfl st28 (by omega)) rfl ?_ | refine RR.pv (pv_ixZ rfl rfl st28 (by omega)) rfl ?_
    refine RR.pv (pv_ld rfl ct21 (ht4 i hlt)) rfl ?_
    refine RR.pv (pv_as rfl) rfl ?_
    refine RR.nil ?_
    refine CC.region ?_
    refine RR.pv (pv_mv rfl) rfl ?_
    refine RR.pv (pv_mv rfl) rfl ?_
    first | refine RR.pv (pv_ixN rfl rfl st28 (by omega)) rfl ?_ | refine RR.pv (pv_ixZ rfl rfl st28 (by omega)) rfl ?_
    refine RR.pv (pv_ld rfl ct21 (hc4 (t i) hti)) rfl ?_
    refine RR.pv (pv_add32 rfl rfl (by omega)) rfl ?_
    rw [show ((Nc i t (t i) : Nat) : Int) + 1 = ((Nc i t (t i) + 1 : Nat) : Int) from by omega]
    first | refine RR.pv (pv_ixN rfl rfl st28 (by omega)) rfl ?_ | refine RR.pv (pv_ixZ rfl rfl st28 (by omega)) rfl ?_
    refine RR.st rfl rfl ct21 OneV.i (hc4 (t i) hti) (wc4 _ hti) ?_
    refine RR.nil ?_
    refine CC.region ?_
    first | refine RR.pv (pv_addN (n := 1) rfl rfl (by omega)) rfl ?_ | refine RR.pv (pv_add64 rfl rfl (by omega)) rfl ?_
    refine RR.pv (pv_mv rfl) rfl ?_
    refine RR.nil ?_
    refine Nxt.go (i + 1) ⟨rfl, rfl, rfl, rfl, rfl, rfl, rfl, rfl, rfl, trivial⟩ ⟨hlt, ((hc4.set hti _).v.congr (fun c _ => ?_)).nn, wc4.set, ht4.set_ne (fun j hj e => by have := e.1; omega), hs4.set_ne (fun j hj e => by have := e.1; omega), hT4.trans (Touch.setCell _ _ _ _) (fun _ _ _ h => h) (fun _ _ _ h => h.1)⟩ (by omega)
    show upd (Nc i t) (t i) (Nc i t (t i) + 1) c = Sym.cnt _ (i + 1)
    rw [Sa.cnt_succ]
    by_cases e : c = t i
    · subst e; rw [upd_same]; simp [Nc]
    · rw [upd_ne _ _ e, if_neg (by simp; exact fun e' => e e'.symm)]; rfl
  have hin : i = n := by omega
  subst hin
  refine CC.seq ?_
  refine CC.region ?_
  first | refine RR.pv (pv_lss_t rfl rfl (by omega)) rfl ?_ | refine RR.pv (pv_lss_f rfl rfl (by omega)) rfl ?_ | refine RR.pv (pv_lss rfl rfl) rfl ?_
  refine RR.nil ?_
  refine CC.seq ?_
  refine CC.cond_f rfl ?_
  refine CC.exit ?_
  have hTw4 : Touch (fun _ _ => False) w w4 := hT3.trans hT4 (fun _ _ _ h => h) (fun b o hb h => by omega)
  have hbc4 : bc < w4.heap.size := hc4.lt hk0
  clear hT3 hT4 hc3 wc3 ht3 hs3
  refine CC.seq ?_
  refine CC.region ?_
  refine RR.pv (pv_mv rfl) rfl ?_
  refine RR.mk28 rfl (by omega) rfl ?_
  have hb5 := SN.new0 .i32 w4 21 k
  have wb5 := WR.new w4 (Array.replicate k (.int .i32 0)) 21 0 k
  have ht5 := ht4.alloc (.cells (Array.replicate k (.int .i32 0)) 21)
  have hs5 := hs4.alloc (.cells (Array.replicate k (.int .i32 0)) 21)
  have hc5 := hc4.alloc (.cells (Array.replicate k (.int .i32 0)) 21)
  have hT5 : Touch (fun _ _ => False) w (w4.alloc (.cells (Array.replicate k (.int .i32 0)) 21)) := hTw4.trans (Touch.alloc (fun _ _ => False) _ _) (fun _ _ _ h => h) (fun _ _ _ h => h)
  have ha5 := ha.touch hT5 (fun _ _ h => h)
  have wa5 := wa.touch (fun _ => hbs) hT5
  generalize w4.alloc (.cells (Array.replicate k (.int .i32 0)) 21) = w5 at hb5 wb5 ht5 hs5 hc5 hT5 ha5 wa5 ⊢
  obtain ⟨bb, hbb⟩ : ∃ bb, w4.heap.size = bb := ⟨_, rfl⟩
  rw [hbb] at hb5 wb5 hbc4 ⊢
  have hwb : w.heap.size ≤ bb := by have := hTw4.size; omega
  refine RR.pv (pv_as rfl) rfl ?_
  refine RR.nil ?_
  clear ht4 hs4 hc4 wc4 hTw4 ha wa
  obtain ⟨l, rfl, rfl, rfl, rfl, rfl, rfl, rfl, rfl, rfl, rfl, rfl⟩ : ∃ l : Lay, l.bt = bt ∧ l.ot = ot ∧ l.ct = ct ∧ l.bs = bs ∧ l.os = os ∧ l.cs = cs ∧ l.b3 = b3 ∧ l.bb = bb ∧ l.bc = bc ∧ l.n = i ∧ l.k = k := ⟨⟨bt, ot, ct, bs, os, cs, b3, bb, bc, i, k⟩, rfl, rfl, rfl, rfl, rfl, rfl, rfl, rfl, rfl, rfl, rfl⟩
  have g : Geo l := ⟨hdj, by omega, by omega, by omega, by omega, by omega, by omega⟩
  have hM5 : M5 .i32 l t s (Nc l.n t) A00 (fun _ => 0) w5 := ⟨ht5, hs5, ha5, wa5, hb5, wb5, hc5⟩
  have hTt5 : Touch (tS l) w w5 := hT5.mono (fun _ _ _ h => h.elim)
  clear ht5 hs5 ha5 wa5 hb5 wb5 hc5 hT5 hbb hbc hdj
  -- sa[i] = -1
  refine CC.seq ?_
  refine CC.seq ?_
  refine CC.region ?_
  refine RR.pv (pv_mv rfl) rfl ?_
  refine RR.pv (pv_len rfl st28) rfl ?_
  refine RR.pv (pv_mv rfl) rfl ?_
  refine RR.nil ?_
  refine CC.block ?_
  refine CC.loop (γ := Nat × (Nat → Int)) (F := fun g => [(0, .slice (some ⟨l.bt, l.ot, none⟩) l.n l.ct), (1, .slice (some ⟨l.bs, l.os, none⟩) l.n l.cs), (2, .int .i64 (l.k : Int)), (6, .int .i64 (l.n : Int)), (7, .slice (some ⟨l.b3, 0, none⟩) l.n l.n), (9, .slice (some ⟨l.bc, 0, none⟩) l.k l.k), (12, .slice (some ⟨l.bb, 0, none⟩) l.k l.k), (103, .int .i64 (l.n : Int)), (104, .int .i64 (g.1 : Int))])
    (I := fun g w' => g.1 ≤ l.n ∧ M5 .i32 l t s (Nc l.n t) g.2 (fun _ => 0) w' ∧ (∀ j, j < g.1 → g.2 j = -1) ∧ Touch (tS l) w w') (μ := fun g => l.n - g.1) (0, _)
    ⟨rfl, rfl, rfl, rfl, rfl, rfl, rfl, rfl, rfl, trivial⟩
    ⟨Nat.zero_le _, hM5, fun j hj => absurd hj (Nat.not_lt_zero _), hTt5⟩ ?_
  clear hM5 hTt5
  rintro ⟨i, A⟩ w6 ⟨hi, hM6, hall, hTt6⟩
  dsimp only at hi hM6 hall ⊢
  by_cases hlt : i < l.n
  · refine CC.seq ?_
    refine CC.region ?_
    first | refine RR.pv (pv_lss_t rfl rfl (by omega)) rfl ?_ | refine RR.pv (pv_lss_f rfl rfl (by omega)) rfl ?_ | refine RR.pv (pv_lss rfl rfl) rfl ?_
    refine RR.nil ?_
    refine CC.seq ?_
    refine CC.cond_t rfl ?_
    refine CC.skip ?_
    refine CC.seq ?_
    refine CC.block ?_
    refine CC.seq ?_
    refine CC.region ?_
    refine RR.pv (pv_mv rfl) rfl ?_
    refine RR.pv (pv_as rfl) rfl ?_
    refine RR.nil ?_
    refine CC.region ?_
    refine RR.pv (pv_mv rfl) rfl ?_
    refine RR.pv (pv_mv rfl) rfl ?_
    first | refine RR.pv (pv_ixN rfl rfl st28 (by omega)) rfl ?_ | refine RR.pv (pv_ixZ rfl rfl st28 (by omega)) rfl ?_
    refine RR.st rfl rfl ct21 OneV.i (hM6.ha i hlt) (hM6.wa _ hlt) ?_
    refine RR.nil ?_
    refine CC.region ?_
    first | refine RR.pv (pv_addN (n := 1) rfl rfl (by omega)) rfl ?_ | refine RR.pv (pv_add64 rfl rfl (by omega)) rfl ?_
    refine RR.pv (pv_mv rfl) rfl ?_
    refine RR.nil ?_
    refine Nxt.go (i + 1, upd A i (-1)) ⟨rfl, rfl, rfl, rfl, rfl, rfl, rfl, rfl, rfl, trivial⟩ ⟨hlt, hM6.setA g hlt _, fun j hj => ?_, tS.tr hTt6 (tS.a l w6 hlt _)⟩ (by dsimp only; omega)
    dsimp only at hj ⊢
    by_cases e : j = i
    · subst e; rw [upd_same]
    · rw [upd_ne _ _ e]; exact hall j (by omega)
  have hin : i = l.n := by omega
  subst hin
  refine CC.seq ?_
  refine CC.region ?_
  first | refine RR.pv (pv_lss_t rfl rfl (by omega)) rfl ?_ | refine RR.pv (pv_lss_f rfl rfl (by omega)) rfl ?_ | refine RR.pv (pv_lss rfl rfl) rfl ?_
  refine RR.nil ?_
  refine CC.seq ?_
  refine CC.cond_f rfl ?_
  refine CC.exit ?_
  have hl0 := lay_begin (t := t) (s := s) hall
  refine CC.seq ?_
  refine CC.region ?_
  refine RR.pv (pv_mv rfl) rfl ?_
  refine RR.pv (pv_mv rfl) rfl ?_
  refine RR.call Try.func35 nm35 rfl rfl (bucketEnds_any l.bb l.bc l.n l.k t _ w6 hn hkk g.cb hM6.hb hM6.wb hM6.hc) rfl (fun v7 w7 ⟨hb7, hT7⟩ => ?_)
  refine RR.nil ?_
  have hM7 := hM6.bkTouch g (by omega) hk0 hT7 hb7
  have hTt7 : Touch (tS l) w w7 := tS.tr hTt6 (hT7.mono (fun b o _ h => .inr h))
  clear hM6 hT7 hb7 hTt6 hall
  -- the LMS positions at the ends of their buckets
  refine CC.seq ?_
  refine CC.seq ?_
  refine CC.region ?_
  refine RR.pv (pv_as rfl) rfl ?_
  refine RR.nil ?_
  refine CC.block ?_
  refine CC.loop (γ := Nat × (Nat → Int) × (Nat → Nat)) (F := fun g => [(0, .slice (some ⟨l.bt, l.ot, none⟩) l.n l.ct), (1, .slice (some ⟨l.bs, l.os, none⟩) l.n l.cs), (2, .int .i64 (l.k : Int)), (6, .int .i64 (l.n : Int)), (7, .slice (some ⟨l.b3, 0, none⟩) l.n l.n), (9, .slice (some ⟨l.bc, 0, none⟩) l.k l.k), (12, .slice (some ⟨l.bb, 0, none⟩) l.k l.k), (14, .int .i64 (g.1 : Int))])
    (I := fun g w' => 1 ≤ g.1 ∧ g.1 ≤ l.n ∧ PI l.n t s (fun p => lms s p && decide (p < g.1)) (fun p => l.n - p) 0 g.2.1 g.2.2 ∧ M5 .i32 l t s (Nc l.n t) g.2.1 g.2.2 w' ∧ Touch (tS l) w w') (μ := fun g => l.n - g.1) (1, _, _)
    ⟨rfl, rfl, rfl, rfl, rfl, rfl, rfl, rfl, trivial⟩
    ⟨Nat.le_refl _, by dsimp only; omega, hl0, hM7, hTt7⟩ ?_
  clear hM7 hTt7 hl0
  rintro ⟨i, A1, bk⟩ w8 ⟨hi1, hi, hPI, hM8, hTt8⟩
  dsimp only at hi1 hi hPI hM8 ⊢
  by_cases hlt : i < l.n
  · refine CC.seq ?_
    refine CC.seq ?_
    refine CC.region ?_
    refine RR.pv (pv_mv rfl) rfl ?_
    refine RR.pv (pv_mv rfl) rfl ?_
    first | refine RR.pv (pv_lss_t rfl rfl (by omega)) rfl ?_ | refine RR.pv (pv_lss_f rfl rfl (by omega)) rfl ?_ | refine RR.pv (pv_lss rfl rfl) rfl ?_
    refine RR.nil ?_
    refine CC.cond_t rfl ?_
    by_cases hl : lms s i = true
    · have hll := lms_iff.1 hl
      have hc1 : w8.cell? ⟨l.b3, 0 + i, none⟩ = some (.bool true) := by rw [← hll.2.1]; exact hM8.hs i hlt
      have hc2 : w8.cell? ⟨l.b3, 0 + (i - 1), none⟩ = some (.bool false) := by rw [← hll.2.2]; exact hM8.hs (i - 1) (by omega)
      have hti := hk i hlt
      obtain ⟨hb0, hbn, hPI'⟩ := lay_push hPI hlt hl
      have hbl : bk (t i) - 1 < l.n := by omega
      refine CC.skip ?_
      refine CC.seq ?_
      refine CC.block ?_
      refine CC.seq ?_
      refine CC.region ?_
      refine RR.pv (pv_mv rfl) rfl ?_
      refine RR.pv (pv_mv rfl) rfl ?_
      first | refine RR.pv (pv_ixN rfl rfl st36 (by omega)) rfl ?_ | refine RR.pv (pv_ixZ rfl rfl st36 (by omega)) rfl ?_
      refine RR.pv (pv_ld rfl ct4 (hc1)) rfl ?_
      refine RR.pv (pv_mv rfl) rfl ?_
      first | refine RR.gy rfl rfl (pv_mv rfl) rfl ?_ | refine RR.gn rfl rfl rfl rfl ?_
      first | refine RR.gy rfl rfl (pv_mv rfl) rfl ?_ | refine RR.gn rfl rfl rfl rfl ?_
      first | refine RR.gy rfl rfl (pv_subN (n := 1) rfl rfl (by omega)) rfl ?_ | refine RR.gy rfl rfl (pv_sub64 rfl rfl (by omega)) rfl ?_ | refine RR.gn rfl rfl rfl rfl ?_
      first | refine RR.gy rfl rfl (pv_ixN rfl rfl st36 (by omega)) rfl ?_ | refine RR.gy rfl rfl (pv_ixZ rfl rfl st36 (by omega)) rfl ?_ | refine RR.gn rfl rfl rfl rfl ?_
      first | refine RR.gy rfl rfl (pv_ld rfl ct4 (hc2)) rfl ?_ | refine RR.gn rfl rfl rfl rfl ?_
      first | refine RR.gy rfl rfl (pv_not_t rfl) rfl ?_ | refine RR.gy rfl rfl (pv_not_f rfl) rfl ?_ | refine RR.gy rfl rfl (pv_not rfl) rfl ?_ | refine RR.gn rfl rfl rfl rfl ?_
      first | refine RR.pv (pv_pick_t rfl rfl) rfl ?_ | refine RR.pv (pv_pick_f rfl rfl) rfl ?_
      refine RR.nil ?_
      refine CC.cond_t rfl ?_
      refine CC.seq ?_
      refine CC.region ?_
      refine RR.pv (pv_mv rfl) rfl ?_
      refine RR.pv (pv_mv rfl) rfl ?_
      first | refine RR.pv (pv_ixN rfl rfl st28 (by omega)) rfl ?_ | refine RR.pv (pv_ixZ rfl rfl st28 (by omega)) rfl ?_
      refine RR.pv (pv_ld rfl ct21 (hM8.ht i hlt)) rfl ?_
      refine RR.pv (pv_as rfl) rfl ?_
      refine RR.nil ?_
      refine CC.seq ?_
      refine CC.region ?_
      refine RR.pv (pv_mv rfl) rfl ?_
      refine RR.pv (pv_mv rfl) rfl ?_
      first | refine RR.pv (pv_ixN rfl rfl st28 (by omega)) rfl ?_ | refine RR.pv (pv_ixZ rfl rfl st28 (by omega)) rfl ?_
      refine RR.pv (pv_ld rfl ct21 (hM8.hb (t i) hti)) rfl ?_
      refine RR.pv (pv_sub32 rfl rfl (by omega)) rfl ?_
      rw [show ((bk (t i) : Nat) : Int) - 1 = ((bk (t i) - 1 : Nat) : Int) from by omega]
      first | refine RR.pv (pv_ixN rfl rfl st28 (by omega)) rfl ?_ | refine RR.pv (pv_ixZ rfl rfl st28 (by omega)) rfl ?_
      refine RR.st rfl rfl ct21 OneV.i (hM8.hb (t i) hti) (hM8.wb _ hti) ?_
      have hM9 := hM8.setB g hti (bk (t i) - 1)
      have hTt9 := tS.tr hTt8 (tS.b l w8 (0 + t i) (.int .i32 ((bk (t i) - 1 : Nat) : Int)))
      generalize w8.setCell _ _ = w9 at hM9 hTt9 ⊢
      refine RR.nil ?_
      have hbc : w9.cell? ⟨l.bb, 0 + t i, none⟩ = some (.int .i32 ((bk (t i) - 1 : Nat) : Int)) := by
        have := hM9.hb (t i) hti
        rw [upd_same] at this; exact this
      refine CC.region ?_
      refine RR.pv (pv_mv rfl) rfl ?_
      refine RR.pv (pv_mv rfl) rfl ?_
      refine RR.pv (pv_mv rfl) rfl ?_
      first | refine RR.pv (pv_ixN rfl rfl st28 (by omega)) rfl ?_ | refine RR.pv (pv_ixZ rfl rfl st28 (by omega)) rfl ?_
      refine RR.pv (pv_ld rfl ct21 (hbc)) rfl ?_
      refine RR.pv (pv_mv rfl) rfl ?_
      first | refine RR.pv (pv_c3_21 rfl (by omega)) rfl ?_ | refine RR.pv (pv_c3_21w rfl) rfl ?_
      first | refine RR.pv (pv_ixN rfl rfl st28 (by omega)) rfl ?_ | refine RR.pv (pv_ixZ rfl rfl st28 (by omega)) rfl ?_
      refine RR.st rfl rfl ct21 OneV.i (hM9.ha (bk (t i) - 1) hbl) (hM9.wa _ hbl) ?_
      have hM10 := hM9.setA g hbl (i : Int)
      have hTt10 := tS.tr hTt9 (tS.a l w9 hbl (.int .i32 (i : Int)))
      generalize w9.setCell _ _ = w10 at hM10 hTt10 ⊢
      refine RR.nil ?_
      refine CC.region ?_
      refine RR.pv (pv_mv rfl) rfl ?_
      first | refine RR.pv (pv_addN (n := 1) rfl rfl (by omega)) rfl ?_ | refine RR.pv (pv_add64 rfl rfl (by omega)) rfl ?_
      refine RR.pv (pv_as rfl) rfl ?_
      refine RR.nil ?_
      exact Nxt.go (i + 1, _, _) ⟨rfl, rfl, rfl, rfl, rfl, rfl, rfl, rfl, trivial⟩ ⟨by dsimp only; omega, hlt, hPI', hM10, hTt10⟩ (by dsimp only; omega)
    have hl' : lms s i = false := by simpa using hl
    have hPI' := lay_pass hPI hl'
    by_cases hsi : s i = true
    · have hsj : s (i - 1) = true := by
        cases h6 : s (i - 1) with
        | false => exact absurd (lms_iff.2 ⟨by omega, hsi, h6⟩) hl
        | true => rfl
      have hc1 : w8.cell? ⟨l.b3, 0 + i, none⟩ = some (.bool true) := by rw [← hsi]; exact hM8.hs i hlt
      have hc2 : w8.cell? ⟨l.b3, 0 + (i - 1), none⟩ = some (.bool true) := by rw [← hsj]; exact hM8.hs (i - 1) (by omega)
      refine CC.skip ?_
      refine CC.seq ?_
      refine CC.block ?_
      refine CC.seq ?_
      refine CC.region ?_
      refine RR.pv (pv_mv rfl) rfl ?_
      refine RR.pv (pv_mv rfl) rfl ?_
      first | refine RR.pv (pv_ixN rfl rfl st36 (by omega)) rfl ?_ | refine RR.pv (pv_ixZ rfl rfl st36 (by omega)) rfl ?_
      refine RR.pv (pv_ld rfl ct4 (hc1)) rfl ?_
      refine RR.pv (pv_mv rfl) rfl ?_
      first | refine RR.gy rfl rfl (pv_mv rfl) rfl ?_ | refine RR.gn rfl rfl rfl rfl ?_
      first | refine RR.gy rfl rfl (pv_mv rfl) rfl ?_ | refine RR.gn rfl rfl rfl rfl ?_
      first | refine RR.gy rfl rfl (pv_subN (n := 1) rfl rfl (by omega)) rfl ?_ | refine RR.gy rfl rfl (pv_sub64 rfl rfl (by omega)) rfl ?_ | refine RR.gn rfl rfl rfl rfl ?_
      first | refine RR.gy rfl rfl (pv_ixN rfl rfl st36 (by omega)) rfl ?_ | refine RR.gy rfl rfl (pv_ixZ rfl rfl st36 (by omega)) rfl ?_ | refine RR.gn rfl rfl rfl rfl ?_
      first | refine RR.gy rfl rfl (pv_ld rfl ct4 (hc2)) rfl ?_ | refine RR.gn rfl rfl rfl rfl ?_
      first | refine RR.gy rfl rfl (pv_not_t rfl) rfl ?_ | refine RR.gy rfl rfl (pv_not_f rfl) rfl ?_ | refine RR.gy rfl rfl (pv_not rfl) rfl ?_ | refine RR.gn rfl rfl rfl rfl ?_
      first | refine RR.pv (pv_pick_t rfl rfl) rfl ?_ | refine RR.pv (pv_pick_f rfl rfl) rfl ?_
      refine RR.nil ?_
      refine CC.cond_f rfl ?_
      refine CC.skip ?_
      refine CC.region ?_
      refine RR.pv (pv_mv rfl) rfl ?_
      first | refine RR.pv (pv_addN (n := 1) rfl rfl (by omega)) rfl ?_ | refine RR.pv (pv_add64 rfl rfl (by omega)) rfl ?_
      refine RR.pv (pv_as rfl) rfl ?_
      refine RR.nil ?_
      exact Nxt.go (i + 1, A1, bk) ⟨rfl, rfl, rfl, rfl, rfl, rfl, rfl, rfl, trivial⟩ ⟨by dsimp only; omega, hlt, hPI', hM8, hTt8⟩ (by dsimp only; omega)
    · have hsi' : s i = false := by simpa using hsi
      have hc1 : w8.cell? ⟨l.b3, 0 + i, none⟩ = some (.bool false) := by rw [← hsi']; exact hM8.hs i hlt
      refine CC.skip ?_
      refine CC.seq ?_
      refine CC.block ?_
      refine CC.seq ?_
      refine CC.region ?_
      refine RR.pv (pv_mv rfl) rfl ?_
      refine RR.pv (pv_mv rfl) rfl ?_
      first | refine RR.pv (pv_ixN rfl rfl st36 (by omega)) rfl ?_ | refine RR.pv (pv_ixZ rfl rfl st36 (by omega)) rfl ?_
      refine RR.pv (pv_ld rfl ct4 (hc1)) rfl ?_
      refine RR.pv (pv_mv rfl) rfl ?_
      first | refine RR.gy rfl rfl (pv_mv rfl) rfl ?_ | refine RR.gn rfl rfl rfl rfl ?_
      first | refine RR.gy rfl rfl (pv_mv rfl) rfl ?_ | refine RR.gn rfl rfl rfl rfl ?_
      first | refine RR.gy rfl rfl (pv_subN (n := 1) rfl rfl (by omega)) rfl ?_ | refine RR.gy rfl rfl (pv_sub64 rfl rfl (by omega)) rfl ?_ | refine RR.gn rfl rfl rfl rfl ?_
      first | refine RR.gy rfl rfl (pv_ixN rfl rfl st36 (by omega)) rfl ?_ | refine RR.gy rfl rfl (pv_ixZ rfl rfl st36 (by omega)) rfl ?_ | refine RR.gn rfl rfl rfl rfl ?_
      first | refine RR.gy rfl rfl (pv_ld rfl ct4 (hc1)) rfl ?_ | refine RR.gn rfl rfl rfl rfl ?_
      first | refine RR.gy rfl rfl (pv_not_t rfl) rfl ?_ | refine RR.gy rfl rfl (pv_not_f rfl) rfl ?_ | refine RR.gy rfl rfl (pv_not rfl) rfl ?_ | refine RR.gn rfl rfl rfl rfl ?_
      first | refine RR.pv (pv_pick_t rfl rfl) rfl ?_ | refine RR.pv (pv_pick_f rfl rfl) rfl ?_
      refine RR.nil ?_
      refine CC.cond_f rfl ?_
      refine CC.skip ?_
      refine CC.region ?_
      refine RR.pv (pv_mv rfl) rfl ?_
      first | refine RR.pv (pv_addN (n := 1) rfl rfl (by omega)) rfl ?_ | refine RR.pv (pv_add64 rfl rfl (by omega)) rfl ?_
      refine RR.pv (pv_as rfl) rfl ?_
      refine RR.nil ?_
      exact Nxt.go (i + 1, A1, bk) ⟨rfl, rfl, rfl, rfl, rfl, rfl, rfl, rfl, trivial⟩ ⟨by dsimp only; omega, hlt, hPI', hM8, hTt8⟩ (by dsimp only; omega)
  have hin : i = l.n := by omega
  subst hin
  refine CC.seq ?_
  refine CC.seq ?_
  refine CC.region ?_
  refine RR.pv (pv_mv rfl) rfl ?_
  refine RR.pv (pv_mv rfl) rfl ?_
  first | refine RR.pv (pv_lss_t rfl rfl (by omega)) rfl ?_ | refine RR.pv (pv_lss_f rfl rfl (by omega)) rfl ?_ | refine RR.pv (pv_lss rfl rfl) rfl ?_
  refine RR.nil ?_
  refine CC.cond_f rfl ?_
  refine CC.exit ?_
  have hIni := lay_done hPI
  clear hPI
  refine CC.seq ?_
  refine CC.region ?_
  refine RR.pv (pv_mv rfl) rfl ?_
  refine RR.pv (pv_mv rfl) rfl ?_
  refine RR.pv (pv_mv rfl) rfl ?_
  refine RR.pv (pv_mv rfl) rfl ?_
  refine RR.pv (pv_mv rfl) rfl ?_
  refine RR.call Try.func40 nm40 rfl rfl (induce40_any l t s A1 bk w8 hn (by omega) hkk hk g hM8 hTy hIni) rfl (fun v9 w9 hpost => ?_)
  obtain ⟨AL, bkL, A2, bk2, hLI, hSP, hM9, hTn⟩ := hpost
  have hTt9 := tS.tr hTt8 hTn
  clear hTn hTt8 hM8
  refine RR.nil ?_
  -- the LMS positions gathered
  obtain ⟨hrng, hinj, hall2⟩ := Sa.permA hTy hIni hk hLI hSP
  obtain ⟨Fl, hFl⟩ : ∃ Fl : Nat → Bool, ∀ y, Fl y = lms s (A2 y).toNat := ⟨_, fun _ => rfl⟩
  refine CC.seq ?_
  refine CC.region ?_
  refine RR.pv (pv_as rfl) rfl ?_
  refine RR.nil ?_
  refine CC.seq ?_
  refine CC.seq ?_
  refine CC.region ?_
  refine RR.pv (pv_mv rfl) rfl ?_
  refine RR.pv (pv_len rfl st28) rfl ?_
  refine RR.pv (pv_mv rfl) rfl ?_
  refine RR.nil ?_
  refine CC.block ?_
  refine CC.loop (γ := Nat × (Nat → Int)) (F := fun g => [(0, .slice (some ⟨l.bt, l.ot, none⟩) l.n l.ct), (1, .slice (some ⟨l.bs, l.os, none⟩) l.n l.cs), (2, .int .i64 (l.k : Int)), (6, .int .i64 (l.n : Int)), (7, .slice (some ⟨l.b3, 0, none⟩) l.n l.n), (9, .slice (some ⟨l.bc, 0, none⟩) l.k l.k), (12, .slice (some ⟨l.bb, 0, none⟩) l.k l.k), (16, .int .i64 ((cnt Fl g.1 : Nat) : Int)), (155, .slice (some ⟨l.bs, l.os, none⟩) l.n l.cs), (156, .int .i64 (l.n : Int)), (157, .int .i64 (g.1 : Int))])
    (I := fun g w' => g.1 ≤ l.n ∧ GI l.n Fl A2 g.1 g.2 ∧ M5 .i32 l t s (Nc l.n t) g.2 bk2 w' ∧ Touch (tS l) w w') (μ := fun g => l.n - g.1) (0, A2)
    ⟨rfl, rfl, rfl, rfl, rfl, rfl, rfl, rfl, rfl, rfl, rfl, trivial⟩
    ⟨Nat.zero_le _, GI.start, hM9, hTt9⟩ ?_
  clear hM9 hTt9
  rintro ⟨x, A3⟩ w10 ⟨hx, hGI, hM10, hTt10⟩
  dsimp only at hx hGI hM10 ⊢
  by_cases hlt : x < l.n
  · obtain ⟨p, hpn, hp⟩ := hrng x hlt
    have hcell : w10.cell? ⟨l.bs, l.os + x, none⟩ = some (.int .i32 (p : Int)) := by rw [← hp, ← hGI.rest x (Nat.le_refl _) hlt]; exact hM10.ha x hlt
    have hFx : Fl x = lms s p := by rw [hFl, hp]; rfl
    refine CC.seq ?_
    refine CC.region ?_
    first | refine RR.pv (pv_lss_t rfl rfl (by omega)) rfl ?_ | refine RR.pv (pv_lss_f rfl rfl (by omega)) rfl ?_ | refine RR.pv (pv_lss rfl rfl) rfl ?_
    refine RR.nil ?_
    refine CC.seq ?_
    refine CC.cond_t rfl ?_
    refine CC.skip ?_
    refine CC.seq ?_
    refine CC.block ?_
    refine CC.seq ?_
    refine CC.region ?_
    first | refine RR.pv (pv_ixN rfl rfl st28 (by omega)) rfl ?_ | refine RR.pv (pv_ixZ rfl rfl st28 (by omega)) rfl ?_
    refine RR.pv (pv_ld rfl ct21 (hcell)) rfl ?_
    refine RR.pv (pv_as rfl) rfl ?_
    refine RR.nil ?_
    by_cases hl : lms s p = true
    · have hll := lms_iff.1 hl
      have hc1 : w10.cell? ⟨l.b3, 0 + p, none⟩ = some (.bool true) := by rw [← hll.2.1]; exact hM10.hs p hpn
      have hc2 : w10.cell? ⟨l.b3, 0 + (p - 1), none⟩ = some (.bool false) := by rw [← hll.2.2]; exact hM10.hs (p - 1) (by omega)
      obtain ⟨hle, hcn, hGI'⟩ := hGI.push (by rw [hFx]; exact hl)
      rw [hp] at hGI'
      have hlt' : cnt Fl x < l.n := by omega
      have hp0 := hll.1
      refine CC.seq ?_
      refine CC.region ?_
      refine RR.pv (pv_mv rfl) rfl ?_
      first | refine RR.pv (pv_gtr_t rfl rfl (by omega)) rfl ?_ | refine RR.pv (pv_gtr_f rfl rfl (by omega)) rfl ?_ | refine RR.pv (pv_gtr rfl rfl) rfl ?_
      refine RR.pv (pv_mv rfl) rfl ?_
      first | refine RR.gy rfl rfl (pv_mv rfl) rfl ?_ | refine RR.gn rfl rfl rfl rfl ?_
      first | refine RR.gy rfl rfl (pv_mv rfl) rfl ?_ | refine RR.gn rfl rfl rfl rfl ?_
      first | refine RR.gy rfl rfl (pv_ixN rfl rfl st36 (by omega)) rfl ?_ | refine RR.gy rfl rfl (pv_ixZ rfl rfl st36 (by omega)) rfl ?_ | refine RR.gn rfl rfl rfl rfl ?_
      first | refine RR.gy rfl rfl (pv_ld rfl ct4 (hc1)) rfl ?_ | refine RR.gn rfl rfl rfl rfl ?_
      first | refine RR.pv (pv_pick_t rfl rfl) rfl ?_ | refine RR.pv (pv_pick_f rfl rfl) rfl ?_
      refine RR.pv (pv_mv rfl) rfl ?_
      first | refine RR.gy rfl rfl (pv_mv rfl) rfl ?_ | refine RR.gn rfl rfl rfl rfl ?_
      first | refine RR.gy rfl rfl (pv_mv rfl) rfl ?_ | refine RR.gn rfl rfl rfl rfl ?_
      first | refine RR.gy rfl rfl (pv_sub32 rfl rfl (by omega)) rfl ?_ | refine RR.gn rfl rfl rfl rfl ?_
      rw [show (p : Int) - 1 = ((p - 1 : Nat) : Int) from by omega]
      first | refine RR.gy rfl rfl (pv_ixN rfl rfl st36 (by omega)) rfl ?_ | refine RR.gy rfl rfl (pv_ixZ rfl rfl st36 (by omega)) rfl ?_ | refine RR.gn rfl rfl rfl rfl ?_
      first | refine RR.gy rfl rfl (pv_ld rfl ct4 (hc2)) rfl ?_ | refine RR.gn rfl rfl rfl rfl ?_
      first | refine RR.gy rfl rfl (pv_not_t rfl) rfl ?_ | refine RR.gy rfl rfl (pv_not_f rfl) rfl ?_ | refine RR.gy rfl rfl (pv_not rfl) rfl ?_ | refine RR.gn rfl rfl rfl rfl ?_
      first | refine RR.pv (pv_pick_t rfl rfl) rfl ?_ | refine RR.pv (pv_pick_f rfl rfl) rfl ?_
      refine RR.nil ?_
      refine CC.cond_t rfl ?_
      refine CC.seq ?_
      refine CC.region ?_
      refine RR.pv (pv_mv rfl) rfl ?_
      refine RR.pv (pv_mv rfl) rfl ?_
      refine RR.pv (pv_mv rfl) rfl ?_
      first | refine RR.pv (pv_ixN rfl rfl st28 (by omega)) rfl ?_ | refine RR.pv (pv_ixZ rfl rfl st28 (by omega)) rfl ?_
      refine RR.st rfl rfl ct21 OneV.i (hM10.ha (cnt Fl x) hlt') (hM10.wa _ hlt') ?_
      refine RR.nil ?_
      refine CC.region ?_
      refine RR.pv (pv_mv rfl) rfl ?_
      first | refine RR.pv (pv_addN (n := 1) rfl rfl (by omega)) rfl ?_ | refine RR.pv (pv_add64 rfl rfl (by omega)) rfl ?_
      refine RR.pv (pv_as rfl) rfl ?_
      refine RR.nil ?_
      refine CC.region ?_
      first | refine RR.pv (pv_addN (n := 1) rfl rfl (by omega)) rfl ?_ | refine RR.pv (pv_add64 rfl rfl (by omega)) rfl ?_
      refine RR.pv (pv_mv rfl) rfl ?_
      refine RR.nil ?_
      refine Nxt.go (x + 1, _) ⟨rfl, rfl, rfl, rfl, rfl, rfl, rfl, ?_, rfl, rfl, rfl, trivial⟩ ⟨hlt, hGI', hM10.setA g hlt' _, tS.tr hTt10 (tS.a l w10 hlt' _)⟩ (by dsimp only; omega)
      dsimp only
      rw [hcn]; rfl
    have hl' : lms s p = false := by simpa using hl
    obtain ⟨hcn, hGI'⟩ := hGI.pass (by rw [hFx]; exact hl')
    by_cases hp0 : p = 0
    · subst hp0
      refine CC.seq ?_
      refine CC.region ?_
      refine RR.pv (pv_mv rfl) rfl ?_
      first | refine RR.pv (pv_gtr_t rfl rfl (by omega)) rfl ?_ | refine RR.pv (pv_gtr_f rfl rfl (by omega)) rfl ?_ | refine RR.pv (pv_gtr rfl rfl) rfl ?_
      refine RR.pv (pv_mv rfl) rfl ?_
      first | refine RR.gy rfl rfl (pv_mv rfl) rfl ?_ | refine RR.gn rfl rfl rfl rfl ?_
      first | refine RR.gy rfl rfl (pv_mv rfl) rfl ?_ | refine RR.gn rfl rfl rfl rfl ?_
      first | refine RR.gy rfl rfl (pv_ixN rfl rfl st36 (by omega)) rfl ?_ | refine RR.gy rfl rfl (pv_ixZ rfl rfl st36 (by omega)) rfl ?_ | refine RR.gn rfl rfl rfl rfl ?_
      first | refine RR.gy rfl rfl (pv_ld rfl ct4 (HOLE)) rfl ?_ | refine RR.gn rfl rfl rfl rfl ?_
      first | refine RR.pv (pv_pick_t rfl rfl) rfl ?_ | refine RR.pv (pv_pick_f rfl rfl) rfl ?_
      refine RR.pv (pv_mv rfl) rfl ?_
      first | refine RR.gy rfl rfl (pv_mv rfl) rfl ?_ | refine RR.gn rfl rfl rfl rfl ?_
      first | refine RR.gy rfl rfl (pv_mv rfl) rfl ?_ | refine RR.gn rfl rfl rfl rfl ?_
      first | refine RR.gy rfl rfl (pv_sub32 rfl rfl (by omega)) rfl ?_ | refine RR.gn rfl rfl rfl rfl ?_
      first | refine RR.gy rfl rfl (pv_ixN rfl rfl st36 (by omega)) rfl ?_ | refine RR.gy rfl rfl (pv_ixZ rfl rfl st36 (by omega)) rfl ?_ | refine RR.gn rfl rfl rfl rfl ?_
      first | refine RR.gy rfl rfl (pv_ld rfl ct4 (HOLE)) rfl ?_ | refine RR.gn rfl rfl rfl rfl ?_
      first | refine RR.gy rfl rfl (pv_not_t rfl) rfl ?_ | refine RR.gy rfl rfl (pv_not_f rfl) rfl ?_ | refine RR.gy rfl rfl (pv_not rfl) rfl ?_ | refine RR.gn rfl rfl rfl rfl ?_
      first | refine RR.pv (pv_pick_t rfl rfl) rfl ?_ | refine RR.pv (pv_pick_f rfl rfl) rfl ?_
      refine RR.nil ?_
      refine CC.cond_f rfl ?_
      refine CC.skip ?_
      refine CC.region ?_
      first | refine RR.pv (pv_addN (n := 1) rfl rfl (by omega)) rfl ?_ | refine RR.pv (pv_add64 rfl rfl (by omega)) rfl ?_
      refine RR.pv (pv_mv rfl) rfl ?_
      refine RR.nil ?_
      refine Nxt.go (x + 1, A3) ⟨rfl, rfl, rfl, rfl, rfl, rfl, rfl, ?_, rfl, rfl, rfl, trivial⟩ ⟨hlt, hGI', hM10, hTt10⟩ (by dsimp only; omega)
      dsimp only
      rw [hcn]; rfl
    by_cases hsp : s p = true
    · have hsj : s (p - 1) = true := by
        cases h6 : s (p - 1) with
        | false => exact absurd (lms_iff.2 ⟨by omega, hsp, h6⟩) hl
        | true => rfl
      have hc1 : w10.cell? ⟨l.b3, 0 + p, none⟩ = some (.bool true) := by rw [← hsp]; exact hM10.hs p hpn
      have hc2 : w10.cell? ⟨l.b3, 0 + (p - 1), none⟩ = some (.bool true) := by rw [← hsj]; exact hM10.hs (p - 1) (by omega)
      refine CC.seq ?_
      refine CC.region ?_
      refine RR.pv (pv_mv rfl) rfl ?_
      first | refine RR.pv (pv_gtr_t rfl rfl (by omega)) rfl ?_ | refine RR.pv (pv_gtr_f rfl rfl (by omega)) rfl ?_ | refine RR.pv (pv_gtr rfl rfl) rfl ?_
      refine RR.pv (pv_mv rfl) rfl ?_
      first | refine RR.gy rfl rfl (pv_mv rfl) rfl ?_ | refine RR.gn rfl rfl rfl rfl ?_
      first | refine RR.gy rfl rfl (pv_mv rfl) rfl ?_ | refine RR.gn rfl rfl rfl rfl ?_
      first | refine RR.gy rfl rfl (pv_ixN rfl rfl st36 (by omega)) rfl ?_ | refine RR.gy rfl rfl (pv_ixZ rfl rfl st36 (by omega)) rfl ?_ | refine RR.gn rfl rfl rfl rfl ?_
      first | refine RR.gy rfl rfl (pv_ld rfl ct4 (hc1)) rfl ?_ | refine RR.gn rfl rfl rfl rfl ?_
      first | refine RR.pv (pv_pick_t rfl rfl) rfl ?_ | refine RR.pv (pv_pick_f rfl rfl) rfl ?_
      refine RR.pv (pv_mv rfl) rfl ?_
      first | refine RR.gy rfl rfl (pv_mv rfl) rfl ?_ | refine RR.gn rfl rfl rfl rfl ?_
      first | refine RR.gy rfl rfl (pv_mv rfl) rfl ?_ | refine RR.gn rfl rfl rfl rfl ?_
      first | refine RR.gy rfl rfl (pv_sub32 rfl rfl (by omega)) rfl ?_ | refine RR.gn rfl rfl rfl rfl ?_
      rw [show (p : Int) - 1 = ((p - 1 : Nat) : Int) from by omega]
      first | refine RR.gy rfl rfl (pv_ixN rfl rfl st36 (by omega)) rfl ?_ | refine RR.gy rfl rfl (pv_ixZ rfl rfl st36 (by omega)) rfl ?_ | refine RR.gn rfl rfl rfl rfl ?_
      first | refine RR.gy rfl rfl (pv_ld rfl ct4 (hc2)) rfl ?_ | refine RR.gn rfl rfl rfl rfl ?_
      first | refine RR.gy rfl rfl (pv_not_t rfl) rfl ?_ | refine RR.gy rfl rfl (pv_not_f rfl) rfl ?_ | refine RR.gy rfl rfl (pv_not rfl) rfl ?_ | refine RR.gn rfl rfl rfl rfl ?_
      first | refine RR.pv (pv_pick_t rfl rfl) rfl ?_ | refine RR.pv (pv_pick_f rfl rfl) rfl ?_
      refine RR.nil ?_
      refine CC.cond_f rfl ?_
      refine CC.skip ?_
      refine CC.region ?_
      first | refine RR.pv (pv_addN (n := 1) rfl rfl (by omega)) rfl ?_ | refine RR.pv (pv_add64 rfl rfl (by omega)) rfl ?_
      refine RR.pv (pv_mv rfl) rfl ?_
      refine RR.nil ?_
      refine Nxt.go (x + 1, A3) ⟨rfl, rfl, rfl, rfl, rfl, rfl, rfl, ?_, rfl, rfl, rfl, trivial⟩ ⟨hlt, hGI', hM10, hTt10⟩ (by dsimp only; omega)
      dsimp only
      rw [hcn]; rfl
    · have hsp' : s p = false := by simpa using hsp
      have hc1 : w10.cell? ⟨l.b3, 0 + p, none⟩ = some (.bool false) := by rw [← hsp']; exact hM10.hs p hpn
      refine CC.seq ?_
      refine CC.region ?_
      refine RR.pv (pv_mv rfl) rfl ?_
      first | refine RR.pv (pv_gtr_t rfl rfl (by omega)) rfl ?_ | refine RR.pv (pv_gtr_f rfl rfl (by omega)) rfl ?_ | refine RR.pv (pv_gtr rfl rfl) rfl ?_
      refine RR.pv (pv_mv rfl) rfl ?_
      first | refine RR.gy rfl rfl (pv_mv rfl) rfl ?_ | refine RR.gn rfl rfl rfl rfl ?_
      first | refine RR.gy rfl rfl (pv_mv rfl) rfl ?_ | refine RR.gn rfl rfl rfl rfl ?_
      first | refine RR.gy rfl rfl (pv_ixN rfl rfl st36 (by omega)) rfl ?_ | refine RR.gy rfl rfl (pv_ixZ rfl rfl st36 (by omega)) rfl ?_ | refine RR.gn rfl rfl rfl rfl ?_
      first | refine RR.gy rfl rfl (pv_ld rfl ct4 (hc1)) rfl ?_ | refine RR.gn rfl rfl rfl rfl ?_
      first | refine RR.pv (pv_pick_t rfl rfl) rfl ?_ | refine RR.pv (pv_pick_f rfl rfl) rfl ?_
      refine RR.pv (pv_mv rfl) rfl ?_
      first | refine RR.gy rfl rfl (pv_mv rfl) rfl ?_ | refine RR.gn rfl rfl rfl rfl ?_
      first | refine RR.gy rfl rfl (pv_mv rfl) rfl ?_ | refine RR.gn rfl rfl rfl rfl ?_
      first | refine RR.gy rfl rfl (pv_sub32 rfl rfl (by omega)) rfl ?_ | refine RR.gn rfl rfl rfl rfl ?_
      first | refine RR.gy rfl rfl (pv_ixN rfl rfl st36 (by omega)) rfl ?_ | refine RR.gy rfl rfl (pv_ixZ rfl rfl st36 (by omega)) rfl ?_ | refine RR.gn rfl rfl rfl rfl ?_
      first | refine RR.gy rfl rfl (pv_ld rfl ct4 (hc1)) rfl ?_ | refine RR.gn rfl rfl rfl rfl ?_
      first | refine RR.gy rfl rfl (pv_not_t rfl) rfl ?_ | refine RR.gy rfl rfl (pv_not_f rfl) rfl ?_ | refine RR.gy rfl rfl (pv_not rfl) rfl ?_ | refine RR.gn rfl rfl rfl rfl ?_
      first | refine RR.pv (pv_pick_t rfl rfl) rfl ?_ | refine RR.pv (pv_pick_f rfl rfl) rfl ?_
      refine RR.nil ?_
      refine CC.cond_f rfl ?_
      refine CC.skip ?_
      refine CC.region ?_
      first | refine RR.pv (pv_addN (n := 1) rfl rfl (by omega)) rfl ?_ | refine RR.pv (pv_add64 rfl rfl (by omega)) rfl ?_
      refine RR.pv (pv_mv rfl) rfl ?_
      refine RR.nil ?_
      refine Nxt.go (x + 1, A3) ⟨rfl, rfl, rfl, rfl, rfl, rfl, rfl, ?_, rfl, rfl, rfl, trivial⟩ ⟨hlt, hGI', hM10, hTt10⟩ (by dsimp only; omega)
      dsimp only
      rw [hcn]; rfl
  have hxn : x = l.n := by omega
  subst hxn
  refine CC.seq ?_
  refine CC.region ?_
  first | refine RR.pv (pv_lss_t rfl rfl (by omega)) rfl ?_ | refine RR.pv (pv_lss_f rfl rfl (by omega)) rfl ?_ | refine RR.pv (pv_lss rfl rfl) rfl ?_
  refine RR.nil ?_
  refine CC.seq ?_
  refine CC.cond_f rfl ?_
  refine CC.exit ?_
  obtain ⟨gg, hgg⟩ : ∃ gg : Nat → Nat, ∀ j, gg j = (A3 j).toNat := ⟨_, fun _ => rfl⟩
  obtain ⟨hG, hmc⟩ := gat_of hTy hIni hk hLI hSP (F := Fl) (g := gg) (fun j p hj e => by rw [hFl, e]; rfl) (fun y hy hFy => by
    obtain ⟨p, hpn, hp⟩ := hrng y hy
    rw [hgg, hGI.done y hy hFy, hp]; rfl)
  have hA3 : ∀ j, j < cnt Fl l.n → A3 j = (gg j : Int) := fun j hj => by
    obtain ⟨y, h1, h2, h3⟩ := cnt_onto l.n j hj
    obtain ⟨p, hpn, hp⟩ := hrng y h1
    have := hGI.done y h1 h2
    rw [h3, hp] at this
    rw [hgg, this]; rfl
  generalize cnt Fl l.n = m at hG hmc hA3 ⊢
  have hmm := lms_count hTy
  rw [← hmc] at hmm
  clear hGI hFl hrng hinj hall2 hLI hSP hIni
  refine CC.seq ?_
  refine CC.seq ?_
  refine CC.region ?_
  refine RR.pv (pv_mv rfl) rfl ?_
  refine RR.pv (pv_as rfl) rfl ?_
  refine RR.nil ?_
  refine CC.block ?_
  refine CC.loop (γ := Nat × (Nat → Int)) (F := fun g => [(0, .slice (some ⟨l.bt, l.ot, none⟩) l.n l.ct), (1, .slice (some ⟨l.bs, l.os, none⟩) l.n l.cs), (2, .int .i64 (l.k : Int)), (6, .int .i64 (l.n : Int)), (7, .slice (some ⟨l.b3, 0, none⟩) l.n l.n), (9, .slice (some ⟨l.bc, 0, none⟩) l.k l.k), (12, .slice (some ⟨l.bb, 0, none⟩) l.k l.k), (16, .int .i64 (m : Int)), (19, .int .i64 (g.1 : Int))])
    (I := fun g w' => m ≤ g.1 ∧ g.1 ≤ l.n ∧ (∀ j, j < m → g.2 j = (gg j : Int)) ∧ (∀ j, m ≤ j → j < g.1 → g.2 j = -1) ∧ M5 .i32 l t s (Nc l.n t) g.2 bk2 w' ∧ Touch (tS l) w w') (μ := fun g => l.n - g.1) (m, A3)
    ⟨rfl, rfl, rfl, rfl, rfl, rfl, rfl, rfl, rfl, trivial⟩
    ⟨Nat.le_refl _, by dsimp only; omega, hA3, fun j h1 h2 => by dsimp only at h2; omega, hM10, hTt10⟩ ?_
  clear hM10 hTt10 hA3 hgg
  rintro ⟨x, A4⟩ w11 ⟨hx1, hx, hlo, hhi, hM11, hTt11⟩
  dsimp only at hx1 hx hlo hhi hM11 ⊢
  by_cases hlt : x < l.n
  · refine CC.seq ?_
    refine CC.seq ?_
    refine CC.region ?_
    refine RR.pv (pv_mv rfl) rfl ?_
    refine RR.pv (pv_mv rfl) rfl ?_
    first | refine RR.pv (pv_lss_t rfl rfl (by omega)) rfl ?_ | refine RR.pv (pv_lss_f rfl rfl (by omega)) rfl ?_ | refine RR.pv (pv_lss rfl rfl) rfl ?_
    refine RR.nil ?_
    refine CC.cond_t rfl ?_
    refine CC.skip ?_
    refine CC.seq ?_
    refine CC.block ?_
    refine CC.region ?_
    refine RR.pv (pv_mv rfl) rfl ?_
    refine RR.pv (pv_mv rfl) rfl ?_
    first | refine RR.pv (pv_ixN rfl rfl st28 (by omega)) rfl ?_ | refine RR.pv (pv_ixZ rfl rfl st28 (by omega)) rfl ?_
    refine RR.st rfl rfl ct21 OneV.i (hM11.ha x hlt) (hM11.wa _ hlt) ?_
    refine RR.nil ?_
    refine CC.region ?_
    refine RR.pv (pv_mv rfl) rfl ?_
    first | refine RR.pv (pv_addN (n := 1) rfl rfl (by omega)) rfl ?_ | refine RR.pv (pv_add64 rfl rfl (by omega)) rfl ?_
    refine RR.pv (pv_as rfl) rfl ?_
    refine RR.nil ?_
    refine Nxt.go (x + 1, upd A4 x (-1)) ⟨rfl, rfl, rfl, rfl, rfl, rfl, rfl, rfl, rfl, trivial⟩ ⟨by dsimp only; omega, hlt, fun j hj => ?_, fun j h1 h2 => ?_, hM11.setA g hlt _, tS.tr hTt11 (tS.a l w11 hlt _)⟩ (by dsimp only; omega)
    · dsimp only; rw [upd_ne _ _ (by omega)]; exact hlo j hj
    · dsimp only at h2 ⊢
      by_cases e : j = x
      · subst e; rw [upd_same]
      · rw [upd_ne _ _ e]; exact hhi j h1 (by omega)
  have hxn : x = l.n := by omega
  subst hxn
  refine CC.seq ?_
  refine CC.seq ?_
  refine CC.region ?_
  refine RR.pv (pv_mv rfl) rfl ?_
  refine RR.pv (pv_mv rfl) rfl ?_
  first | refine RR.pv (pv_lss_t rfl rfl (by omega)) rfl ?_ | refine RR.pv (pv_lss_f rfl rfl (by omega)) rfl ?_ | refine RR.pv (pv_lss rfl rfl) rfl ?_
  refine RR.nil ?_
  refine CC.cond_f rfl ?_
  refine CC.exit ?_
  -- the names
  obtain ⟨nm, hnm'⟩ := names_ex l.n t s gg
  have hnm := hnm' m
  clear hnm'
  obtain ⟨nv, hnv0, hnvS⟩ : ∃ nv : Nat → Nat, nv 0 = 0 ∧ ∀ j, nv (j + 1) = nm j + 1 := ⟨fun j => if j = 0 then 0 else nm (j - 1) + 1, by simp, by simp⟩
  have hnle : ∀ j, j < m → nm j ≤ j := fun j hj => by
    have := hnm.mono j 0 (by omega)
    rw [hnm.zero, Nat.zero_add] at this
    omega
  have hNI0 : NI l.n m gg nm 0 A4 := NI.start hlo (fun x h1 h2 => hhi x h1 h2)
  refine CC.seq ?_
  refine CC.region ?_
  refine RR.pv (pv_as rfl) rfl ?_
  refine RR.nil ?_
  refine CC.seq ?_
  refine CC.seq ?_
  refine CC.region ?_
  refine RR.pv (pv_mv rfl) rfl ?_
  refine RR.pv (pv_mv rfl) rfl ?_
  refine RR.nil ?_
  refine CC.block ?_
  refine CC.loop (γ := Nat × (Nat → Int)) (F := fun g => [(0, .slice (some ⟨l.bt, l.ot, none⟩) l.n l.ct), (1, .slice (some ⟨l.bs, l.os, none⟩) l.n l.cs), (2, .int .i64 (l.k : Int)), (6, .int .i64 (l.n : Int)), (7, .slice (some ⟨l.b3, 0, none⟩) l.n l.n), (9, .slice (some ⟨l.bc, 0, none⟩) l.k l.k), (12, .slice (some ⟨l.bb, 0, none⟩) l.k l.k), (16, .int .i64 (m : Int)), (193, .int .i64 (m : Int)), (194, .int .i64 (g.1 : Int)), (20, .int .i32 ((nv g.1 : Nat) : Int))])
    (I := fun g w' => g.1 ≤ m ∧ NI l.n m gg nm g.1 g.2 ∧ M5 .i32 l t s (Nc l.n t) g.2 bk2 w' ∧ Touch (tS l) w w') (μ := fun g => m - g.1) (0, A4)
    ⟨rfl, rfl, rfl, rfl, rfl, rfl, rfl, rfl, rfl, rfl, by dsimp only; rw [hnv0]; rfl, trivial⟩
    ⟨Nat.zero_le _, hNI0, hM11, hTt11⟩ ?_
  clear hM11 hTt11 hNI0 hlo hhi
  rintro ⟨j, A5⟩ w12 ⟨hj, hNI, hM12, hTt12⟩
  dsimp only at hj hNI hM12 ⊢
  by_cases hlt : j < m
  · have hgj := (hG.lms j hlt).1
    have hcj : w12.cell? ⟨l.bs, l.os + j, none⟩ = some (.int .i32 ((gg j : Nat) : Int)) := by rw [← hNI.lo j hlt]; exact hM12.ha j (by omega)
    have hroom := hG.room hTy hmc hlt
    have hnj := hnle j hlt
    refine CC.seq ?_
    refine CC.region ?_
    first | refine RR.pv (pv_lss_t rfl rfl (by omega)) rfl ?_ | refine RR.pv (pv_lss_f rfl rfl (by omega)) rfl ?_ | refine RR.pv (pv_lss rfl rfl) rfl ?_
    refine RR.nil ?_
    refine CC.seq ?_
    refine CC.cond_t rfl ?_
    refine CC.skip ?_
    refine CC.seq ?_
    refine CC.block ?_
    refine CC.seq ?_
    refine CC.region ?_
    refine RR.pv (pv_mv rfl) rfl ?_
    refine RR.pv (pv_as rfl) rfl ?_
    refine RR.nil ?_
    refine CC.seqCut (γ := Unit) (fun _ => [(0, .slice (some ⟨l.bt, l.ot, none⟩) l.n l.ct), (1, .slice (some ⟨l.bs, l.os, none⟩) l.n l.cs), (2, .int .i64 (l.k : Int)), (6, .int .i64 (l.n : Int)), (7, .slice (some ⟨l.b3, 0, none⟩) l.n l.n), (9, .slice (some ⟨l.bc, 0, none⟩) l.k l.k), (12, .slice (some ⟨l.bb, 0, none⟩) l.k l.k), (16, .int .i64 (m : Int)), (193, .int .i64 (m : Int)), (194, .int .i64 (j : Int)), (20, .int .i32 ((nm j + 1 : Nat) : Int)), (21, .int .i64 (j : Int))])
      (fun _ w' => w' = w12) ?_ ?_
    · by_cases hj0 : j = 0
      · subst hj0
        refine CC.seq ?_
        refine CC.regionQ (by decide +kernel) ?_
        refine RR.pv (pv_mv rfl) rfl ?_
        first | refine RR.pv (pv_eql_t rfl rfl (by omega)) rfl ?_ | refine RR.pv (pv_eql_f rfl rfl (by omega)) rfl ?_ | refine RR.pv (pv_eql rfl rfl) rfl ?_
        refine RR.pv (pv_mv rfl) rfl ?_
        first | refine RR.gy rfl rfl (pv_mv rfl) rfl ?_ | refine RR.gn rfl rfl rfl rfl ?_
        first | refine RR.gy rfl rfl (pv_mv rfl) rfl ?_ | refine RR.gn rfl rfl rfl rfl ?_
        first | refine RR.gy rfl rfl (pv_mv rfl) rfl ?_ | refine RR.gn rfl rfl rfl rfl ?_
        first | refine RR.gy rfl rfl (pv_mv rfl) rfl ?_ | refine RR.gn rfl rfl rfl rfl ?_
        first | refine RR.gy rfl rfl (pv_subN (n := 1) rfl rfl (by omega)) rfl ?_ | refine RR.gy rfl rfl (pv_sub64 rfl rfl (by omega)) rfl ?_ | refine RR.gn rfl rfl rfl rfl ?_
        first | refine RR.gy rfl rfl (pv_ixN rfl rfl st28 (by omega)) rfl ?_ | refine RR.gy rfl rfl (pv_ixZ rfl rfl st28 (by omega)) rfl ?_ | refine RR.gn rfl rfl rfl rfl ?_
        first | refine RR.gy rfl rfl (pv_ld rfl ct21 (HOLE)) rfl ?_ | refine RR.gn rfl rfl rfl rfl ?_
        first | refine RR.gy rfl rfl (pv_c21_3 rfl (by omega)) rfl ?_ | refine RR.gn rfl rfl rfl rfl ?_
        first | refine RR.gy rfl rfl (pv_mv rfl) rfl ?_ | refine RR.gn rfl rfl rfl rfl ?_
        first | refine RR.gy rfl rfl (pv_mv rfl) rfl ?_ | refine RR.gn rfl rfl rfl rfl ?_
        first | refine RR.gy rfl rfl (pv_ixN rfl rfl st28 (by omega)) rfl ?_ | refine RR.gy rfl rfl (pv_ixZ rfl rfl st28 (by omega)) rfl ?_ | refine RR.gn rfl rfl rfl rfl ?_
        first | refine RR.gy rfl rfl (pv_ld rfl ct21 (HOLE)) rfl ?_ | refine RR.gn rfl rfl rfl rfl ?_
        first | refine RR.gy rfl rfl (pv_c21_3 rfl (by omega)) rfl ?_ | refine RR.gn rfl rfl rfl rfl ?_
        refine RR.gn rfl rfl rfl rfl ?_
        first | refine RR.gy rfl rfl (pv_not_t rfl) rfl ?_ | refine RR.gy rfl rfl (pv_not_f rfl) rfl ?_ | refine RR.gy rfl rfl (pv_not rfl) rfl ?_ | refine RR.gn rfl rfl rfl rfl ?_
        first | refine RR.pv (pv_pick_t rfl rfl) rfl ?_ | refine RR.pv (pv_pick_f rfl rfl) rfl ?_
        refine RR.nil ?_
        refine CC.cond_t rfl ?_
        rw [hnv0]
        refine CC.region ?_
        refine RR.pv (pv_mv rfl) rfl ?_
        refine RR.pv (pv_add32 rfl rfl (by omega)) rfl ?_
        refine RR.pv (pv_as rfl) rfl ?_
        refine RR.nil ?_
        refine CutQ.go () ⟨rfl, rfl, rfl, rfl, rfl, rfl, rfl, rfl, rfl, rfl, ?_, rfl, trivial⟩ rfl
        rw [hnm.zero]; rfl
      · obtain ⟨i, rfl⟩ : ∃ i, j = i + 1 := ⟨j - 1, by omega⟩
        have hgi := (hG.lms i (by omega)).1
        have hci : w12.cell? ⟨l.bs, l.os + i, none⟩ = some (.int .i32 ((gg i : Nat) : Int)) := by rw [← hNI.lo i (by omega)]; exact hM12.ha i (by omega)
        obtain ⟨r, hr⟩ : ∃ r : Bool, r = true ↔ Eq2 l.n t s (gg i) (gg (i + 1)) := by
          by_cases hE : Eq2 l.n t s (gg i) (gg (i + 1))
          · exact ⟨true, by simp [hE]⟩
          · exact ⟨false, by simp [hE]⟩
        rw [hnvS]
        have hni := hnle i (by omega)
        refine CC.seq ?_
        refine CC.regionQ (by decide +kernel) ?_
        refine RR.pv (pv_mv rfl) rfl ?_
        first | refine RR.pv (pv_eql_t rfl rfl (by omega)) rfl ?_ | refine RR.pv (pv_eql_f rfl rfl (by omega)) rfl ?_ | refine RR.pv (pv_eql rfl rfl) rfl ?_
        refine RR.pv (pv_mv rfl) rfl ?_
        first | refine RR.gy rfl rfl (pv_mv rfl) rfl ?_ | refine RR.gn rfl rfl rfl rfl ?_
        first | refine RR.gy rfl rfl (pv_mv rfl) rfl ?_ | refine RR.gn rfl rfl rfl rfl ?_
        first | refine RR.gy rfl rfl (pv_mv rfl) rfl ?_ | refine RR.gn rfl rfl rfl rfl ?_
        first | refine RR.gy rfl rfl (pv_mv rfl) rfl ?_ | refine RR.gn rfl rfl rfl rfl ?_
        first | refine RR.gy rfl rfl (pv_subN (n := 1) rfl rfl (by omega)) rfl ?_ | refine RR.gy rfl rfl (pv_sub64 rfl rfl (by omega)) rfl ?_ | refine RR.gn rfl rfl rfl rfl ?_
        rw [show i + 1 - 1 = i from by omega]
        first | refine RR.gy rfl rfl (pv_ixN rfl rfl st28 (by omega)) rfl ?_ | refine RR.gy rfl rfl (pv_ixZ rfl rfl st28 (by omega)) rfl ?_ | refine RR.gn rfl rfl rfl rfl ?_
        first | refine RR.gy rfl rfl (pv_ld rfl ct21 (hci)) rfl ?_ | refine RR.gn rfl rfl rfl rfl ?_
        first | refine RR.gy rfl rfl (pv_c21_3 rfl (by omega)) rfl ?_ | refine RR.gn rfl rfl rfl rfl ?_
        first | refine RR.gy rfl rfl (pv_mv rfl) rfl ?_ | refine RR.gn rfl rfl rfl rfl ?_
        first | refine RR.gy rfl rfl (pv_mv rfl) rfl ?_ | refine RR.gn rfl rfl rfl rfl ?_
        first | refine RR.gy rfl rfl (pv_ixN rfl rfl st28 (by omega)) rfl ?_ | refine RR.gy rfl rfl (pv_ixZ rfl rfl st28 (by omega)) rfl ?_ | refine RR.gn rfl rfl rfl rfl ?_
        first | refine RR.gy rfl rfl (pv_ld rfl ct21 (hcj)) rfl ?_ | refine RR.gn rfl rfl rfl rfl ?_
        first | refine RR.gy rfl rfl (pv_c21_3 rfl (by omega)) rfl ?_ | refine RR.gn rfl rfl rfl rfl ?_
        refine RR.callG rfl rfl Try.func41 nm41 rfl rfl (sameLMS41_any l.bt l.ot l.ct l.b3 l.n (gg i) (gg (i + 1)) t s w12 hn hgi hgj hM12.ht hM12.hs r hr) rfl ?_
        cases r with
        | true =>
          have hsame := hnm.same i hlt (hr.1 rfl)
          first | refine RR.gy rfl rfl (pv_not_t rfl) rfl ?_ | refine RR.gy rfl rfl (pv_not_f rfl) rfl ?_ | refine RR.gy rfl rfl (pv_not rfl) rfl ?_ | refine RR.gn rfl rfl rfl rfl ?_
          first | refine RR.pv (pv_pick_t rfl rfl) rfl ?_ | refine RR.pv (pv_pick_f rfl rfl) rfl ?_
          refine RR.nil ?_
          refine CC.cond_f rfl ?_
          refine CC.skip ?_
          refine CutQ.go () ⟨rfl, rfl, rfl, rfl, rfl, rfl, rfl, rfl, rfl, rfl, ?_, rfl, trivial⟩ rfl
          rw [hsame]; rfl
        | false =>
          have hmore := hnm.more i hlt (fun h => Bool.noConfusion (hr.2 h))
          first | refine RR.gy rfl rfl (pv_not_t rfl) rfl ?_ | refine RR.gy rfl rfl (pv_not_f rfl) rfl ?_ | refine RR.gy rfl rfl (pv_not rfl) rfl ?_ | refine RR.gn rfl rfl rfl rfl ?_
          first | refine RR.pv (pv_pick_t rfl rfl) rfl ?_ | refine RR.pv (pv_pick_f rfl rfl) rfl ?_
          refine RR.nil ?_
          refine CC.cond_t rfl ?_
          refine CC.region ?_
          refine RR.pv (pv_mv rfl) rfl ?_
          refine RR.pv (pv_add32 rfl rfl (by omega)) rfl ?_
          refine RR.pv (pv_as rfl) rfl ?_
          refine RR.nil ?_
          refine CutQ.go () ⟨rfl, rfl, rfl, rfl, rfl, rfl, rfl, rfl, rfl, rfl, ?_, rfl, trivial⟩ rfl
          rw [hmore]; rfl
    · rintro _ w13 rfl
      refine CC.region ?_
      refine RR.pv (pv_mv rfl) rfl ?_
      refine RR.pv (pv_mv rfl) rfl ?_
      refine RR.pv (pv_mv rfl) rfl ?_
      refine RR.pv (pv_mv rfl) rfl ?_
      first | refine RR.pv (pv_ixN rfl rfl st28 (by omega)) rfl ?_ | refine RR.pv (pv_ixZ rfl rfl st28 (by omega)) rfl ?_
      refine RR.pv (pv_ld rfl ct21 (hcj)) rfl ?_
      refine RR.pv (pv_c21_3 rfl (by omega)) rfl ?_
      refine RR.pv (pv_quoN (n := 2) rfl rfl (by omega) (by omega)) rfl ?_
      first | refine RR.pv (pv_addN rfl rfl (by omega)) rfl ?_ | refine RR.pv (pv_add64 rfl rfl (by omega)) rfl ?_
      refine RR.pv (pv_mv rfl) rfl ?_
      refine RR.pv (pv_sub32 rfl rfl (by omega)) rfl ?_
      rw [show ((nm j + 1 : Nat) : Int) - 1 = (nm j : Int) from by omega]
      first | refine RR.pv (pv_ixN rfl rfl st28 (by omega)) rfl ?_ | refine RR.pv (pv_ixZ rfl rfl st28 (by omega)) rfl ?_
      refine RR.st rfl rfl ct21 OneV.i (hM12.ha (m + gg j / 2) hroom) (hM12.wa _ hroom) ?_
      refine RR.nil ?_
      refine CC.region ?_
      first | refine RR.pv (pv_addN (n := 1) rfl rfl (by omega)) rfl ?_ | refine RR.pv (pv_add64 rfl rfl (by omega)) rfl ?_
      refine RR.pv (pv_mv rfl) rfl ?_
      refine RR.nil ?_
      refine Nxt.go (j + 1, _) ⟨rfl, rfl, rfl, rfl, rfl, rfl, rfl, rfl, rfl, rfl, ?_, trivial⟩ ⟨hlt, NI.push hG hNI hlt, hM12.setA g hroom _, tS.tr hTt12 (tS.a l w13 hroom _)⟩ (by dsimp only; omega)
      dsimp only
      rw [hnvS]; rfl
  have hjm : m = j := by omega
  subst hjm
  refine CC.seq ?_
  refine CC.region ?_
  first | refine RR.pv (pv_lss_t rfl rfl (by omega)) rfl ?_ | refine RR.pv (pv_lss_f rfl rfl (by omega)) rfl ?_ | refine RR.pv (pv_lss rfl rfl) rfl ?_
  refine RR.nil ?_
  refine CC.seq ?_
  refine CC.cond_f rfl ?_
  refine CC.exit ?_
  have hnvm : 0 < m → nv m = nm (m - 1) + 1 := fun h => by rw [show m = m - 1 + 1 from by omega, hnvS]; rfl
  have hnvle : nv m ≤ m := by
    rcases Nat.eq_zero_or_pos m with h | h
    · rw [h, hnv0]; exact Nat.le_refl _
    · rw [hnvm h]; have := hnle (m - 1) (by omega); omega
  -- the names moved to the end
  refine CC.seq ?_
  refine CC.seq ?_
  refine CC.region ?_
  refine RR.pv (pv_mv rfl) rfl ?_
  first | refine RR.pv (pv_subN (n := 1) rfl rfl (by omega)) rfl ?_ | refine RR.pv (pv_sub64 rfl rfl (by omega)) rfl ?_
  refine RR.pv (pv_mv rfl) rfl ?_
  first | refine RR.pv (pv_subN (n := 1) rfl rfl (by omega)) rfl ?_ | refine RR.pv (pv_sub64 rfl rfl (by omega)) rfl ?_
  refine RR.pv (pv_as rfl) rfl ?_
  refine RR.pv (pv_as rfl) rfl ?_
  refine RR.nil ?_
  refine CC.block ?_
  refine CC.loop (γ := Nat × Nat × (Nat → Int)) (F := fun g => [(0, .slice (some ⟨l.bt, l.ot, none⟩) l.n l.ct), (1, .slice (some ⟨l.bs, l.os, none⟩) l.n l.cs), (2, .int .i64 (l.k : Int)), (6, .int .i64 (l.n : Int)), (7, .slice (some ⟨l.b3, 0, none⟩) l.n l.n), (9, .slice (some ⟨l.bc, 0, none⟩) l.k l.k), (12, .slice (some ⟨l.bb, 0, none⟩) l.k l.k), (16, .int .i64 (m : Int)), (20, .int .i32 ((nv m : Nat) : Int)), (22, .int .i64 ((g.1 : Int) - 1)), (23, .int .i64 ((g.2.1 : Int) - 1))])
    (I := fun g w' => CI l.n s m gg nm A5 g.1 g.2.1 g.2.2 ∧ M5 .i32 l t s (Nc l.n t) g.2.2 bk2 w' ∧ Touch (tS l) w w') (μ := fun g => g.1) (l.n, l.n, A5)
    ⟨rfl, rfl, rfl, rfl, rfl, rfl, rfl, rfl, rfl, by show some _ = some _; congr 2; show ((l.n - 1 : Nat) : Int) = (l.n : Int) - 1; omega, by show some _ = some _; congr 2; show ((l.n - 1 : Nat) : Int) = (l.n : Int) - 1; omega, trivial⟩
    ⟨CI.start hTy hmc hG, hM12, hTt12⟩ ?_
  clear hM12 hTt12
  rintro ⟨X, J, A6⟩ w13 ⟨hCI, hM13, hTt13⟩
  dsimp only at hCI hM13 ⊢
  have hCle := hCI.le
  by_cases hlt : m < X
  · obtain ⟨x, rfl⟩ : ∃ x, X = x + 1 := ⟨X - 1, by omega⟩
    have hxn : x < l.n := by omega
    have hA6 := hCI.old x (by omega)
    rw [show ((x + 1 : Nat) : Int) - 1 = (x : Int) from by omega]
    refine CC.seq ?_
    refine CC.seq ?_
    refine CC.region ?_
    refine RR.pv (pv_mv rfl) rfl ?_
    refine RR.pv (pv_mv rfl) rfl ?_
    first | refine RR.pv (pv_geq_t rfl rfl (by omega)) rfl ?_ | refine RR.pv (pv_geq_f rfl rfl (by omega)) rfl ?_ | refine RR.pv (pv_geq rfl rfl) rfl ?_
    refine RR.nil ?_
    refine CC.cond_t rfl ?_
    by_cases h0 : 0 ≤ A5 x
    · obtain ⟨hJ0, hxJ, hCI'⟩ := hCI.push hmc hG hNI (by omega) h0
      rw [← hA6] at hCI'
      have hJn : J - 1 < l.n := by omega
      have h0' : 0 ≤ A6 x := by rw [hA6]; exact h0
      rw [show (J : Int) - 1 = ((J - 1 : Nat) : Int) from by omega]
      refine CC.skip ?_
      refine CC.seq ?_
      refine CC.block ?_
      refine CC.seq ?_
      refine CC.region ?_
      refine RR.pv (pv_mv rfl) rfl ?_
      refine RR.pv (pv_mv rfl) rfl ?_
      first | refine RR.pv (pv_ixN rfl rfl st28 (by omega)) rfl ?_ | refine RR.pv (pv_ixZ rfl rfl st28 (by omega)) rfl ?_
      refine RR.pv (pv_ld rfl ct21 (hM13.ha x hxn)) rfl ?_
      first | refine RR.pv (pv_geq_t rfl rfl (by omega)) rfl ?_ | refine RR.pv (pv_geq_f rfl rfl (by omega)) rfl ?_ | refine RR.pv (pv_geq rfl rfl) rfl ?_
      refine RR.nil ?_
      refine CC.cond_t rfl ?_
      refine CC.seq ?_
      refine CC.region ?_
      refine RR.pv (pv_mv rfl) rfl ?_
      refine RR.pv (pv_mv rfl) rfl ?_
      refine RR.pv (pv_mv rfl) rfl ?_
      refine RR.pv (pv_mv rfl) rfl ?_
      first | refine RR.pv (pv_ixN rfl rfl st28 (by omega)) rfl ?_ | refine RR.pv (pv_ixZ rfl rfl st28 (by omega)) rfl ?_
      refine RR.pv (pv_ld rfl ct21 (hM13.ha x hxn)) rfl ?_
      first | refine RR.pv (pv_ixN rfl rfl st28 (by omega)) rfl ?_ | refine RR.pv (pv_ixZ rfl rfl st28 (by omega)) rfl ?_
      refine RR.st rfl rfl ct21 OneV.i (hM13.ha (J - 1) hJn) (hM13.wa _ hJn) ?_
      have hM14 := hM13.setA g hJn (A6 x)
      have hTt14 := tS.tr hTt13 (tS.a l w13 hJn (.int .i32 (A6 x)))
      generalize w13.setCell _ _ = w14 at hM14 hTt14 ⊢
      refine RR.nil ?_
      refine CC.region ?_
      refine RR.pv (pv_mv rfl) rfl ?_
      refine RR.pv (pv_sub64 rfl rfl (by omega)) rfl ?_
      refine RR.pv (pv_as rfl) rfl ?_
      refine RR.nil ?_
      refine CC.region ?_
      refine RR.pv (pv_mv rfl) rfl ?_
      refine RR.pv (pv_sub64 rfl rfl (by omega)) rfl ?_
      refine RR.pv (pv_as rfl) rfl ?_
      refine RR.nil ?_
      exact Nxt.go (x, J - 1, _) ⟨rfl, rfl, rfl, rfl, rfl, rfl, rfl, rfl, rfl, rfl, rfl, trivial⟩ ⟨hCI', hM14, hTt14⟩ (by dsimp only; omega)
    · have h0' : A6 x < 0 := by rw [hA6]; omega
      have hCI' := hCI.pass hG hNI (by omega) (by omega)
      refine CC.skip ?_
      refine CC.seq ?_
      refine CC.block ?_
      refine CC.seq ?_
      refine CC.region ?_
      refine RR.pv (pv_mv rfl) rfl ?_
      refine RR.pv (pv_mv rfl) rfl ?_
      first | refine RR.pv (pv_ixN rfl rfl st28 (by omega)) rfl ?_ | refine RR.pv (pv_ixZ rfl rfl st28 (by omega)) rfl ?_
      refine RR.pv (pv_ld rfl ct21 (hM13.ha x hxn)) rfl ?_
      first | refine RR.pv (pv_geq_t rfl rfl (by omega)) rfl ?_ | refine RR.pv (pv_geq_f rfl rfl (by omega)) rfl ?_ | refine RR.pv (pv_geq rfl rfl) rfl ?_
      refine RR.nil ?_
      refine CC.cond_f rfl ?_
      refine CC.skip ?_
      refine CC.region ?_
      refine RR.pv (pv_mv rfl) rfl ?_
      refine RR.pv (pv_sub64 rfl rfl (by omega)) rfl ?_
      refine RR.pv (pv_as rfl) rfl ?_
      refine RR.nil ?_
      exact Nxt.go (x, J, A6) ⟨rfl, rfl, rfl, rfl, rfl, rfl, rfl, rfl, rfl, rfl, rfl, trivial⟩ ⟨hCI', hM13, hTt13⟩ (by dsimp only; omega)
  have hXm : m = X := by omega
  subst hXm
  refine CC.seq ?_
  refine CC.seq ?_
  refine CC.region ?_
  refine RR.pv (pv_mv rfl) rfl ?_
  refine RR.pv (pv_mv rfl) rfl ?_
  first | refine RR.pv (pv_geq_t rfl rfl (by omega)) rfl ?_ | refine RR.pv (pv_geq_f rfl rfl (by omega)) rfl ?_ | refine RR.pv (pv_geq rfl rfl) rfl ?_
  refine RR.nil ?_
  refine CC.cond_f rfl ?_
  refine CC.exit ?_
  obtain ⟨u, L, hu, hL, hRed, hule, hdist⟩ := hCI.done hTy hmc hG hnm
  clear hCI hNI
  refine CC.seq ?_
  refine CC.regionQ (by decide +kernel) ?_
  refine RR.pv (pv_mv rfl) rfl ?_
  refine RR.pv (pv_mv rfl) rfl ?_
  refine RR.pv (pv_mv rfl) rfl ?_
  first | refine RR.pv (pv_subN rfl rfl (by omega)) rfl ?_ | refine RR.pv (pv_sub64 rfl rfl (by omega)) rfl ?_
  refine RR.pv (pv_sll rfl rfl st28 (by omega) (by omega)) rfl ?_
  rw [show l.n - (l.n - m) = m from by omega]
  generalize hon : (if l.cs = l.n - m then l.os else l.os + (l.n - m)) = on
  have hon' : 0 < m → on = l.os + (l.n - m) := fun h => by rw [← hon, if_neg (by omega)]
  clear hon
  refine RR.pv (pv_mv rfl) rfl ?_
  refine RR.pv (pv_mv rfl) rfl ?_
  refine RR.pv (pv_slh rfl rfl st28 (by omega)) rfl ?_
  refine RR.pv (pv_as rfl) rfl ?_
  refine RR.pv (pv_as rfl) rfl ?_
  refine RR.nil ?_
  refine CC.seqCut (γ := Nat → Nat) (fun _ => [(0, .slice (some ⟨l.bt, l.ot, none⟩) l.n l.ct), (1, .slice (some ⟨l.bs, l.os, none⟩) l.n l.cs), (2, .int .i64 (l.k : Int)), (6, .int .i64 (l.n : Int)), (7, .slice (some ⟨l.b3, 0, none⟩) l.n l.n), (9, .slice (some ⟨l.bc, 0, none⟩) l.k l.k), (12, .slice (some ⟨l.bb, 0, none⟩) l.k l.k), (16, .int .i64 (m : Int)), (24, .slice (some ⟨l.bs, on, none⟩) m (l.cs - (l.n - m))), (25, .slice (some ⟨l.bs, l.os, none⟩) m l.cs)])
    (fun B w' => IsSA m u (fun i => (B i : Int)) ∧ (∀ x, x < m → B x < m) ∧ ∃ A7, M5 .i32 l t s (Nc l.n t) A7 bk2 w' ∧ (∀ x, x < m → A7 x = (B x : Int)) ∧ Touch (tS l) w w') ?_ ?_
  · by_cases hnv : nv m < m
    · have hm0 : 0 < m := by omega
      have hon2 := hon' hm0
      subst hon2
      refine CC.seq ?_
      refine CC.region ?_
      refine RR.pv (pv_mv rfl) rfl ?_
      refine RR.pv (pv_c21_3 rfl (by omega)) rfl ?_
      refine RR.pv (pv_mv rfl) rfl ?_
      first | refine RR.pv (pv_lss_t rfl rfl (by omega)) rfl ?_ | refine RR.pv (pv_lss_f rfl rfl (by omega)) rfl ?_ | refine RR.pv (pv_lss rfl rfl) rfl ?_
      refine RR.nil ?_
      refine CC.cond_t rfl ?_
      refine CC.region ?_
      refine RR.pv (pv_mv rfl) rfl ?_
      refine RR.pv (pv_mv rfl) rfl ?_
      refine RR.pv (pv_mv rfl) rfl ?_
      refine RR.pv (pv_c21_3 rfl (by omega)) rfl ?_
      refine RR.call Try.func38 nm38 rfl rfl (hrec m (by omega) l.bs (l.os + (l.n - m)) (l.cs - (l.n - m)) l.bs l.os l.cs (nv m) u A6 w13 hm0 (by omega) (fun i hi => by rw [hnvm hm0]; have := hule i hi; omega) (by omega) (fun x hx => by
        have := hM13.ha (l.n - m + x) (by omega)
        rw [hu x hx] at this
        rw [Nat.add_assoc]; exact this) (hM13.ha.v.take (by omega)).ii (hM13.wa.take (by omega)) (fun i j hi hj e => by omega)) rfl (fun v15 w15 hpost => ?_)
      obtain ⟨A', hA', hS', hT'⟩ := hpost
      refine RR.nil ?_
      obtain ⟨B, hB1, hB2⟩ := hA'.nat
      refine CutQ.go B ⟨rfl, rfl, rfl, rfl, rfl, rfl, rfl, rfl, rfl, rfl, trivial⟩ ⟨hB2, fun x hx => (hB1 x hx).2, _, hM13.sub g (by omega) (by omega) hk0 hT' hS', fun x hx => by rw [if_pos hx]; exact (hB1 x hx).1, tS.tr hTt13 (hT'.mono (fun b o _ h => .inl ⟨h.1, h.2.1, by have := h.2.2; omega⟩))⟩
    · obtain ⟨hum, hui⟩ := hdist (by
        rcases Nat.eq_zero_or_pos m with h | h
        · omega
        · have := hnvm h; omega)
      refine CC.seq ?_
      refine CC.region ?_
      refine RR.pv (pv_mv rfl) rfl ?_
      refine RR.pv (pv_c21_3 rfl (by omega)) rfl ?_
      refine RR.pv (pv_mv rfl) rfl ?_
      first | refine RR.pv (pv_lss_t rfl rfl (by omega)) rfl ?_ | refine RR.pv (pv_lss_f rfl rfl (by omega)) rfl ?_ | refine RR.pv (pv_lss rfl rfl) rfl ?_
      refine RR.nil ?_
      refine CC.cond_f rfl ?_
      refine CC.seq ?_
      refine CC.region ?_
      refine RR.pv (pv_mv rfl) rfl ?_
      refine RR.pv (pv_len rfl st28) rfl ?_
      refine RR.pv (pv_mv rfl) rfl ?_
      refine RR.nil ?_
      refine CC.block ?_
      refine CC.loop (γ := Nat × (Nat → Int)) (F := fun g => [(0, .slice (some ⟨l.bt, l.ot, none⟩) l.n l.ct), (1, .slice (some ⟨l.bs, l.os, none⟩) l.n l.cs), (2, .int .i64 (l.k : Int)), (6, .int .i64 (l.n : Int)), (7, .slice (some ⟨l.b3, 0, none⟩) l.n l.n), (9, .slice (some ⟨l.bc, 0, none⟩) l.k l.k), (12, .slice (some ⟨l.bb, 0, none⟩) l.k l.k), (16, .int .i64 (m : Int)), (24, .slice (some ⟨l.bs, on, none⟩) m (l.cs - (l.n - m))), (25, .slice (some ⟨l.bs, l.os, none⟩) m l.cs), (271, .slice (some ⟨l.bs, on, none⟩) m (l.cs - (l.n - m))), (272, .int .i64 (m : Int)), (273, .int .i64 (g.1 : Int))])
        (I := fun g w' => g.1 ≤ m ∧ (∀ y, y < g.1 → g.2 (u y) = (y : Int)) ∧ (∀ y, m ≤ y → y < l.n → g.2 y = A6 y) ∧ M5 .i32 l t s (Nc l.n t) g.2 bk2 w' ∧ Touch (tS l) w w') (μ := fun g => m - g.1) (0, A6)
        ⟨rfl, rfl, rfl, rfl, rfl, rfl, rfl, rfl, rfl, rfl, rfl, rfl, rfl, trivial⟩
        ⟨Nat.zero_le _, fun y hy => absurd hy (Nat.not_lt_zero _), fun y _ _ => rfl, hM13, hTt13⟩ ?_
      clear hM13 hTt13
      rintro ⟨x, A7⟩ w14 ⟨hx, hdone, hkeep, hM14, hTt14⟩
      dsimp only at hx hdone hkeep hM14 ⊢
      by_cases hlt' : x < m
      · have hon2 := hon' (by omega)
        have hux := hum x hlt'
        have huxn : u x < l.n := by omega
        have hcell : w14.cell? ⟨l.bs, on + x, none⟩ = some (.int .i32 ((u x : Nat) : Int)) := by
          have := hM14.ha (l.n - m + x) (by omega)
          rw [hkeep _ (by omega) (by omega), hu x hlt'] at this
          rw [hon2, Nat.add_assoc]; exact this
        refine CC.seq ?_
        refine CC.region ?_
        first | refine RR.pv (pv_lss_t rfl rfl (by omega)) rfl ?_ | refine RR.pv (pv_lss_f rfl rfl (by omega)) rfl ?_ | refine RR.pv (pv_lss rfl rfl) rfl ?_
        refine RR.nil ?_
        refine CC.seq ?_
        refine CC.cond_t rfl ?_
        refine CC.skip ?_
        refine CC.seq ?_
        refine CC.block ?_
        refine CC.seq ?_
        refine CC.region ?_
        refine RR.pv (pv_mv rfl) rfl ?_
        first | refine RR.pv (pv_ixN rfl rfl st28 (by omega)) rfl ?_ | refine RR.pv (pv_ixZ rfl rfl st28 (by omega)) rfl ?_
        refine RR.pv (pv_ld rfl ct21 (hcell)) rfl ?_
        refine RR.pv (pv_as rfl) rfl ?_
        refine RR.pv (pv_as rfl) rfl ?_
        refine RR.nil ?_
        refine CC.region ?_
        refine RR.pv (pv_mv rfl) rfl ?_
        refine RR.pv (pv_mv rfl) rfl ?_
        refine RR.pv (pv_mv rfl) rfl ?_
        first | refine RR.pv (pv_c3_21 rfl (by omega)) rfl ?_ | refine RR.pv (pv_c3_21w rfl) rfl ?_
        first | refine RR.pv (pv_ixN rfl rfl st28 (by omega)) rfl ?_ | refine RR.pv (pv_ixZ rfl rfl st28 (by omega)) rfl ?_
        refine RR.st rfl rfl ct21 OneV.i (hM14.ha (u x) huxn) (hM14.wa _ huxn) ?_
        refine RR.nil ?_
        refine CC.region ?_
        first | refine RR.pv (pv_addN (n := 1) rfl rfl (by omega)) rfl ?_ | refine RR.pv (pv_add64 rfl rfl (by omega)) rfl ?_
        refine RR.pv (pv_mv rfl) rfl ?_
        refine RR.nil ?_
        refine Nxt.go (x + 1, upd A7 (u x) (x : Int)) ⟨rfl, rfl, rfl, rfl, rfl, rfl, rfl, rfl, rfl, rfl, rfl, rfl, rfl, trivial⟩ ⟨hlt', fun y hy => ?_, fun y h1 h2 => ?_, hM14.setA g huxn _, tS.tr hTt14 (tS.a l w14 huxn _)⟩ (by dsimp only; omega)
        · dsimp only at hy ⊢
          by_cases e : y = x
          · subst e; rw [upd_same]
          · rw [upd_ne _ _ (fun e' => e (hui y x (by omega) hlt' e'))]; exact hdone y (by omega)
        · dsimp only; rw [upd_ne _ _ (by omega)]; exact hkeep y h1 h2
      have hxm : x = m := by omega
      refine CC.seq ?_
      refine CC.region ?_
      first | refine RR.pv (pv_lss_t rfl rfl (by omega)) rfl ?_ | refine RR.pv (pv_lss_f rfl rfl (by omega)) rfl ?_ | refine RR.pv (pv_lss rfl rfl) rfl ?_
      refine RR.nil ?_
      refine CC.seq ?_
      refine CC.cond_f rfl ?_
      refine CC.exit ?_
      rw [hxm] at hdone
      obtain ⟨B, hB1, hB2⟩ := (isSA_distinct hum hui hdone).nat
      exact CutQ.go B ⟨rfl, rfl, rfl, rfl, rfl, rfl, rfl, rfl, rfl, rfl, trivial⟩ ⟨hB2, fun x hx => (hB1 x hx).2, A7, hM14, fun x hx => (hB1 x hx).1, hTt14⟩
  rintro B w15 ⟨hB, hBm, A7, hM15, hA7, hTt15⟩
  clear hM13 hTt13
  have hLS := ls_of hRed hB
  -- the positions behind the names
  have hRI0 : RI l.n s m B 1 A7 := ⟨fun p hp hl => by rw [lms_iff] at hl; omega, hA7⟩
  have hc10 : cnt (lms s) 1 = 0 := by simp [cnt, lms]
  refine CC.seq ?_
  refine CC.region ?_
  refine RR.pv (pv_as rfl) rfl ?_
  refine RR.nil ?_
  refine CC.seq ?_
  refine CC.seq ?_
  refine CC.region ?_
  refine RR.pv (pv_as rfl) rfl ?_
  refine RR.nil ?_
  refine CC.block ?_
  refine CC.loop (γ := Nat × (Nat → Int)) (F := fun g => [(0, .slice (some ⟨l.bt, l.ot, none⟩) l.n l.ct), (1, .slice (some ⟨l.bs, l.os, none⟩) l.n l.cs), (2, .int .i64 (l.k : Int)), (6, .int .i64 (l.n : Int)), (7, .slice (some ⟨l.b3, 0, none⟩) l.n l.n), (9, .slice (some ⟨l.bc, 0, none⟩) l.k l.k), (12, .slice (some ⟨l.bb, 0, none⟩) l.k l.k), (16, .int .i64 (m : Int)), (24, .slice (some ⟨l.bs, on, none⟩) m (l.cs - (l.n - m))), (25, .slice (some ⟨l.bs, l.os, none⟩) m l.cs), (28, .int .i64 ((cnt (lms s) g.1 : Nat) : Int)), (29, .int .i64 (g.1 : Int))])
    (I := fun g w' => 1 ≤ g.1 ∧ g.1 ≤ l.n ∧ RI l.n s m B g.1 g.2 ∧ M5 .i32 l t s (Nc l.n t) g.2 bk2 w' ∧ Touch (tS l) w w') (μ := fun g => l.n - g.1) (1, A7)
    ⟨rfl, rfl, rfl, rfl, rfl, rfl, rfl, rfl, rfl, rfl, by dsimp only; rw [hc10]; rfl, rfl, trivial⟩
    ⟨Nat.le_refl _, by dsimp only; omega, hRI0, hM15, hTt15⟩ ?_
  clear hM15 hTt15 hRI0 hA7
  rintro ⟨i, A8⟩ w16 ⟨hi1, hi, hRI, hM16, hTt16⟩
  dsimp only at hi1 hi hRI hM16 ⊢
  by_cases hlt : i < l.n
  · refine CC.seq ?_
    refine CC.seq ?_
    refine CC.region ?_
    refine RR.pv (pv_mv rfl) rfl ?_
    refine RR.pv (pv_mv rfl) rfl ?_
    first | refine RR.pv (pv_lss_t rfl rfl (by omega)) rfl ?_ | refine RR.pv (pv_lss_f rfl rfl (by omega)) rfl ?_ | refine RR.pv (pv_lss rfl rfl) rfl ?_
    refine RR.nil ?_
    refine CC.cond_t rfl ?_
    by_cases hl : lms s i = true
    · have hll := lms_iff.1 hl
      have hc1 : w16.cell? ⟨l.b3, 0 + i, none⟩ = some (.bool true) := by rw [← hll.2.1]; exact hM16.hs i hlt
      have hc2 : w16.cell? ⟨l.b3, 0 + (i - 1), none⟩ = some (.bool false) := by rw [← hll.2.2]; exact hM16.hs (i - 1) (by omega)
      have hcm : cnt (lms s) i < m := by rw [hmc]; exact cnt_rank hlt hl
      obtain ⟨hcn, hRI'⟩ := hRI.push (by omega) hl
      have hon2 := hon' (by omega)
      have hpl : l.n - m + cnt (lms s) i < l.n := by omega
      refine CC.skip ?_
      refine CC.seq ?_
      refine CC.block ?_
      refine CC.seq ?_
      refine CC.region ?_
      refine RR.pv (pv_mv rfl) rfl ?_
      refine RR.pv (pv_mv rfl) rfl ?_
      first | refine RR.pv (pv_ixN rfl rfl st36 (by omega)) rfl ?_ | refine RR.pv (pv_ixZ rfl rfl st36 (by omega)) rfl ?_
      refine RR.pv (pv_ld rfl ct4 (hc1)) rfl ?_
      refine RR.pv (pv_mv rfl) rfl ?_
      first | refine RR.gy rfl rfl (pv_mv rfl) rfl ?_ | refine RR.gn rfl rfl rfl rfl ?_
      first | refine RR.gy rfl rfl (pv_mv rfl) rfl ?_ | refine RR.gn rfl rfl rfl rfl ?_
      first | refine RR.gy rfl rfl (pv_subN (n := 1) rfl rfl (by omega)) rfl ?_ | refine RR.gy rfl rfl (pv_sub64 rfl rfl (by omega)) rfl ?_ | refine RR.gn rfl rfl rfl rfl ?_
      first | refine RR.gy rfl rfl (pv_ixN rfl rfl st36 (by omega)) rfl ?_ | refine RR.gy rfl rfl (pv_ixZ rfl rfl st36 (by omega)) rfl ?_ | refine RR.gn rfl rfl rfl rfl ?_
      first | refine RR.gy rfl rfl (pv_ld rfl ct4 (hc2)) rfl ?_ | refine RR.gn rfl rfl rfl rfl ?_
      first | refine RR.gy rfl rfl (pv_not_t rfl) rfl ?_ | refine RR.gy rfl rfl (pv_not_f rfl) rfl ?_ | refine RR.gy rfl rfl (pv_not rfl) rfl ?_ | refine RR.gn rfl rfl rfl rfl ?_
      first | refine RR.pv (pv_pick_t rfl rfl) rfl ?_ | refine RR.pv (pv_pick_f rfl rfl) rfl ?_
      refine RR.nil ?_
      refine CC.cond_t rfl ?_
      refine CC.seq ?_
      refine CC.region ?_
      refine RR.pv (pv_mv rfl) rfl ?_
      refine RR.pv (pv_mv rfl) rfl ?_
      refine RR.pv (pv_mv rfl) rfl ?_
      first | refine RR.pv (pv_c3_21 rfl (by omega)) rfl ?_ | refine RR.pv (pv_c3_21w rfl) rfl ?_
      first | refine RR.pv (pv_ixN rfl rfl st28 (by omega)) rfl ?_ | refine RR.pv (pv_ixZ rfl rfl st28 (by omega)) rfl ?_
      rw [show on + cnt (lms s) i = l.os + (l.n - m + cnt (lms s) i) from by omega]
      refine RR.st rfl rfl ct21 OneV.i (hM16.ha (l.n - m + cnt (lms s) i) hpl) (hM16.wa _ hpl) ?_
      refine RR.nil ?_
      refine CC.region ?_
      refine RR.pv (pv_mv rfl) rfl ?_
      first | refine RR.pv (pv_addN (n := 1) rfl rfl (by omega)) rfl ?_ | refine RR.pv (pv_add64 rfl rfl (by omega)) rfl ?_
      refine RR.pv (pv_as rfl) rfl ?_
      refine RR.nil ?_
      refine CC.region ?_
      refine RR.pv (pv_mv rfl) rfl ?_
      first | refine RR.pv (pv_addN (n := 1) rfl rfl (by omega)) rfl ?_ | refine RR.pv (pv_add64 rfl rfl (by omega)) rfl ?_
      refine RR.pv (pv_as rfl) rfl ?_
      refine RR.nil ?_
      refine Nxt.go (i + 1, _) ⟨rfl, rfl, rfl, rfl, rfl, rfl, rfl, rfl, rfl, rfl, ?_, rfl, trivial⟩ ⟨by dsimp only; omega, hlt, hRI', hM16.setA g hpl _, tS.tr hTt16 (tS.a l w16 hpl _)⟩ (by dsimp only; omega)
      dsimp only
      rw [hcn]; rfl
    have hl' : lms s i = false := by simpa using hl
    obtain ⟨hcn, hRI'⟩ := hRI.pass hl'
    by_cases hsi : s i = true
    · have hsj : s (i - 1) = true := by
        cases h6 : s (i - 1) with
        | false => exact absurd (lms_iff.2 ⟨by omega, hsi, h6⟩) hl
        | true => rfl
      have hc1 : w16.cell? ⟨l.b3, 0 + i, none⟩ = some (.bool true) := by rw [← hsi]; exact hM16.hs i hlt
      have hc2 : w16.cell? ⟨l.b3, 0 + (i - 1), none⟩ = some (.bool true) := by rw [← hsj]; exact hM16.hs (i - 1) (by omega)
      refine CC.skip ?_
      refine CC.seq ?_
      refine CC.block ?_
      refine CC.seq ?_
      refine CC.region ?_
      refine RR.pv (pv_mv rfl) rfl ?_
      refine RR.pv (pv_mv rfl) rfl ?_
      first | refine RR.pv (pv_ixN rfl rfl st36 (by omega)) rfl ?_ | refine RR.pv (pv_ixZ rfl rfl st36 (by omega)) rfl ?_
      refine RR.pv (pv_ld rfl ct4 (hc1)) rfl ?_
      refine RR.pv (pv_mv rfl) rfl ?_
      first | refine RR.gy rfl rfl (pv_mv rfl) rfl ?_ | refine RR.gn rfl rfl rfl rfl ?_
      first | refine RR.gy rfl rfl (pv_mv rfl) rfl ?_ | refine RR.gn rfl rfl rfl rfl ?_
      first | refine RR.gy rfl rfl (pv_subN (n := 1) rfl rfl (by omega)) rfl ?_ | refine RR.gy rfl rfl (pv_sub64 rfl rfl (by omega)) rfl ?_ | refine RR.gn rfl rfl rfl rfl ?_
      first | refine RR.gy rfl rfl (pv_ixN rfl rfl st36 (by omega)) rfl ?_ | refine RR.gy rfl rfl (pv_ixZ rfl rfl st36 (by omega)) rfl ?_ | refine RR.gn rfl rfl rfl rfl ?_
      first | refine RR.gy rfl rfl (pv_ld rfl ct4 (hc2)) rfl ?_ | refine RR.gn rfl rfl rfl rfl ?_
      first | refine RR.gy rfl rfl (pv_not_t rfl) rfl ?_ | refine RR.gy rfl rfl (pv_not_f rfl) rfl ?_ | refine RR.gy rfl rfl (pv_not rfl) rfl ?_ | refine RR.gn rfl rfl rfl rfl ?_
      first | refine RR.pv (pv_pick_t rfl rfl) rfl ?_ | refine RR.pv (pv_pick_f rfl rfl) rfl ?_
      refine RR.nil ?_
      refine CC.cond_f rfl ?_
      refine CC.skip ?_
      refine CC.region ?_
      refine RR.pv (pv_mv rfl) rfl ?_
      first | refine RR.pv (pv_addN (n := 1) rfl rfl (by omega)) rfl ?_ | refine RR.pv (pv_add64 rfl rfl (by omega)) rfl ?_
      refine RR.pv (pv_as rfl) rfl ?_
      refine RR.nil ?_
      refine Nxt.go (i + 1, A8) ⟨rfl, rfl, rfl, rfl, rfl, rfl, rfl, rfl, rfl, rfl, ?_, rfl, trivial⟩ ⟨by dsimp only; omega, hlt, hRI', hM16, hTt16⟩ (by dsimp only; omega)
      dsimp only
      rw [hcn]; rfl
    · have hsi' : s i = false := by simpa using hsi
      have hc1 : w16.cell? ⟨l.b3, 0 + i, none⟩ = some (.bool false) := by rw [← hsi']; exact hM16.hs i hlt
      refine CC.skip ?_
      refine CC.seq ?_
      refine CC.block ?_
      refine CC.seq ?_
      refine CC.region ?_
      refine RR.pv (pv_mv rfl) rfl ?_
      refine RR.pv (pv_mv rfl) rfl ?_
      first | refine RR.pv (pv_ixN rfl rfl st36 (by omega)) rfl ?_ | refine RR.pv (pv_ixZ rfl rfl st36 (by omega)) rfl ?_
      refine RR.pv (pv_ld rfl ct4 (hc1)) rfl ?_
      refine RR.pv (pv_mv rfl) rfl ?_
      first | refine RR.gy rfl rfl (pv_mv rfl) rfl ?_ | refine RR.gn rfl rfl rfl rfl ?_
      first | refine RR.gy rfl rfl (pv_mv rfl) rfl ?_ | refine RR.gn rfl rfl rfl rfl ?_
      first | refine RR.gy rfl rfl (pv_subN (n := 1) rfl rfl (by omega)) rfl ?_ | refine RR.gy rfl rfl (pv_sub64 rfl rfl (by omega)) rfl ?_ | refine RR.gn rfl rfl rfl rfl ?_
      first | refine RR.gy rfl rfl (pv_ixN rfl rfl st36 (by omega)) rfl ?_ | refine RR.gy rfl rfl (pv_ixZ rfl rfl st36 (by omega)) rfl ?_ | refine RR.gn rfl rfl rfl rfl ?_
      first | refine RR.gy rfl rfl (pv_ld rfl ct4 (hc1)) rfl ?_ | refine RR.gn rfl rfl rfl rfl ?_
      first | refine RR.gy rfl rfl (pv_not_t rfl) rfl ?_ | refine RR.gy rfl rfl (pv_not_f rfl) rfl ?_ | refine RR.gy rfl rfl (pv_not rfl) rfl ?_ | refine RR.gn rfl rfl rfl rfl ?_
      first | refine RR.pv (pv_pick_t rfl rfl) rfl ?_ | refine RR.pv (pv_pick_f rfl rfl) rfl ?_
      refine RR.nil ?_
      refine CC.cond_f rfl ?_
      refine CC.skip ?_
      refine CC.region ?_
      refine RR.pv (pv_mv rfl) rfl ?_
      first | refine RR.pv (pv_addN (n := 1) rfl rfl (by omega)) rfl ?_ | refine RR.pv (pv_add64 rfl rfl (by omega)) rfl ?_
      refine RR.pv (pv_as rfl) rfl ?_
      refine RR.nil ?_
      refine Nxt.go (i + 1, A8) ⟨rfl, rfl, rfl, rfl, rfl, rfl, rfl, rfl, rfl, rfl, ?_, rfl, trivial⟩ ⟨by dsimp only; omega, hlt, hRI', hM16, hTt16⟩ (by dsimp only; omega)
      dsimp only
      rw [hcn]; rfl
  have hin : i = l.n := by omega
  subst hin
  refine CC.seq ?_
  refine CC.seq ?_
  refine CC.region ?_
  refine RR.pv (pv_mv rfl) rfl ?_
  refine RR.pv (pv_mv rfl) rfl ?_
  first | refine RR.pv (pv_lss_t rfl rfl (by omega)) rfl ?_ | refine RR.pv (pv_lss_f rfl rfl (by omega)) rfl ?_ | refine RR.pv (pv_lss rfl rfl) rfl ?_
  refine RR.nil ?_
  refine CC.cond_f rfl ?_
  refine CC.exit ?_
  have hQ0 := QI.start hL hRI
  refine CC.seq ?_
  refine CC.seq ?_
  refine CC.region ?_
  refine RR.pv (pv_mv rfl) rfl ?_
  refine RR.pv (pv_len rfl st28) rfl ?_
  refine RR.pv (pv_mv rfl) rfl ?_
  refine RR.nil ?_
  refine CC.block ?_
  refine CC.loop (γ := Nat × (Nat → Int)) (F := fun g => [(0, .slice (some ⟨l.bt, l.ot, none⟩) l.n l.ct), (1, .slice (some ⟨l.bs, l.os, none⟩) l.n l.cs), (2, .int .i64 (l.k : Int)), (6, .int .i64 (l.n : Int)), (7, .slice (some ⟨l.b3, 0, none⟩) l.n l.n), (9, .slice (some ⟨l.bc, 0, none⟩) l.k l.k), (12, .slice (some ⟨l.bb, 0, none⟩) l.k l.k), (16, .int .i64 (m : Int)), (24, .slice (some ⟨l.bs, on, none⟩) m (l.cs - (l.n - m))), (25, .slice (some ⟨l.bs, l.os, none⟩) m l.cs), (308, .slice (some ⟨l.bs, l.os, none⟩) m l.cs), (309, .int .i64 (m : Int)), (310, .int .i64 (g.1 : Int))])
    (I := fun g w' => g.1 ≤ m ∧ QI l.n m L B g.1 g.2 ∧ M5 .i32 l t s (Nc l.n t) g.2 bk2 w' ∧ Touch (tS l) w w') (μ := fun g => m - g.1) (0, A8)
    ⟨rfl, rfl, rfl, rfl, rfl, rfl, rfl, rfl, rfl, rfl, rfl, rfl, rfl, trivial⟩
    ⟨Nat.zero_le _, hQ0, hM16, hTt16⟩ ?_
  clear hM16 hTt16 hQ0 hRI
  rintro ⟨x, A9⟩ w17 ⟨hx, hQ, hM17, hTt17⟩
  dsimp only at hx hQ hM17 ⊢
  by_cases hlt : x < m
  · have hon2 := hon' (by omega)
    have hBx := hBm x hlt
    have hxn : x < l.n := by omega
    have hc1 : w17.cell? ⟨l.bs, l.os + x, none⟩ = some (.int .i32 ((B x : Nat) : Int)) := by rw [← hQ.rest x (Nat.le_refl _) hlt]; exact hM17.ha x hxn
    have hc2 : w17.cell? ⟨l.bs, on + B x, none⟩ = some (.int .i32 ((L (B x) : Nat) : Int)) := by
      rw [hon2, Nat.add_assoc, ← hQ.pos _ hBx]; exact hM17.ha _ (by omega)
    refine CC.seq ?_
    refine CC.region ?_
    first | refine RR.pv (pv_lss_t rfl rfl (by omega)) rfl ?_ | refine RR.pv (pv_lss_f rfl rfl (by omega)) rfl ?_ | refine RR.pv (pv_lss rfl rfl) rfl ?_
    refine RR.nil ?_
    refine CC.seq ?_
    refine CC.cond_t rfl ?_
    refine CC.skip ?_
    refine CC.seq ?_
    refine CC.block ?_
    refine CC.seq ?_
    refine CC.region ?_
    refine RR.pv (pv_mv rfl) rfl ?_
    first | refine RR.pv (pv_ixN rfl rfl st28 (by omega)) rfl ?_ | refine RR.pv (pv_ixZ rfl rfl st28 (by omega)) rfl ?_
    refine RR.pv (pv_ld rfl ct21 (hc1)) rfl ?_
    refine RR.pv (pv_as rfl) rfl ?_
    refine RR.pv (pv_as rfl) rfl ?_
    refine RR.nil ?_
    refine CC.region ?_
    refine RR.pv (pv_mv rfl) rfl ?_
    refine RR.pv (pv_mv rfl) rfl ?_
    refine RR.pv (pv_mv rfl) rfl ?_
    refine RR.pv (pv_mv rfl) rfl ?_
    first | refine RR.pv (pv_ixN rfl rfl st28 (by omega)) rfl ?_ | refine RR.pv (pv_ixZ rfl rfl st28 (by omega)) rfl ?_
    refine RR.pv (pv_ld rfl ct21 (hc2)) rfl ?_
    first | refine RR.pv (pv_ixN rfl rfl st28 (by omega)) rfl ?_ | refine RR.pv (pv_ixZ rfl rfl st28 (by omega)) rfl ?_
    refine RR.st rfl rfl ct21 OneV.i (hM17.ha x hxn) (hM17.wa _ hxn) ?_
    refine RR.nil ?_
    refine CC.region ?_
    first | refine RR.pv (pv_addN (n := 1) rfl rfl (by omega)) rfl ?_ | refine RR.pv (pv_add64 rfl rfl (by omega)) rfl ?_
    refine RR.pv (pv_mv rfl) rfl ?_
    refine RR.nil ?_
    exact Nxt.go (x + 1, _) ⟨rfl, rfl, rfl, rfl, rfl, rfl, rfl, rfl, rfl, rfl, rfl, rfl, rfl, trivial⟩ ⟨hlt, hQ.push (by omega) hlt, hM17.setA g hxn _, tS.tr hTt17 (tS.a l w17 hxn _)⟩ (by dsimp only; omega)
  have hxm : m = x := by omega
  subst hxm
  refine CC.seq ?_
  refine CC.region ?_
  first | refine RR.pv (pv_lss_t rfl rfl (by omega)) rfl ?_ | refine RR.pv (pv_lss_f rfl rfl (by omega)) rfl ?_ | refine RR.pv (pv_lss rfl rfl) rfl ?_
  refine RR.nil ?_
  refine CC.seq ?_
  refine CC.cond_f rfl ?_
  refine CC.exit ?_
  refine CC.seq ?_
  refine CC.seq ?_
  refine CC.region ?_
  refine RR.pv (pv_mv rfl) rfl ?_
  refine RR.pv (pv_as rfl) rfl ?_
  refine RR.nil ?_
  refine CC.block ?_
  refine CC.loop (γ := Nat × (Nat → Int)) (F := fun g => [(0, .slice (some ⟨l.bt, l.ot, none⟩) l.n l.ct), (1, .slice (some ⟨l.bs, l.os, none⟩) l.n l.cs), (2, .int .i64 (l.k : Int)), (6, .int .i64 (l.n : Int)), (7, .slice (some ⟨l.b3, 0, none⟩) l.n l.n), (9, .slice (some ⟨l.bc, 0, none⟩) l.k l.k), (12, .slice (some ⟨l.bb, 0, none⟩) l.k l.k), (16, .int .i64 (m : Int)), (32, .int .i64 (g.1 : Int))])
    (I := fun g w' => m ≤ g.1 ∧ g.1 ≤ l.n ∧ (∀ j, j < m → g.2 j = (L (B j) : Int)) ∧ (∀ j, m ≤ j → j < g.1 → g.2 j = -1) ∧ M5 .i32 l t s (Nc l.n t) g.2 bk2 w' ∧ Touch (tS l) w w') (μ := fun g => l.n - g.1) (m, A9)
    ⟨rfl, rfl, rfl, rfl, rfl, rfl, rfl, rfl, rfl, trivial⟩
    ⟨Nat.le_refl _, by dsimp only; omega, hQ.done, fun j h1 h2 => by dsimp only at h2; omega, hM17, hTt17⟩ ?_
  clear hM17 hTt17 hQ
  rintro ⟨x, A10⟩ w18 ⟨hx1, hx, hlo, hhi, hM18, hTt18⟩
  dsimp only at hx1 hx hlo hhi hM18 ⊢
  by_cases hlt : x < l.n
  · refine CC.seq ?_
    refine CC.seq ?_
    refine CC.region ?_
    refine RR.pv (pv_mv rfl) rfl ?_
    refine RR.pv (pv_mv rfl) rfl ?_
    first | refine RR.pv (pv_lss_t rfl rfl (by omega)) rfl ?_ | refine RR.pv (pv_lss_f rfl rfl (by omega)) rfl ?_ | refine RR.pv (pv_lss rfl rfl) rfl ?_
    refine RR.nil ?_
    refine CC.cond_t rfl ?_
    refine CC.skip ?_
    refine CC.seq ?_
    refine CC.block ?_
    refine CC.region ?_
    refine RR.pv (pv_mv rfl) rfl ?_
    refine RR.pv (pv_mv rfl) rfl ?_
    first | refine RR.pv (pv_ixN rfl rfl st28 (by omega)) rfl ?_ | refine RR.pv (pv_ixZ rfl rfl st28 (by omega)) rfl ?_
    refine RR.st rfl rfl ct21 OneV.i (hM18.ha x hlt) (hM18.wa _ hlt) ?_
    refine RR.nil ?_
    refine CC.region ?_
    refine RR.pv (pv_mv rfl) rfl ?_
    first | refine RR.pv (pv_addN (n := 1) rfl rfl (by omega)) rfl ?_ | refine RR.pv (pv_add64 rfl rfl (by omega)) rfl ?_
    refine RR.pv (pv_as rfl) rfl ?_
    refine RR.nil ?_
    refine Nxt.go (x + 1, upd A10 x (-1)) ⟨rfl, rfl, rfl, rfl, rfl, rfl, rfl, rfl, rfl, trivial⟩ ⟨by dsimp only; omega, hlt, fun j hj => ?_, fun j h1 h2 => ?_, hM18.setA g hlt _, tS.tr hTt18 (tS.a l w18 hlt _)⟩ (by dsimp only; omega)
    · dsimp only; rw [upd_ne _ _ (by omega)]; exact hlo j hj
    · dsimp only at h2 ⊢
      by_cases e : j = x
      · subst e; rw [upd_same]
      · rw [upd_ne _ _ e]; exact hhi j h1 (by omega)
  have hxn : x = l.n := by omega
  subst hxn
  refine CC.seq ?_
  refine CC.seq ?_
  refine CC.region ?_
  refine RR.pv (pv_mv rfl) rfl ?_
  refine RR.pv (pv_mv rfl) rfl ?_
  first | refine RR.pv (pv_lss_t rfl rfl (by omega)) rfl ?_ | refine RR.pv (pv_lss_f rfl rfl (by omega)) rfl ?_ | refine RR.pv (pv_lss rfl rfl) rfl ?_
  refine RR.nil ?_
  refine CC.cond_f rfl ?_
  refine CC.exit ?_
  -- the LMS suffixes, in order, at the ends of their buckets
  obtain ⟨ix, hix⟩ := hLS.index
  have hP0 := hLS.begin hix (A := A10) (fun j h1 h2 => hhi j h1 h2)
  refine CC.seq ?_
  refine CC.region ?_
  refine RR.pv (pv_mv rfl) rfl ?_
  refine RR.pv (pv_mv rfl) rfl ?_
  refine RR.call Try.func35 nm35 rfl rfl (bucketEnds_any l.bb l.bc l.n l.k t _ w18 hn hkk g.cb hM18.hb hM18.wb hM18.hc) rfl (fun v19 w19 ⟨hb19, hT19⟩ => ?_)
  refine RR.nil ?_
  have hM19 := hM18.bkTouch g (by omega) hk0 hT19 hb19
  have hTt19 : Touch (tS l) w w19 := tS.tr hTt18 (hT19.mono (fun b o _ h => .inr h))
  clear hM18 hT19 hb19 hTt18 hhi
  refine CC.seq ?_
  refine CC.seq ?_
  refine CC.region ?_
  refine RR.pv (pv_mv rfl) rfl ?_
  refine RR.pv (pv_sub64 rfl rfl (by omega)) rfl ?_
  refine RR.pv (pv_as rfl) rfl ?_
  refine RR.nil ?_
  refine CC.block ?_
  refine CC.loop (γ := Nat × (Nat → Int) × (Nat → Nat)) (F := fun g => [(0, .slice (some ⟨l.bt, l.ot, none⟩) l.n l.ct), (1, .slice (some ⟨l.bs, l.os, none⟩) l.n l.cs), (2, .int .i64 (l.k : Int)), (6, .int .i64 (l.n : Int)), (7, .slice (some ⟨l.b3, 0, none⟩) l.n l.n), (9, .slice (some ⟨l.bc, 0, none⟩) l.k l.k), (12, .slice (some ⟨l.bb, 0, none⟩) l.k l.k), (33, .int .i64 ((g.1 : Int) - 1))])
    (I := fun g w' => g.1 ≤ m ∧ PI l.n t s (fun p => lms s p && decide (g.1 ≤ ix p)) ix g.1 g.2.1 g.2.2 ∧ (∀ x, x < g.1 → g.2.1 x = (L (B x) : Int)) ∧ M5 .i32 l t s (Nc l.n t) g.2.1 g.2.2 w' ∧ Touch (tS l) w w') (μ := fun g => g.1) (m, _, _)
    ⟨rfl, rfl, rfl, rfl, rfl, rfl, rfl, rfl, trivial⟩
    ⟨Nat.le_refl _, hP0, hlo, hM19, hTt19⟩ ?_
  clear hM19 hTt19 hP0 hlo
  rintro ⟨X, A11, bk⟩ w20 ⟨hXm, hP, hlo, hM20, hTt20⟩
  dsimp only at hXm hP hlo hM20 ⊢
  by_cases hX0 : X = 0
  rotate_left
  · obtain ⟨i, rfl⟩ : ∃ i, X = i + 1 := ⟨X - 1, by omega⟩
    have him : i < m := by omega
    have hin : i < l.n := by omega
    have hq := hLS.lms i him
    have hstep := hLS.step hix him hP
    have hAi := hlo i (by omega)
    generalize L (B i) = p at hq hstep hAi
    obtain ⟨hb0, hbn, hib, hP'⟩ := hstep
    have htp := hk p hq.1
    have hbl : bk (t p) - 1 < l.n := by omega
    have hcell : w20.cell? ⟨l.bs, l.os + i, none⟩ = some (.int .i32 (p : Int)) := by rw [← hAi]; exact hM20.ha i hin
    rw [show ((i + 1 : Nat) : Int) - 1 = (i : Int) from by omega]
    refine CC.seq ?_
    refine CC.seq ?_
    refine CC.region ?_
    refine RR.pv (pv_mv rfl) rfl ?_
    first | refine RR.pv (pv_geq_t rfl rfl (by omega)) rfl ?_ | refine RR.pv (pv_geq_f rfl rfl (by omega)) rfl ?_ | refine RR.pv (pv_geq rfl rfl) rfl ?_
    refine RR.nil ?_
    refine CC.cond_t rfl ?_
    refine CC.skip ?_
    refine CC.seq ?_
    refine CC.block ?_
    refine CC.seq ?_
    refine CC.region ?_
    refine RR.pv (pv_mv rfl) rfl ?_
    refine RR.pv (pv_mv rfl) rfl ?_
    first | refine RR.pv (pv_ixN rfl rfl st28 (by omega)) rfl ?_ | refine RR.pv (pv_ixZ rfl rfl st28 (by omega)) rfl ?_
    refine RR.pv (pv_ld rfl ct21 (hcell)) rfl ?_
    refine RR.pv (pv_as rfl) rfl ?_
    refine RR.nil ?_
    refine CC.seq ?_
    refine CC.region ?_
    refine RR.pv (pv_mv rfl) rfl ?_
    refine RR.pv (pv_mv rfl) rfl ?_
    first | refine RR.pv (pv_ixN rfl rfl st28 (by omega)) rfl ?_ | refine RR.pv (pv_ixZ rfl rfl st28 (by omega)) rfl ?_
    refine RR.st rfl rfl ct21 OneV.i (hM20.ha i hin) (hM20.wa _ hin) ?_
    have hM21 := hM20.setA g hin (-1)
    have hTt21 := tS.tr hTt20 (tS.a l w20 hin (.int .i32 (-1)))
    generalize w20.setCell _ _ = w21 at hM21 hTt21 ⊢
    refine RR.nil ?_
    refine CC.seq ?_
    refine CC.region ?_
    refine RR.pv (pv_mv rfl) rfl ?_
    refine RR.pv (pv_mv rfl) rfl ?_
    first | refine RR.pv (pv_ixN rfl rfl st28 (by omega)) rfl ?_ | refine RR.pv (pv_ixZ rfl rfl st28 (by omega)) rfl ?_
    refine RR.pv (pv_ld rfl ct21 (hM21.ht p hq.1)) rfl ?_
    refine RR.pv (pv_as rfl) rfl ?_
    refine RR.nil ?_
    refine CC.seq ?_
    refine CC.region ?_
    refine RR.pv (pv_mv rfl) rfl ?_
    refine RR.pv (pv_mv rfl) rfl ?_
    first | refine RR.pv (pv_ixN rfl rfl st28 (by omega)) rfl ?_ | refine RR.pv (pv_ixZ rfl rfl st28 (by omega)) rfl ?_
    refine RR.pv (pv_ld rfl ct21 (hM21.hb (t p) htp)) rfl ?_
    refine RR.pv (pv_sub32 rfl rfl (by omega)) rfl ?_
    rw [show ((bk (t p) : Nat) : Int) - 1 = ((bk (t p) - 1 : Nat) : Int) from by omega]
    first | refine RR.pv (pv_ixN rfl rfl st28 (by omega)) rfl ?_ | refine RR.pv (pv_ixZ rfl rfl st28 (by omega)) rfl ?_
    refine RR.st rfl rfl ct21 OneV.i (hM21.hb (t p) htp) (hM21.wb _ htp) ?_
    have hM22 := hM21.setB g htp (bk (t p) - 1)
    have hTt22 := tS.tr hTt21 (tS.b l w21 (0 + t p) (.int .i32 ((bk (t p) - 1 : Nat) : Int)))
    generalize w21.setCell _ _ = w22 at hM22 hTt22 ⊢
    refine RR.nil ?_
    have hbc : w22.cell? ⟨l.bb, 0 + t p, none⟩ = some (.int .i32 ((bk (t p) - 1 : Nat) : Int)) := by
      have := hM22.hb (t p) htp
      rw [upd_same] at this; exact this
    refine CC.region ?_
    refine RR.pv (pv_mv rfl) rfl ?_
    refine RR.pv (pv_mv rfl) rfl ?_
    refine RR.pv (pv_mv rfl) rfl ?_
    first | refine RR.pv (pv_ixN rfl rfl st28 (by omega)) rfl ?_ | refine RR.pv (pv_ixZ rfl rfl st28 (by omega)) rfl ?_
    refine RR.pv (pv_ld rfl ct21 (hbc)) rfl ?_
    refine RR.pv (pv_mv rfl) rfl ?_
    first | refine RR.pv (pv_ixN rfl rfl st28 (by omega)) rfl ?_ | refine RR.pv (pv_ixZ rfl rfl st28 (by omega)) rfl ?_
    refine RR.st rfl rfl ct21 OneV.i (hM22.ha (bk (t p) - 1) hbl) (hM22.wa _ hbl) ?_
    have hM23 := hM22.setA g hbl (p : Int)
    have hTt23 := tS.tr hTt22 (tS.a l w22 hbl (.int .i32 (p : Int)))
    generalize w22.setCell _ _ = w23 at hM23 hTt23 ⊢
    refine RR.nil ?_
    refine CC.region ?_
    refine RR.pv (pv_mv rfl) rfl ?_
    refine RR.pv (pv_sub64 rfl rfl (by omega)) rfl ?_
    refine RR.pv (pv_as rfl) rfl ?_
    refine RR.nil ?_
    refine Nxt.go (i, upd (upd A11 i (-1)) (bk (t p) - 1) (p : Int), upd bk (t p) (bk (t p) - 1)) ⟨rfl, rfl, rfl, rfl, rfl, rfl, rfl, rfl, trivial⟩ ⟨by dsimp only; omega, hP', fun x hx => ?_, hM23, hTt23⟩ (by dsimp only; omega)
    dsimp only at hx ⊢
    rw [upd_ne _ _ (by omega), upd_ne _ _ (by omega)]
    exact hlo x (by omega)
  subst hX0
  refine CC.seq ?_
  refine CC.seq ?_
  refine CC.region ?_
  refine RR.pv (pv_mv rfl) rfl ?_
  first | refine RR.pv (pv_geq_t rfl rfl (by omega)) rfl ?_ | refine RR.pv (pv_geq_f rfl rfl (by omega)) rfl ?_ | refine RR.pv (pv_geq rfl rfl) rfl ?_
  refine RR.nil ?_
  refine CC.cond_f rfl ?_
  refine CC.exit ?_
  obtain ⟨hIni2, hSor⟩ := hLS.done hix hP
  clear hP hlo
  refine CC.region ?_
  refine RR.pv (pv_mv rfl) rfl ?_
  refine RR.pv (pv_mv rfl) rfl ?_
  refine RR.pv (pv_mv rfl) rfl ?_
  refine RR.pv (pv_mv rfl) rfl ?_
  refine RR.pv (pv_mv rfl) rfl ?_
  refine RR.call Try.func40 nm40 rfl rfl (induce40_any l t s A11 bk w20 hn (by omega) hkk hk g hM20 hTy hIni2) rfl (fun v21 w21 hpost => ?_)
  obtain ⟨AL, bkL, A12, bk12, hLI, hSP, hM21, hTn⟩ := hpost
  have hTt21 := tS.tr hTt20 hTn
  refine RR.nil ?_
  exact EndQ.r0 Try.results38 ⟨A12, isSA_of hTy hIni2 hk hLI hSP hSor, hM21.ha, hTt21.mono (fun b o hb h => h.elim (fun h => h) (fun h => by omega))⟩

set_option maxHeartbeats 4000000 in
theorem sais33_step (n : Nat) (hn : n ≤ 1048576) (hrec : ∀ m, m < n → SaisOK 38 .i32 m) : SaisOK 33 .u8 n := by
  intro bt ot ct bs os cs k t A00 w hn0 hkk hk hcs ht ha wa hdj
  refine FF.of_cc (l := [_, _, _]) Try.func33 rfl Try.ntmps33 rfl (CC.keep (F := [(0, _), (1, _), (2, _)]) ⟨rfl, rfl, rfl, trivial⟩ ?_)
  refine CC.seq ?_
  refine CC.region ?_
  refine RR.pv (pv_mv rfl) rfl ?_
  refine RR.pv (pv_len rfl st22) rfl ?_
  refine RR.pv (pv_as rfl) rfl ?_
  refine RR.nil ?_
  refine CC.seq ?_
  refine CC.seq ?_
  refine CC.region ?_
  refine RR.pv (pv_mv rfl) rfl ?_
  refine RR.nil ?_
  refine CC.block ?_
  refine CC.seq ?_
  refine CC.region ?_
  first | refine RR.pv (pv_eql_t rfl rfl (by omega)) rfl ?_ | refine RR.pv (pv_eql_f rfl rfl (by omega)) rfl ?_ | refine RR.pv (pv_eql rfl rfl) rfl ?_
  refine RR.pv (pv_as rfl) rfl ?_
  refine RR.nil ?_
  refine CC.cond_f rfl ?_
  by_cases hn1 : n = 1
  · subst hn1
    refine CC.seq ?_
    refine CC.region ?_
    first | refine RR.pv (pv_eql_t rfl rfl (by omega)) rfl ?_ | refine RR.pv (pv_eql_f rfl rfl (by omega)) rfl ?_ | refine RR.pv (pv_eql rfl rfl) rfl ?_
    refine RR.pv (pv_as rfl) rfl ?_
    refine RR.nil ?_
    refine CC.cond_t rfl ?_
    refine CC.seq ?_
    refine CC.region ?_
    refine RR.pv (pv_mv rfl) rfl ?_
    first | refine RR.pv (pv_ixN (i := 0) rfl rfl st28 (by omega)) rfl ?_ | refine RR.pv (pv_ixZ rfl rfl st28 (by omega)) rfl ?_
    refine RR.st rfl rfl ct21 OneV.i (ha 0 (by omega)) (wa 0 (by omega)) ?_
    refine RR.nil ?_
    refine CC.ret ?_
    refine EndQ.r0 Try.results33 ⟨upd A00 0 0, ⟨fun j hj => ⟨0, by omega, ?_⟩, fun j j' hj hj' _ => by omega, fun p hp => ⟨0, by omega, ?_⟩, fun j j' p q hj hj' e e' hl => ?_⟩, ha.set (by omega) 0, (Touch.setCell _ _ _ _).mono (fun b o _ h => ⟨h.1, by omega, by omega⟩)⟩
    · rw [show j = 0 from by omega, upd_same]; rfl
    · rw [show p = 0 from by omega, upd_same]; rfl
    · exfalso
      rw [show j = 0 from by omega, upd_same] at e
      rw [show j' = 0 from by omega, upd_same] at e'
      obtain ⟨d, _, h2⟩ := hl
      rw [show p = 0 from by omega, show q = 0 from by omega] at h2
      omega
  refine CC.seq ?_
  refine CC.region ?_
  first | refine RR.pv (pv_eql_t rfl rfl (by omega)) rfl ?_ | refine RR.pv (pv_eql_f rfl rfl (by omega)) rfl ?_ | refine RR.pv (pv_eql rfl rfl) rfl ?_
  refine RR.pv (pv_as rfl) rfl ?_
  refine RR.nil ?_
  refine CC.cond_f rfl ?_
  have hn2 : 2 ≤ n := by omega
  have hbt : bt < w.heap.size := ht.lt (by omega)
  have hbs : bs < w.heap.size := ha.lt (by omega)
  refine CC.skip ?_
  refine CC.seq ?_
  refine CC.region ?_
  refine RR.pv (pv_mv rfl) rfl ?_
  refine RR.mk36 rfl (by omega) rfl ?_
  have hs1 := SB.new0 w 4 n
  have ws1 := WR.new w (Array.replicate n (.bool false)) 4 0 n
  have ht1 := ht.alloc (.cells (Array.replicate n (.bool false)) 4)
  have hT1 : Touch (fun _ _ => False) w (w.alloc (.cells (Array.replicate n (.bool false)) 4)) := Touch.alloc _ _ _
  generalize w.alloc (.cells (Array.replicate n (.bool false)) 4) = w1 at hs1 ws1 ht1 hT1 ⊢
  obtain ⟨b3, hb3⟩ : ∃ b3, w.heap.size = b3 := ⟨_, rfl⟩
  rw [hb3] at hs1 ws1 ⊢
  refine RR.pv (pv_as rfl) rfl ?_
  refine RR.nil ?_
  refine CC.seq ?_
  refine CC.seq ?_
  refine CC.region ?_
  refine RR.pv (pv_mv rfl) rfl ?_
  first | refine RR.pv (pv_subN (n := 2) rfl rfl (by omega)) rfl ?_ | refine RR.pv (pv_sub64 rfl rfl (by omega)) rfl ?_
  refine RR.pv (pv_as rfl) rfl ?_
  refine RR.nil ?_
  refine CC.block ?_
  refine CC.loop (γ := Nat × (Nat → Bool)) (F := fun g => [(0, .slice (some ⟨bt, ot, none⟩) n ct), (1, .slice (some ⟨bs, os, none⟩) n cs), (2, .int .i64 (k : Int)), (6, .int .i64 (n : Int)), (7, .slice (some ⟨b3, 0, none⟩) n n), (8, .int .i64 ((g.1 : Int) - 1))])
    (I := fun g w' => g.1 < n ∧ SB w' b3 0 n g.2 ∧ WR w' b3 0 n ∧ SN .u8 w' bt ot n t ∧ g.2 (n - 1) = false ∧ (∀ x, g.1 ≤ x → x + 1 < n → (g.2 x = true ↔ t x < t (x + 1) ∨ (t x = t (x + 1) ∧ g.2 (x + 1) = true))) ∧ Touch (fun b o => b = b3) w1 w') (μ := fun g => g.1) (n - 1, fun _ => false)
    ⟨rfl, rfl, rfl, rfl, rfl, by show some _ = some _; congr 2; omega, trivial⟩
    ⟨by dsimp only; omega, hs1, ws1, ht1, rfl, fun x h1 h2 => by dsimp only at h1; omega, Touch.refl _ _⟩ ?_
  rintro ⟨i', s⟩ w2 ⟨hi, hs2, ws2, ht2, hlast, hty, hT2⟩
  dsimp only at hi hs2 hlast hty ⊢
  by_cases h0 : i' = 0
  rotate_left
  · obtain ⟨i, rfl⟩ : ∃ i, i' = i + 1 := ⟨i' - 1, by omega⟩
    rw [show ((i + 1 : Nat) : Int) - 1 = (i : Int) from by omega]
    refine CC.seq ?_
    refine CC.seq ?_
    refine CC.region ?_
    refine RR.pv (pv_mv rfl) rfl ?_
    first | refine RR.pv (pv_geq_t rfl rfl (by omega)) rfl ?_ | refine RR.pv (pv_geq_f rfl rfl (by omega)) rfl ?_ | refine RR.pv (pv_geq rfl rfl) rfl ?_
    refine RR.nil ?_
    refine CC.cond_t rfl ?_
    have hne : bt ≠ b3 := by omega
    have fin : ∀ v : Bool, (v = true ↔ t i < t (i + 1) ∨ (t i = t (i + 1) ∧ s (i + 1) = true)) → ∀ x, i ≤ x → x + 1 < n → (upd s i v x = true ↔ t x < t (x + 1) ∨ (t x = t (x + 1) ∧ upd s i v (x + 1) = true)) := fun v hv x h1 h2 => by
      rw [upd_ne s v (show x + 1 ≠ i from by omega)]
      by_cases e : x = i
      · subst e; rw [upd_same]; exact hv
      · rw [upd_ne _ _ e]; exact hty x (by omega) h2
    rcases Nat.lt_trichotomy (t i) (t (i + 1)) with hc | hc | hc
    · refine CC.skip ?_
      refine CC.seq ?_
      refine CC.block ?_
      refine CC.regionT 31 (by decide +kernel) ?_
      refine RS.pv (pv_mv rfl) rfl ?_
      refine RS.pv (pv_mv rfl) rfl ?_
      refine RS.pv (pv_mv rfl) rfl ?_
      refine RS.pv (pv_mv rfl) rfl ?_
      first | refine RS.pv (pv_ixN rfl rfl st22 (by omega)) rfl ?_ | refine RS.pv (pv_ixZ rfl rfl st22 (by omega)) rfl ?_
      refine RS.pv (pv_ld rfl ct5 (ht2 i (by omega))) rfl ?_
      refine RS.pv (pv_mv rfl) rfl ?_
      refine RS.pv (pv_mv rfl) rfl ?_
      first | refine RS.pv (pv_addN (n := 1) rfl rfl (by omega)) rfl ?_ | refine RS.pv (pv_add64 rfl rfl (by omega)) rfl ?_
      first | refine RS.pv (pv_ixN rfl rfl st22 (by omega)) rfl ?_ | refine RS.pv (pv_ixZ rfl rfl st22 (by omega)) rfl ?_
      refine RS.pv (pv_ld rfl ct5 (ht2 (i + 1) (by omega))) rfl ?_
      first | refine RS.pv (pv_lss_t rfl rfl (by omega)) rfl ?_ | refine RS.pv (pv_lss_f rfl rfl (by omega)) rfl ?_ | refine RS.pv (pv_lss rfl rfl) rfl ?_
      refine RS.pv (pv_mv rfl) rfl ?_
      first | refine RS.gy rfl rfl (pv_mv rfl) rfl ?_ | refine RS.gn rfl rfl rfl rfl ?_ | refine RS.gu rfl rfl rfl ?_
      first | refine RS.gy rfl rfl (pv_mv rfl) rfl ?_ | refine RS.gn rfl rfl rfl rfl ?_ | refine RS.gu rfl rfl rfl ?_
      first | refine RS.gy rfl rfl (pv_ixN rfl rfl st22 (by omega)) rfl ?_ | refine RS.gy rfl rfl (pv_ixZ rfl rfl st22 (by omega)) rfl ?_ | refine RS.gn rfl rfl rfl rfl ?_ | refine RS.gu rfl rfl rfl ?_
      first | refine RS.gy rfl rfl (pv_ld rfl ct5 (ht2 (i + 1) (by omega))) rfl ?_ | refine RS.gn rfl rfl rfl rfl ?_ | refine RS.gu rfl rfl rfl ?_
      first | refine RS.gy rfl rfl (pv_mv rfl) rfl ?_ | refine RS.gn rfl rfl rfl rfl ?_ | refine RS.gu rfl rfl rfl ?_
      first | refine RS.gy rfl rfl (pv_mv rfl) rfl ?_ | refine RS.gn rfl rfl rfl rfl ?_ | refine RS.gu rfl rfl rfl ?_
      first | refine RS.gy rfl rfl (pv_addN (n := 1) rfl rfl (by omega)) rfl ?_ | refine RS.gy rfl rfl (pv_add64 rfl rfl (by omega)) rfl ?_ | refine RS.gn rfl rfl rfl rfl ?_ | refine RS.gu rfl rfl rfl ?_
      first | refine RS.gy rfl rfl (pv_ixN rfl rfl st22 (by omega)) rfl ?_ | refine RS.gy rfl rfl (pv_ixZ rfl rfl st22 (by omega)) rfl ?_ | refine RS.gn rfl rfl rfl rfl ?_ | refine RS.gu rfl rfl rfl ?_
      first | refine RS.gy rfl rfl (pv_ld rfl ct5 (ht2 (i + 1) (by omega))) rfl ?_ | refine RS.gn rfl rfl rfl rfl ?_ | refine RS.gu rfl rfl rfl ?_
      first | refine RS.gy rfl rfl (pv_eql_t rfl rfl (by omega)) rfl ?_ | refine RS.gy rfl rfl (pv_eql_f rfl rfl (by omega)) rfl ?_ | refine RS.gy rfl rfl (pv_eql rfl rfl) rfl ?_ | refine RS.gn rfl rfl rfl rfl ?_ | refine RS.gu rfl rfl rfl ?_
      first | refine RS.gy rfl rfl (pv_mv rfl) rfl ?_ | refine RS.gn rfl rfl rfl rfl ?_ | refine RS.gu rfl rfl rfl ?_
      first | refine RS.gy rfl rfl (pv_mv rfl) rfl ?_ | refine RS.gn rfl rfl rfl rfl ?_ | refine RS.gu rfl rfl rfl ?_
      first | refine RS.gy rfl rfl (pv_mv rfl) rfl ?_ | refine RS.gn rfl rfl rfl rfl ?_ | refine RS.gu rfl rfl rfl ?_
      first | refine RS.gy rfl rfl (pv_addN (n := 1) rfl rfl (by omega)) rfl ?_ | refine RS.gy rfl rfl (pv_add64 rfl rfl (by omega)) rfl ?_ | refine RS.gn rfl rfl rfl rfl ?_ | refine RS.gu rfl rfl rfl ?_
      first | refine RS.gy rfl rfl (pv_ixN rfl rfl st36 (by omega)) rfl ?_ | refine RS.gy rfl rfl (pv_ixZ rfl rfl st36 (by omega)) rfl ?_ | refine RS.gn rfl rfl rfl rfl ?_ | refine RS.gu rfl rfl rfl ?_
      first | refine RS.gy rfl rfl (pv_ld rfl ct4 (ht2 (i + 1) (by omega))) rfl ?_ | refine RS.gn rfl rfl rfl rfl ?_ | refine RS.gu rfl rfl rfl ?_
      first | refine RS.gy rfl rfl (pv_pick_t rfl rfl) rfl ?_ | refine RS.gy rfl rfl (pv_pick_f rfl rfl) rfl ?_ | refine RS.gn rfl rfl rfl rfl ?_ | refine RS.gu rfl rfl rfl ?_
      first | refine RS.pv (pv_pick_t rfl rfl) rfl ?_ | refine RS.pv (pv_pick_f rfl rfl) rfl ?_
      refine RS.nil ?_
      first | refine RR.pv (pv_ixN rfl rfl st36 (by omega)) rfl ?_ | refine RR.pv (pv_ixZ rfl rfl st36 (by omega)) rfl ?_
      refine RR.st rfl rfl ct4 OneV.b (hs2 i (by omega)) (ws2 i (by omega)) ?_
      refine RR.nil ?_
      refine CC.region ?_
      refine RR.pv (pv_mv rfl) rfl ?_
      first | refine RR.pv (pv_subN (n := 1) rfl rfl (by omega)) rfl ?_ | refine RR.pv (pv_sub64 rfl rfl (by omega)) rfl ?_
      refine RR.pv (pv_as rfl) rfl ?_
      refine RR.nil ?_
      refine Nxt.go (i, upd s i true) ⟨rfl, rfl, rfl, rfl, rfl, rfl, trivial⟩ ⟨by dsimp only; omega, hs2.set (by omega) _, ws2.set, ht2.set_ne (fun j hj e => hne e.1), ?_, fin true ⟨fun _ => .inl hc, fun _ => rfl⟩, hT2.trans (Touch.setCell _ _ _ _) (fun _ _ _ h => h) (fun _ _ _ h => h.1)⟩ (by dsimp only; omega)
      dsimp only; rw [upd_ne _ _ (by omega)]; exact hlast
    · refine CC.skip ?_
      refine CC.seq ?_
      refine CC.block ?_
      refine CC.regionT 31 (by decide +kernel) ?_
      refine RS.pv (pv_mv rfl) rfl ?_
      refine RS.pv (pv_mv rfl) rfl ?_
      refine RS.pv (pv_mv rfl) rfl ?_
      refine RS.pv (pv_mv rfl) rfl ?_
      first | refine RS.pv (pv_ixN rfl rfl st22 (by omega)) rfl ?_ | refine RS.pv (pv_ixZ rfl rfl st22 (by omega)) rfl ?_
      refine RS.pv (pv_ld rfl ct5 (ht2 i (by omega))) rfl ?_
      refine RS.pv (pv_mv rfl) rfl ?_
      refine RS.pv (pv_mv rfl) rfl ?_
      first | refine RS.pv (pv_addN (n := 1) rfl rfl (by omega)) rfl ?_ | refine RS.pv (pv_add64 rfl rfl (by omega)) rfl ?_
      first | refine RS.pv (pv_ixN rfl rfl st22 (by omega)) rfl ?_ | refine RS.pv (pv_ixZ rfl rfl st22 (by omega)) rfl ?_
      refine RS.pv (pv_ld rfl ct5 (ht2 (i + 1) (by omega))) rfl ?_
      first | refine RS.pv (pv_lss_t rfl rfl (by omega)) rfl ?_ | refine RS.pv (pv_lss_f rfl rfl (by omega)) rfl ?_ | refine RS.pv (pv_lss rfl rfl) rfl ?_
      refine RS.pv (pv_mv rfl) rfl ?_
      first | refine RS.gy rfl rfl (pv_mv rfl) rfl ?_ | refine RS.gn rfl rfl rfl rfl ?_ | refine RS.gu rfl rfl rfl ?_
      first | refine RS.gy rfl rfl (pv_mv rfl) rfl ?_ | refine RS.gn rfl rfl rfl rfl ?_ | refine RS.gu rfl rfl rfl ?_
      first | refine RS.gy rfl rfl (pv_ixN rfl rfl st22 (by omega)) rfl ?_ | refine RS.gy rfl rfl (pv_ixZ rfl rfl st22 (by omega)) rfl ?_ | refine RS.gn rfl rfl rfl rfl ?_ | refine RS.gu rfl rfl rfl ?_
      first | refine RS.gy rfl rfl (pv_ld rfl ct5 (ht2 i (by omega))) rfl ?_ | refine RS.gn rfl rfl rfl rfl ?_ | refine RS.gu rfl rfl rfl ?_
      first | refine RS.gy rfl rfl (pv_mv rfl) rfl ?_ | refine RS.gn rfl rfl rfl rfl ?_ | refine RS.gu rfl rfl rfl ?_
      first | refine RS.gy rfl rfl (pv_mv rfl) rfl ?_ | refine RS.gn rfl rfl rfl rfl ?_ | refine RS.gu rfl rfl rfl ?_
      first | refine RS.gy rfl rfl (pv_addN (n := 1) rfl rfl (by omega)) rfl ?_ | refine RS.gy rfl rfl (pv_add64 rfl rfl (by omega)) rfl ?_ | refine RS.gn rfl rfl rfl rfl ?_ | refine RS.gu rfl rfl rfl ?_
      first | refine RS.gy rfl rfl (pv_ixN rfl rfl st22 (by omega)) rfl ?_ | refine RS.gy rfl rfl (pv_ixZ rfl rfl st22 (by omega)) rfl ?_ | refine RS.gn rfl rfl rfl rfl ?_ | refine RS.gu rfl rfl rfl ?_
      first | refine RS.gy rfl rfl (pv_ld rfl ct5 (ht2 (i + 1) (by omega))) rfl ?_ | refine RS.gn rfl rfl rfl rfl ?_ | refine RS.gu rfl rfl rfl ?_
      first | refine RS.gy rfl rfl (pv_eql_t rfl rfl (by omega)) rfl ?_ | refine RS.gy rfl rfl (pv_eql_f rfl rfl (by omega)) rfl ?_ | refine RS.gy rfl rfl (pv_eql rfl rfl) rfl ?_ | refine RS.gn rfl rfl rfl rfl ?_ | refine RS.gu rfl rfl rfl ?_
      first | refine RS.gy rfl rfl (pv_mv rfl) rfl ?_ | refine RS.gn rfl rfl rfl rfl ?_ | refine RS.gu rfl rfl rfl ?_
      first | refine RS.gy rfl rfl (pv_mv rfl) rfl ?_ | refine RS.gn rfl rfl rfl rfl ?_ | refine RS.gu rfl rfl rfl ?_
      first | refine RS.gy rfl rfl (pv_mv rfl) rfl ?_ | refine RS.gn rfl rfl rfl rfl ?_ | refine RS.gu rfl rfl rfl ?_
      first | refine RS.gy rfl rfl (pv_addN (n := 1) rfl rfl (by omega)) rfl ?_ | refine RS.gy rfl rfl (pv_add64 rfl rfl (by omega)) rfl ?_ | refine RS.gn rfl rfl rfl rfl ?_ | refine RS.gu rfl rfl rfl ?_
      first | refine RS.gy rfl rfl (pv_ixN rfl rfl st36 (by omega)) rfl ?_ | refine RS.gy rfl rfl (pv_ixZ rfl rfl st36 (by omega)) rfl ?_ | refine RS.gn rfl rfl rfl rfl ?_ | refine RS.gu rfl rfl rfl ?_
      first | refine RS.gy rfl rfl (pv_ld rfl ct4 (hs2 (i + 1) (by omega))) rfl ?_ | refine RS.gn rfl rfl rfl rfl ?_ | refine RS.gu rfl rfl rfl ?_
      first | refine RS.gy rfl rfl (pv_pick_t rfl rfl) rfl ?_ | refine RS.gy rfl rfl (pv_pick_f rfl rfl) rfl ?_ | refine RS.gn rfl rfl rfl rfl ?_ | refine RS.gu rfl rfl rfl ?_
      first | refine RS.pv (pv_pick_t rfl rfl) rfl ?_ | refine RS.pv (pv_pick_f rfl rfl) rfl ?_
      refine RS.nil ?_
      first | refine RR.pv (pv_ixN rfl rfl st36 (by omega)) rfl ?_ | refine RR.pv (pv_ixZ rfl rfl st36 (by omega)) rfl ?_
      refine RR.st rfl rfl ct4 OneV.b (hs2 i (by omega)) (ws2 i (by omega)) ?_
      refine RR.nil ?_
      refine CC.region ?_
      refine RR.pv (pv_mv rfl) rfl ?_
      first | refine RR.pv (pv_subN (n := 1) rfl rfl (by omega)) rfl ?_ | refine RR.pv (pv_sub64 rfl rfl (by omega)) rfl ?_
      refine RR.pv (pv_as rfl) rfl ?_
      refine RR.nil ?_
      refine Nxt.go (i, upd s i (s (i + 1))) ⟨rfl, rfl, rfl, rfl, rfl, rfl, trivial⟩ ⟨by dsimp only; omega, hs2.set (by omega) _, ws2.set, ht2.set_ne (fun j hj e => hne e.1), ?_, fin (s (i + 1)) ⟨fun h => .inr ⟨hc, h⟩, fun h => h.elim (fun h => by omega) (fun h => h.2)⟩, hT2.trans (Touch.setCell _ _ _ _) (fun _ _ _ h => h) (fun _ _ _ h => h.1)⟩ (by dsimp only; omega)
      dsimp only; rw [upd_ne _ _ (by omega)]; exact hlast
    · refine CC.skip ?_
      refine CC.seq ?_
      refine CC.block ?_
      refine CC.regionT 31 (by decide +kernel) ?_
      refine RS.pv (pv_mv rfl) rfl ?_
      refine RS.pv (pv_mv rfl) rfl ?_
      refine RS.pv (pv_mv rfl) rfl ?_
      refine RS.pv (pv_mv rfl) rfl ?_
      first | refine RS.pv (pv_ixN rfl rfl st22 (by omega)) rfl ?_ | refine RS.pv (pv_ixZ rfl rfl st22 (by omega)) rfl ?_
      refine RS.pv (pv_ld rfl ct5 (ht2 i (by omega))) rfl ?_
      refine RS.pv (pv_mv rfl) rfl ?_
      refine RS.pv (pv_mv rfl) rfl ?_
      first | refine RS.pv (pv_addN (n := 1) rfl rfl (by omega)) rfl ?_ | refine RS.pv (pv_add64 rfl rfl (by omega)) rfl ?_
      first | refine RS.pv (pv_ixN rfl rfl st22 (by omega)) rfl ?_ | refine RS.pv (pv_ixZ rfl rfl st22 (by omega)) rfl ?_
      refine RS.pv (pv_ld rfl ct5 (ht2 (i + 1) (by omega))) rfl ?_
      first | refine RS.pv (pv_lss_t rfl rfl (by omega)) rfl ?_ | refine RS.pv (pv_lss_f rfl rfl (by omega)) rfl ?_ | refine RS.pv (pv_lss rfl rfl) rfl ?_
      refine RS.pv (pv_mv rfl) rfl ?_
      first | refine RS.gy rfl rfl (pv_mv rfl) rfl ?_ | refine RS.gn rfl rfl rfl rfl ?_ | refine RS.gu rfl rfl rfl ?_
      first | refine RS.gy rfl rfl (pv_mv rfl) rfl ?_ | refine RS.gn rfl rfl rfl rfl ?_ | refine RS.gu rfl rfl rfl ?_
      first | refine RS.gy rfl rfl (pv_ixN rfl rfl st22 (by omega)) rfl ?_ | refine RS.gy rfl rfl (pv_ixZ rfl rfl st22 (by omega)) rfl ?_ | refine RS.gn rfl rfl rfl rfl ?_ | refine RS.gu rfl rfl rfl ?_
      first | refine RS.gy rfl rfl (pv_ld rfl ct5 (ht2 i (by omega))) rfl ?_ | refine RS.gn rfl rfl rfl rfl ?_ | refine RS.gu rfl rfl rfl ?_
      first | refine RS.gy rfl rfl (pv_mv rfl) rfl ?_ | refine RS.gn rfl rfl rfl rfl ?_ | refine RS.gu rfl rfl rfl ?_
      first | refine RS.gy rfl rfl (pv_mv rfl) rfl ?_ | refine RS.gn rfl rfl rfl rfl ?_ | refine RS.gu rfl rfl rfl ?_
      first | refine RS.gy rfl rfl (pv_addN (n := 1) rfl rfl (by omega)) rfl ?_ | refine RS.gy rfl rfl (pv_add64 rfl rfl (by omega)) rfl ?_ | refine RS.gn rfl rfl rfl rfl ?_ | refine RS.gu rfl rfl rfl ?_
      first | refine RS.gy rfl rfl (pv_ixN rfl rfl st22 (by omega)) rfl ?_ | refine RS.gy rfl rfl (pv_ixZ rfl rfl st22 (by omega)) rfl ?_ | refine RS.gn rfl rfl rfl rfl ?_ | refine RS.gu rfl rfl rfl ?_
      first | refine RS.gy rfl rfl (pv_ld rfl ct5 (ht2 (i + 1) (by omega))) rfl ?_ | refine RS.gn rfl rfl rfl rfl ?_ | refine RS.gu rfl rfl rfl ?_
      first | refine RS.gy rfl rfl (pv_eql_t rfl rfl (by omega)) rfl ?_ | refine RS.gy rfl rfl (pv_eql_f rfl rfl (by omega)) rfl ?_ | refine RS.gy rfl rfl (pv_eql rfl rfl) rfl ?_ | refine RS.gn rfl rfl rfl rfl ?_ | refine RS.gu rfl rfl rfl ?_
      first | refine RS.gy rfl rfl (pv_mv rfl) rfl ?_ | refine RS.gn rfl rfl rfl rfl ?_ | refine RS.gu rfl rfl rfl ?_
      first | refine RS.gy rfl rfl (pv_mv rfl) rfl ?_ | refine RS.gn rfl rfl rfl rfl ?_ | refine RS.gu rfl rfl rfl ?_
      first | refine RS.gy rfl rfl (pv_mv rfl) rfl ?_ | refine RS.gn rfl rfl rfl rfl ?_ | refine RS.gu rfl rfl rfl ?_
      first | refine RS.gy rfl rfl (pv_addN (n := 1) rfl rfl (by omega)) rfl ?_ | refine RS.gy rfl rfl (pv_add64 rfl rfl (by omega)) rfl ?_ | refine RS.gn rfl rfl rfl rfl ?_ | refine RS.gu rfl rfl rfl ?_
      first | refine RS.gy rfl rfl (pv_ixN rfl rfl st36 (by omega)) rfl ?_ | refine RS.gy rfl rfl (pv_ixZ rfl rfl st36 (by omega)) rfl ?_ | refine RS.gn rfl rfl rfl rfl ?_ | refine RS.gu rfl rfl rfl ?_
      first | refine RS.gy rfl rfl (pv_ld rfl ct4 (hs2 (i + 1) (by omega))) rfl ?_ | refine RS.gn rfl rfl rfl rfl ?_ | refine RS.gu rfl rfl rfl ?_
      first | refine RS.gy rfl rfl (pv_pick_t rfl rfl) rfl ?_ | refine RS.gy rfl rfl (pv_pick_f rfl rfl) rfl ?_ | refine RS.gn rfl rfl rfl rfl ?_ | refine RS.gu rfl rfl rfl ?_
      first | refine RS.pv (pv_pick_t rfl rfl) rfl ?_ | refine RS.pv (pv_pick_f rfl rfl) rfl ?_
      refine RS.nil ?_
      first | refine RR.pv (pv_ixN rfl rfl st36 (by omega)) rfl ?_ | refine RR.pv (pv_ixZ rfl rfl st36 (by omega)) rfl ?_
      refine RR.st rfl rfl ct4 OneV.b (hs2 i (by omega)) (ws2 i (by omega)) ?_
      refine RR.nil ?_
      refine CC.region ?_
      refine RR.pv (pv_mv rfl) rfl ?_
      first | refine RR.pv (pv_subN (n := 1) rfl rfl (by omega)) rfl ?_ | refine RR.pv (pv_sub64 rfl rfl (by omega)) rfl ?_
      refine RR.pv (pv_as rfl) rfl ?_
      refine RR.nil ?_
      refine Nxt.go (i, upd s i false) ⟨rfl, rfl, rfl, rfl, rfl, rfl, trivial⟩ ⟨by dsimp only; omega, hs2.set (by omega) _, ws2.set, ht2.set_ne (fun j hj e => hne e.1), ?_, fin false ⟨fun h => Bool.noConfusion h, fun h => by omega⟩, hT2.trans (Touch.setCell _ _ _ _) (fun _ _ _ h => h) (fun _ _ _ h => h.1)⟩ (by dsimp only; omega)
      dsimp only; rw [upd_ne _ _ (by omega)]; exact hlast
  subst h0
  have hTy : Ty n t s := ⟨fun _ => hlast, fun i hi => hty i (Nat.zero_le _) hi⟩
  have hTw2 : Touch (fun _ _ => False) w w2 := hT1.trans hT2 (fun _ _ _ h => h) (fun b o hb h => by omega)
  have hb32 : b3 < w2.heap.size := hs2.lt (by omega)
  clear hty hlast hT2 hT1 hs1 ws1 ht1 ht
  refine CC.seq ?_
  refine CC.seq ?_
  refine CC.region ?_
  refine RR.pv (pv_mv rfl) rfl ?_
  first | refine RR.pv (pv_geq_t rfl rfl (by omega)) rfl ?_ | refine RR.pv (pv_geq_f rfl rfl (by omega)) rfl ?_ | refine RR.pv (pv_geq rfl rfl) rfl ?_
  refine RR.nil ?_
  refine CC.cond_f rfl ?_
  refine CC.exit ?_
  have hk0 : 0 < k := by have := hk 0 (by omega); omega
  refine CC.seq ?_
  refine CC.region ?_
  refine RR.pv (pv_mv rfl) rfl ?_
  refine RR.mk28 rfl (by omega) rfl ?_
  have hc3 := SN.new0 .i32 w2 21 k
  have wc3 := WR.new w2 (Array.replicate k (.int .i32 0)) 21 0 k
  have ht3 := ht2.alloc (.cells (Array.replicate k (.int .i32 0)) 21)
  have hs3 := hs2.alloc (.cells (Array.replicate k (.int .i32 0)) 21)
  have hT3 : Touch (fun _ _ => False) w (w2.alloc (.cells (Array.replicate k (.int .i32 0)) 21)) := hTw2.trans (Touch.alloc (fun _ _ => False) _ _) (fun _ _ _ h => h) (fun _ _ _ h => h)
  generalize w2.alloc (.cells (Array.replicate k (.int .i32 0)) 21) = w3 at hc3 wc3 ht3 hs3 hT3 ⊢
  obtain ⟨bc, hbc⟩ : ∃ bc, w2.heap.size = bc := ⟨_, rfl⟩
  rw [hbc] at hc3 wc3 hb32 ⊢
  have hbw2 : w.heap.size ≤ bc := by have := hTw2.size; omega
  clear ht2 hs2 ws2 hTw2
  refine RR.pv (pv_as rfl) rfl ?_
  refine RR.nil ?_
  refine CC.seq ?_
  refine CC.seq ?_
  refine CC.region ?_
  refine RR.pv (pv_mv rfl) rfl ?_
  refine RR.pv (pv_len rfl st22) rfl ?_
  refine RR.pv (pv_mv rfl) rfl ?_
  refine RR.nil ?_
  refine CC.block ?_
  refine CC.loop (γ := Nat) (F := fun i => [(0, .slice (some ⟨bt, ot, none⟩) n ct), (1, .slice (some ⟨bs, os, none⟩) n cs), (2, .int .i64 (k : Int)), (6, .int .i64 (n : Int)), (7, .slice (some ⟨b3, 0, none⟩) n n), (9, .slice (some ⟨bc, 0, none⟩) k k), (87, .slice (some ⟨bt, ot, none⟩) n ct), (88, .int .i64 (n : Int)), (89, .int .i64 (i : Int))])
    (I := fun i w' => i ≤ n ∧ SN .i32 w' bc 0 k (Nc i t) ∧ WR w' bc 0 k ∧ SN .u8 w' bt ot n t ∧ SB w' b3 0 n s ∧ Touch (fun b o => b = bc) w3 w') (μ := fun i => n - i) 0
    ⟨rfl, rfl, rfl, rfl, rfl, rfl, rfl, rfl, rfl, trivial⟩
    ⟨Nat.zero_le _, hc3, wc3, ht3, hs3, Touch.refl _ _⟩ ?_
  rintro i w4 ⟨hi, hc4, wc4, ht4, hs4, hT4⟩
  by_cases hlt : i < n
  · have hti := hk i hlt
    have hle : Nc i t (t i) ≤ i := Sa.cnt_le_n _ _
    refine CC.seq ?_
    refine CC.region ?_
    first | refine RR.pv (pv_lss_t rfl rfl (by omega)) rfl ?_ | refine RR.pv (pv_lss_f rfl rfl (by omega)) rfl ?_ | refine RR.pv (pv_lss rfl rfl) rfl ?_
    refine RR.nil ?_
    refine CC.seq ?_
    refine CC.cond_t rfl ?_
    refine CC.skip ?_
    refine CC.seq ?_
    refine CC.block ?_
    refine CC.seq ?_
    refine CC.region ?_
    first | refine RR.pv (pv_ixN rfl rfl st22 (by omega)) rfl ?_ | refine RR.pv (pv_ixZ rfl rfl st22 (by omega)) rfl ?_
    refine RR.pv (pv_ld rfl ct5 (ht4 i hlt)) rfl ?_
    refine RR.pv (pv_as rfl) rfl ?_
    refine RR.nil ?_
    refine CC.region ?_
    refine RR.pv (pv_mv rfl) rfl ?_
    refine RR.pv (pv_mv rfl) rfl ?_
    first | refine RR.pv (pv_ixN rfl rfl st28 (by omega)) rfl ?_ | refine RR.pv (pv_ixZ rfl rfl st28 (by omega)) rfl ?_
    refine RR.pv (pv_ld rfl ct21 (hc4 (t i) hti)) rfl ?_
    refine RR.pv (pv_add32 rfl rfl (by omega)) rfl ?_
    rw [show ((Nc i t (t i) : Nat) : Int) + 1 = ((Nc i t (t i) + 1 : Nat) : Int) from by omega]
    first | refine RR.pv (pv_ixN rfl rfl st28 (by omega)) rfl ?_ | refine RR.pv (pv_ixZ rfl rfl st28 (by omega)) rfl ?_
    refine RR.st rfl rfl ct21 OneV.i (hc4 (t i) hti) (wc4 _ hti) ?_
    refine RR.nil ?_
    refine CC.region ?_
    first | refine RR.pv (pv_addN (n := 1) rfl rfl (by omega)) rfl ?_ | refine RR.pv (pv_add64 rfl rfl (by omega)) rfl ?_
    refine RR.pv (pv_mv rfl) rfl ?_
    refine RR.nil ?_
    refine Nxt.go (i + 1) ⟨rfl, rfl, rfl, rfl, rfl, rfl, rfl, rfl, rfl, trivial⟩ ⟨hlt, ((hc4.set hti _).v.congr (fun c _ => ?_)).nn, wc4.set, ht4.set_ne (fun j hj e => by have := e.1; omega), hs4.set_ne (fun j hj e => by have := e.1; omega), hT4.trans (Touch.setCell _ _ _ _) (fun _ _ _ h => h) (fun _ _ _ h => h.1)⟩ (by omega)
    show upd (Nc i t) (t i) (Nc i t (t i) + 1) c = Sym.cnt _ (i + 1)
    rw [Sa.cnt_succ]
    by_cases e : c = t i
    · subst e; rw [upd_same]; simp [Nc]
    · rw [upd_ne _ _ e, if_neg (by simp; exact fun e' => e e'.symm)]; rfl
  have hin : i = n := by omega
  subst hin
  refine CC.seq ?_
  refine CC.region ?_
  first | refine RR.pv (pv_lss_t rfl rfl (by omega)) rfl ?_ | refine RR.pv (pv_lss_f rfl rfl (by omega)) rfl ?_ | refine RR.pv (pv_lss rfl rfl) rfl ?_
  refine RR.nil ?_
  refine CC.seq ?_
  refine CC.cond_f rfl ?_
  refine CC.exit ?_
  have hTw4 : Touch (fun _ _ => False) w w4 := hT3.trans hT4 (fun _ _ _ h => h) (fun b o hb h => by omega)
  have hbc4 : bc < w4.heap.size := hc4.lt hk0
  clear hT3 hT4 hc3 wc3 ht3 hs3
  refine CC.seq ?_
  refine CC.region ?_
  refine RR.pv (pv_mv rfl) rfl ?_
  refine RR.mk28 rfl (by omega) rfl ?_
  have hb5 := SN.new0 .i32 w4 21 k
  have wb5 := WR.new w4 (Array.replicate k (.int .i32 0)) 21 0 k
  have ht5 := ht4.alloc (.cells (Array.replicate k (.int .i32 0)) 21)
  have hs5 := hs4.alloc (.cells (Array.replicate k (.int .i32 0)) 21)
  have hc5 := hc4.alloc (.cells (Array.replicate k (.int .i32 0)) 21)
  have hT5 : Touch (fun _ _ => False) w (w4.alloc (.cells (Array.replicate k (.int .i32 0)) 21)) := hTw4.trans (Touch.alloc (fun _ _ => False) _ _) (fun _ _ _ h => h) (fun _ _ _ h => h)
  have ha5 := ha.touch hT5 (fun _ _ h => h)
  have wa5 := wa.touch (fun _ => hbs) hT5
  generalize w4.alloc (.cells (Array.replicate k (.int .i32 0)) 21) = w5 at hb5 wb5 ht5 hs5 hc5 hT5 ha5 wa5 ⊢
  obtain ⟨bb, hbb⟩ : ∃ bb, w4.heap.size = bb := ⟨_, rfl⟩
  rw [hbb] at hb5 wb5 hbc4 ⊢
  have hwb : w.heap.size ≤ bb := by have := hTw4.size; omega
  refine RR.pv (pv_as rfl) rfl ?_
  refine RR.nil ?_
  clear ht4 hs4 hc4 wc4 hTw4 ha wa
  obtain ⟨l, rfl, rfl, rfl, rfl, rfl, rfl, rfl, rfl, rfl, rfl, rfl⟩ : ∃ l : Lay, l.bt = bt ∧ l.ot = ot ∧ l.ct = ct ∧ l.bs = bs ∧ l.os = os ∧ l.cs = cs ∧ l.b3 = b3 ∧ l.bb = bb ∧ l.bc = bc ∧ l.n = i ∧ l.k = k := ⟨⟨bt, ot, ct, bs, os, cs, b3, bb, bc, i, k⟩, rfl, rfl, rfl, rfl, rfl, rfl, rfl, rfl, rfl, rfl, rfl⟩
  have g : Geo l := ⟨hdj, by omega, by omega, by omega, by omega, by omega, by omega⟩
  have hM5 : M5 .u8 l t s (Nc l.n t) A00 (fun _ => 0) w5 := ⟨ht5, hs5, ha5, wa5, hb5, wb5, hc5⟩
  have hTt5 : Touch (tS l) w w5 := hT5.mono (fun _ _ _ h => h.elim)
  clear ht5 hs5 ha5 wa5 hb5 wb5 hc5 hT5 hbb hbc hdj
  -- sa[i] = -1
  refine CC.seq ?_
  refine CC.seq ?_
  refine CC.region ?_
  refine RR.pv (pv_mv rfl) rfl ?_
  refine RR.pv (pv_len rfl st28) rfl ?_
  refine RR.pv (pv_mv rfl) rfl ?_
  refine RR.nil ?_
  refine CC.block ?_
  refine CC.loop (γ := Nat × (Nat → Int)) (F := fun g => [(0, .slice (some ⟨l.bt, l.ot, none⟩) l.n l.ct), (1, .slice (some ⟨l.bs, l.os, none⟩) l.n l.cs), (2, .int .i64 (l.k : Int)), (6, .int .i64 (l.n : Int)), (7, .slice (some ⟨l.b3, 0, none⟩) l.n l.n), (9, .slice (some ⟨l.bc, 0, none⟩) l.k l.k), (12, .slice (some ⟨l.bb, 0, none⟩) l.k l.k), (103, .int .i64 (l.n : Int)), (104, .int .i64 (g.1 : Int))])
    (I := fun g w' => g.1 ≤ l.n ∧ M5 .u8 l t s (Nc l.n t) g.2 (fun _ => 0) w' ∧ (∀ j, j < g.1 → g.2 j = -1) ∧ Touch (tS l) w w') (μ := fun g => l.n - g.1) (0, _)
    ⟨rfl, rfl, rfl, rfl, rfl, rfl, rfl, rfl, rfl, trivial⟩
    ⟨Nat.zero_le _, hM5, fun j hj => absurd hj (Nat.not_lt_zero _), hTt5⟩ ?_
  clear hM5 hTt5
  rintro ⟨i, A⟩ w6 ⟨hi, hM6, hall, hTt6⟩
  dsimp only at hi hM6 hall ⊢
  by_cases hlt : i < l.n
  · refine CC.seq ?_
    refine CC.region ?_
    first | refine RR.pv (pv_lss_t rfl rfl (by omega)) rfl ?_ | refine RR.pv (pv_lss_f rfl rfl (by omega)) rfl ?_ | refine RR.pv (pv_lss rfl rfl) rfl ?_
    refine RR.nil ?_
    refine CC.seq ?_
    refine CC.cond_t rfl ?_
    refine CC.skip ?_
    refine CC.seq ?_
    refine CC.block ?_
    refine CC.seq ?_
    refine CC.region ?_
    refine RR.pv (pv_mv rfl) rfl ?_
    refine RR.pv (pv_as rfl) rfl ?_
    refine RR.nil ?_
    refine CC.region ?_
    refine RR.pv (pv_mv rfl) rfl ?_
    refine RR.pv (pv_mv rfl) rfl ?_
    first | refine RR.pv (pv_ixN rfl rfl st28 (by omega)) rfl ?_ | refine RR.pv (pv_ixZ rfl rfl st28 (by omega)) rfl ?_
    refine RR.st rfl rfl ct21 OneV.i (hM6.ha i hlt) (hM6.wa _ hlt) ?_
    refine RR.nil ?_
    refine CC.region ?_
    first | refine RR.pv (pv_addN (n := 1) rfl rfl (by omega)) rfl ?_ | refine RR.pv (pv_add64 rfl rfl (by omega)) rfl ?_
    refine RR.pv (pv_mv rfl) rfl ?_
    refine RR.nil ?_
    refine Nxt.go (i + 1, upd A i (-1)) ⟨rfl, rfl, rfl, rfl, rfl, rfl, rfl, rfl, rfl, trivial⟩ ⟨hlt, hM6.setA g hlt _, fun j hj => ?_, tS.tr hTt6 (tS.a l w6 hlt _)⟩ (by dsimp only; omega)
    dsimp only at hj ⊢
    by_cases e : j = i
    · subst e; rw [upd_same]
    · rw [upd_ne _ _ e]; exact hall j (by omega)
  have hin : i = l.n := by omega
  subst hin
  refine CC.seq ?_
  refine CC.region ?_
  first | refine RR.pv (pv_lss_t rfl rfl (by omega)) rfl ?_ | refine RR.pv (pv_lss_f rfl rfl (by omega)) rfl ?_ | refine RR.pv (pv_lss rfl rfl) rfl ?_
  refine RR.nil ?_
  refine CC.seq ?_
  refine CC.cond_f rfl ?_
  refine CC.exit ?_
  have hl0 := lay_begin (t := t) (s := s) hall
  refine CC.seq ?_
  refine CC.region ?_
  refine RR.pv (pv_mv rfl) rfl ?_
  refine RR.pv (pv_mv rfl) rfl ?_
  refine RR.call Try.func35 nm35 rfl rfl (bucketEnds_any l.bb l.bc l.n l.k t _ w6 hn hkk g.cb hM6.hb hM6.wb hM6.hc) rfl (fun v7 w7 ⟨hb7, hT7⟩ => ?_)
  refine RR.nil ?_
  have hM7 := hM6.bkTouch g (by omega) hk0 hT7 hb7
  have hTt7 : Touch (tS l) w w7 := tS.tr hTt6 (hT7.mono (fun b o _ h => .inr h))
  clear hM6 hT7 hb7 hTt6 hall
  -- the LMS positions at the ends of their buckets
  refine CC.seq ?_
  refine CC.seq ?_
  refine CC.region ?_
  refine RR.pv (pv_as rfl) rfl ?_
  refine RR.nil ?_
  refine CC.block ?_
  refine CC.loop (γ := Nat × (Nat → Int) × (Nat → Nat)) (F := fun g => [(0, .slice (some ⟨l.bt, l.ot, none⟩) l.n l.ct), (1, .slice (some ⟨l.bs, l.os, none⟩) l.n l.cs), (2, .int .i64 (l.k : Int)), (6, .int .i64 (l.n : Int)), (7, .slice (some ⟨l.b3, 0, none⟩) l.n l.n), (9, .slice (some ⟨l.bc, 0, none⟩) l.k l.k), (12, .slice (some ⟨l.bb, 0, none⟩) l.k l.k), (14, .int .i64 (g.1 : Int))])
    (I := fun g w' => 1 ≤ g.1 ∧ g.1 ≤ l.n ∧ PI l.n t s (fun p => lms s p && decide (p < g.1)) (fun p => l.n - p) 0 g.2.1 g.2.2 ∧ M5 .u8 l t s (Nc l.n t) g.2.1 g.2.2 w' ∧ Touch (tS l) w w') (μ := fun g => l.n - g.1) (1, _, _)
    ⟨rfl, rfl, rfl, rfl, rfl, rfl, rfl, rfl, trivial⟩
    ⟨Nat.le_refl _, by dsimp only; omega, hl0, hM7, hTt7⟩ ?_
  clear hM7 hTt7 hl0
  rintro ⟨i, A1, bk⟩ w8 ⟨hi1, hi, hPI, hM8, hTt8⟩
  dsimp only at hi1 hi hPI hM8 ⊢
  by_cases hlt : i < l.n
  · refine CC.seq ?_
    refine CC.seq ?_
    refine CC.region ?_
    refine RR.pv (pv_mv rfl) rfl ?_
    refine RR.pv (pv_mv rfl) rfl ?_
    first | refine RR.pv (pv_lss_t rfl rfl (by omega)) rfl ?_ | refine RR.pv (pv_lss_f rfl rfl (by omega)) rfl ?_ | refine RR.pv (pv_lss rfl rfl) rfl ?_
    refine RR.nil ?_
    refine CC.cond_t rfl ?_
    by_cases hl : lms s i = true
    · have hll := lms_iff.1 hl
      have hc1 : w8.cell? ⟨l.b3, 0 + i, none⟩ = some (.bool true) := by rw [← hll.2.1]; exact hM8.hs i hlt
      have hc2 : w8.cell? ⟨l.b3, 0 + (i - 1), none⟩ = some (.bool false) := by rw [← hll.2.2]; exact hM8.hs (i - 1) (by omega)
      have hti := hk i hlt
      obtain ⟨hb0, hbn, hPI'⟩ := lay_push hPI hlt hl
      have hbl : bk (t i) - 1 < l.n := by omega
      refine CC.skip ?_
      refine CC.seq ?_
      refine CC.block ?_
      refine CC.seq ?_
      refine CC.region ?_
      refine RR.pv (pv_mv rfl) rfl ?_
      refine RR.pv (pv_mv rfl) rfl ?_
      first | refine RR.pv (pv_ixN rfl rfl st36 (by omega)) rfl ?_ | refine RR.pv (pv_ixZ rfl rfl st36 (by omega)) rfl ?_
      refine RR.pv (pv_ld rfl ct4 (hc1)) rfl ?_
      refine RR.pv (pv_mv rfl) rfl ?_
      first | refine RR.gy rfl rfl (pv_mv rfl) rfl ?_ | refine RR.gn rfl rfl rfl rfl ?_
      first | refine RR.gy rfl rfl (pv_mv rfl) rfl ?_ | refine RR.gn rfl rfl rfl rfl ?_
      first | refine RR.gy rfl rfl (pv_subN (n := 1) rfl rfl (by omega)) rfl ?_ | refine RR.gy rfl rfl (pv_sub64 rfl rfl (by omega)) rfl ?_ | refine RR.gn rfl rfl rfl rfl ?_
      first | refine RR.gy rfl rfl (pv_ixN rfl rfl st36 (by omega)) rfl ?_ | refine RR.gy rfl rfl (pv_ixZ rfl rfl st36 (by omega)) rfl ?_ | refine RR.gn rfl rfl rfl rfl ?_
      first | refine RR.gy rfl rfl (pv_ld rfl ct4 (hc2)) rfl ?_ | refine RR.gn rfl rfl rfl rfl ?_
      first | refine RR.gy rfl rfl (pv_not_t rfl) rfl ?_ | refine RR.gy rfl rfl (pv_not_f rfl) rfl ?_ | refine RR.gy rfl rfl (pv_not rfl) rfl ?_ | refine RR.gn rfl rfl rfl rfl ?_
      first | refine RR.pv (pv_pick_t rfl rfl) rfl ?_ | refine RR.pv (pv_pick_f rfl rfl) rfl ?_
      refine RR.nil ?_
      refine CC.cond_t rfl ?_
      refine CC.seq ?_
      refine CC.region ?_
      refine RR.pv (pv_mv rfl) rfl ?_
      refine RR.pv (pv_mv rfl) rfl ?_
      first | refine RR.pv (pv_ixN rfl rfl st22 (by omega)) rfl ?_ | refine RR.pv (pv_ixZ rfl rfl st22 (by omega)) rfl ?_
      refine RR.pv (pv_ld rfl ct5 (hM8.ht i hlt)) rfl ?_
      refine RR.pv (pv_as rfl) rfl ?_
      refine RR.nil ?_
      refine CC.seq ?_
      refine CC.region ?_
      refine RR.pv (pv_mv rfl) rfl ?_
      refine RR.pv (pv_mv rfl) rfl ?_
      first | refine RR.pv (pv_ixN rfl rfl st28 (by omega)) rfl ?_ | refine RR.pv (pv_ixZ rfl rfl st28 (by omega)) rfl ?_
      refine RR.pv (pv_ld rfl ct21 (hM8.hb (t i) hti)) rfl ?_
      refine RR.pv (pv_sub32 rfl rfl (by omega)) rfl ?_
      rw [show ((bk (t i) : Nat) : Int) - 1 = ((bk (t i) - 1 : Nat) : Int) from by omega]
      first | refine RR.pv (pv_ixN rfl rfl st28 (by omega)) rfl ?_ | refine RR.pv (pv_ixZ rfl rfl st28 (by omega)) rfl ?_
      refine RR.st rfl rfl ct21 OneV.i (hM8.hb (t i) hti) (hM8.wb _ hti) ?_
      have hM9 := hM8.setB g hti (bk (t i) - 1)
      have hTt9 := tS.tr hTt8 (tS.b l w8 (0 + t i) (.int .i32 ((bk (t i) - 1 : Nat) : Int)))
      generalize w8.setCell _ _ = w9 at hM9 hTt9 ⊢
      refine RR.nil ?_
      have hbc : w9.cell? ⟨l.bb, 0 + t i, none⟩ = some (.int .i32 ((bk (t i) - 1 : Nat) : Int)) := by
        have := hM9.hb (t i) hti
        rw [upd_same] at this; exact this
      refine CC.region ?_
      refine RR.pv (pv_mv rfl) rfl ?_
      refine RR.pv (pv_mv rfl) rfl ?_
      refine RR.pv (pv_mv rfl) rfl ?_
      first | refine RR.pv (pv_ixN rfl rfl st28 (by omega)) rfl ?_ | refine RR.pv (pv_ixZ rfl rfl st28 (by omega)) rfl ?_
      refine RR.pv (pv_ld rfl ct21 (hbc)) rfl ?_
      refine RR.pv (pv_mv rfl) rfl ?_
      first | refine RR.pv (pv_c3_21 rfl (by omega)) rfl ?_ | refine RR.pv (pv_c3_21w rfl) rfl ?_
      first | refine RR.pv (pv_ixN rfl rfl st28 (by omega)) rfl ?_ | refine RR.pv (pv_ixZ rfl rfl st28 (by omega)) rfl ?_
      refine RR.st rfl rfl ct21 OneV.i (hM9.ha (bk (t i) - 1) hbl) (hM9.wa _ hbl) ?_
      have hM10 := hM9.setA g hbl (i : Int)
      have hTt10 := tS.tr hTt9 (tS.a l w9 hbl (.int .i32 (i : Int)))
      generalize w9.setCell _ _ = w10 at hM10 hTt10 ⊢
      refine RR.nil ?_
      refine CC.region ?_
      refine RR.pv (pv_mv rfl) rfl ?_
      first | refine RR.pv (pv_addN (n := 1) rfl rfl (by omega)) rfl ?_ | refine RR.pv (pv_add64 rfl rfl (by omega)) rfl ?_
      refine RR.pv (pv_as rfl) rfl ?_
      refine RR.nil ?_
      exact Nxt.go (i + 1, _, _) ⟨rfl, rfl, rfl, rfl, rfl, rfl, rfl, rfl, trivial⟩ ⟨by dsimp only; omega, hlt, hPI', hM10, hTt10⟩ (by dsimp only; omega)
    have hl' : lms s i = false := by simpa using hl
    have hPI' := lay_pass hPI hl'
    by_cases hsi : s i = true
    · have hsj : s (i - 1) = true := by
        cases h6 : s (i - 1) with
        | false => exact absurd (lms_iff.2 ⟨by omega, hsi, h6⟩) hl
        | true => rfl
      have hc1 : w8.cell? ⟨l.b3, 0 + i, none⟩ = some (.bool true) := by rw [← hsi]; exact hM8.hs i hlt
      have hc2 : w8.cell? ⟨l.b3, 0 + (i - 1), none⟩ = some (.bool true) := by rw [← hsj]; exact hM8.hs (i - 1) (by omega)
      refine CC.skip ?_
      refine CC.seq ?_
      refine CC.block ?_
      refine CC.seq ?_
      refine CC.region ?_
      refine RR.pv (pv_mv rfl) rfl ?_
      refine RR.pv (pv_mv rfl) rfl ?_
      first | refine RR.pv (pv_ixN rfl rfl st36 (by omega)) rfl ?_ | refine RR.pv (pv_ixZ rfl rfl st36 (by omega)) rfl ?_
      refine RR.pv (pv_ld rfl ct4 (hc1)) rfl ?_
      refine RR.pv (pv_mv rfl) rfl ?_
      first | refine RR.gy rfl rfl (pv_mv rfl) rfl ?_ | refine RR.gn rfl rfl rfl rfl ?_
      first | refine RR.gy rfl rfl (pv_mv rfl) rfl ?_ | refine RR.gn rfl rfl rfl rfl ?_
      first | refine RR.gy rfl rfl (pv_subN (n := 1) rfl rfl (by omega)) rfl ?_ | refine RR.gy rfl rfl (pv_sub64 rfl rfl (by omega)) rfl ?_ | refine RR.gn rfl rfl rfl rfl ?_
      first | refine RR.gy rfl rfl (pv_ixN rfl rfl st36 (by omega)) rfl ?_ | refine RR.gy rfl rfl (pv_ixZ rfl rfl st36 (by omega)) rfl ?_ | refine RR.gn rfl rfl rfl rfl ?_
      first | refine RR.gy rfl rfl (pv_ld rfl ct4 (hc2)) rfl ?_ | refine RR.gn rfl rfl rfl rfl ?_
      first | refine RR.gy rfl rfl (pv_not_t rfl) rfl ?_ | refine RR.gy rfl rfl (pv_not_f rfl) rfl ?_ | refine RR.gy rfl rfl (pv_not rfl) rfl ?_ | refine RR.gn rfl rfl rfl rfl ?_
      first | refine RR.pv (pv_pick_t rfl rfl) rfl ?_ | refine RR.pv (pv_pick_f rfl rfl) rfl ?_
      refine RR.nil ?_
      refine CC.cond_f rfl ?_
      refine CC.skip ?_
      refine CC.region ?_
      refine RR.pv (pv_mv rfl) rfl ?_
      first | refine RR.pv (pv_addN (n := 1) rfl rfl (by omega)) rfl ?_ | refine RR.pv (pv_add64 rfl rfl (by omega)) rfl ?_
      refine RR.pv (pv_as rfl) rfl ?_
      refine RR.nil ?_
      exact Nxt.go (i + 1, A1, bk) ⟨rfl, rfl, rfl, rfl, rfl, rfl, rfl, rfl, trivial⟩ ⟨by dsimp only; omega, hlt, hPI', hM8, hTt8⟩ (by dsimp only; omega)
    · have hsi' : s i = false := by simpa using hsi
      have hc1 : w8.cell? ⟨l.b3, 0 + i, none⟩ = some (.bool false) := by rw [← hsi']; exact hM8.hs i hlt
      refine CC.skip ?_
      refine CC.seq ?_
      refine CC.block ?_
      refine CC.seq ?_
      refine CC.region ?_
      refine RR.pv (pv_mv rfl) rfl ?_
      refine RR.pv (pv_mv rfl) rfl ?_
      first | refine RR.pv (pv_ixN rfl rfl st36 (by omega)) rfl ?_ | refine RR.pv (pv_ixZ rfl rfl st36 (by omega)) rfl ?_
      refine RR.pv (pv_ld rfl ct4 (hc1)) rfl ?_
      refine RR.pv (pv_mv rfl) rfl ?_
      first | refine RR.gy rfl rfl (pv_mv rfl) rfl ?_ | refine RR.gn rfl rfl rfl rfl ?_
      first | refine RR.gy rfl rfl (pv_mv rfl) rfl ?_ | refine RR.gn rfl rfl rfl rfl ?_
      first | refine RR.gy rfl rfl (pv_subN (n := 1) rfl rfl (by omega)) rfl ?_ | refine RR.gy rfl rfl (pv_sub64 rfl rfl (by omega)) rfl ?_ | refine RR.gn rfl rfl rfl rfl ?_
      first | refine RR.gy rfl rfl (pv_ixN rfl rfl st36 (by omega)) rfl ?_ | refine RR.gy rfl rfl (pv_ixZ rfl rfl st36 (by omega)) rfl ?_ | refine RR.gn rfl rfl rfl rfl ?_
      first | refine RR.gy rfl rfl (pv_ld rfl ct4 (hc1)) rfl ?_ | refine RR.gn rfl rfl rfl rfl ?_
      first | refine RR.gy rfl rfl (pv_not_t rfl) rfl ?_ | refine RR.gy rfl rfl (pv_not_f rfl) rfl ?_ | refine RR.gy rfl rfl (pv_not rfl) rfl ?_ | refine RR.gn rfl rfl rfl rfl ?_
      first | refine RR.pv (pv_pick_t rfl rfl) rfl ?_ | refine RR.pv (pv_pick_f rfl rfl) rfl ?_
      refine RR.nil ?_
      refine CC.cond_f rfl ?_
      refine CC.skip ?_
      refine CC.region ?_
      refine RR.pv (pv_mv rfl) rfl ?_
      first | refine RR.pv (pv_addN (n := 1) rfl rfl (by omega)) rfl ?_ | refine RR.pv (pv_add64 rfl rfl (by omega)) rfl ?_
      refine RR.pv (pv_as rfl) rfl ?_
      refine RR.nil ?_
      exact Nxt.go (i + 1, A1, bk) ⟨rfl, rfl, rfl, rfl, rfl, rfl, rfl, rfl, trivial⟩ ⟨by dsimp only; omega, hlt, hPI', hM8, hTt8⟩ (by dsimp only; omega)
  have hin : i = l.n := by omega
  subst hin
  refine CC.seq ?_
  refine CC.seq ?_
  refine CC.region ?_
  refine RR.pv (pv_mv rfl) rfl ?_
  refine RR.pv (pv_mv rfl) rfl ?_
  first | refine RR.pv (pv_lss_t rfl rfl (by omega)) rfl ?_ | refine RR.pv (pv_lss_f rfl rfl (by omega)) rfl ?_ | refine RR.pv (pv_lss rfl rfl) rfl ?_
  refine RR.nil ?_
  refine CC.cond_f rfl ?_
  refine CC.exit ?_
  have hIni := lay_done hPI
  clear hPI
  refine CC.seq ?_
  refine CC.region ?_
  refine RR.pv (pv_mv rfl) rfl ?_
  refine RR.pv (pv_mv rfl) rfl ?_
  refine RR.pv (pv_mv rfl) rfl ?_
  refine RR.pv (pv_mv rfl) rfl ?_
  refine RR.pv (pv_mv rfl) rfl ?_
  refine RR.call Try.func36 nm36 rfl rfl (induce36_any l t s A1 bk w8 hn (by omega) hkk hk g hM8 hTy hIni) rfl (fun v9 w9 hpost => ?_)
  obtain ⟨AL, bkL, A2, bk2, hLI, hSP, hM9, hTn⟩ := hpost
  have hTt9 := tS.tr hTt8 hTn
  clear hTn hTt8 hM8
  refine RR.nil ?_
  -- the LMS positions gathered
  obtain ⟨hrng, hinj, hall2⟩ := Sa.permA hTy hIni hk hLI hSP
  obtain ⟨Fl, hFl⟩ : ∃ Fl : Nat → Bool, ∀ y, Fl y = lms s (A2 y).toNat := ⟨_, fun _ => rfl⟩
  refine CC.seq ?_
  refine CC.region ?_
  refine RR.pv (pv_as rfl) rfl ?_
  refine RR.nil ?_
  refine CC.seq ?_
  refine CC.seq ?_
  refine CC.region ?_
  refine RR.pv (pv_mv rfl) rfl ?_
  refine RR.pv (pv_len rfl st28) rfl ?_
  refine RR.pv (pv_mv rfl) rfl ?_
  refine RR.nil ?_
  refine CC.block ?_
  refine CC.loop (γ := Nat × (Nat → Int)) (F := fun g => [(0, .slice (some ⟨l.bt, l.ot, none⟩) l.n l.ct), (1, .slice (some ⟨l.bs, l.os, none⟩) l.n l.cs), (2, .int .i64 (l.k : Int)), (6, .int .i64 (l.n : Int)), (7, .slice (some ⟨l.b3, 0, none⟩) l.n l.n), (9, .slice (some ⟨l.bc, 0, none⟩) l.k l.k), (12, .slice (some ⟨l.bb, 0, none⟩) l.k l.k), (16, .int .i64 ((cnt Fl g.1 : Nat) : Int)), (155, .slice (some ⟨l.bs, l.os, none⟩) l.n l.cs), (156, .int .i64 (l.n : Int)), (157, .int .i64 (g.1 : Int))])
    (I := fun g w' => g.1 ≤ l.n ∧ GI l.n Fl A2 g.1 g.2 ∧ M5 .u8 l t s (Nc l.n t) g.2 bk2 w' ∧ Touch (tS l) w w') (μ := fun g => l.n - g.1) (0, A2)
    ⟨rfl, rfl, rfl, rfl, rfl, rfl, rfl, rfl, rfl, rfl, rfl, trivial⟩
    ⟨Nat.zero_le _, GI.start, hM9, hTt9⟩ ?_
  clear hM9 hTt9
  rintro ⟨x, A3⟩ w10 ⟨hx, hGI, hM10, hTt10⟩
  dsimp only at hx hGI hM10 ⊢
  by_cases hlt : x < l.n
  · obtain ⟨p, hpn, hp⟩ := hrng x hlt
    have hcell : w10.cell? ⟨l.bs, l.os + x, none⟩ = some (.int .i32 (p : Int)) := by rw [← hp, ← hGI.rest x (Nat.le_refl _) hlt]; exact hM10.ha x hlt
    have hFx : Fl x = lms s p := by rw [hFl, hp]; rfl
    refine CC.seq ?_
    refine CC.region ?_
    first | refine RR.pv (pv_lss_t rfl rfl (by omega)) rfl ?_ | refine RR.pv (pv_lss_f rfl rfl (by omega)) rfl ?_ | refine RR.pv (pv_lss rfl rfl) rfl ?_
    refine RR.nil ?_
    refine CC.seq ?_
    refine CC.cond_t rfl ?_
    refine CC.skip ?_
    refine CC.seq ?_
    refine CC.block ?_
    refine CC.seq ?_
    refine CC.region ?_
    first | refine RR.pv (pv_ixN rfl rfl st28 (by omega)) rfl ?_ | refine RR.pv (pv_ixZ rfl rfl st28 (by omega)) rfl ?_
    refine RR.pv (pv_ld rfl ct21 (hcell)) rfl ?_
    refine RR.pv (pv_as rfl) rfl ?_
    refine RR.nil ?_
    by_cases hl : lms s p = true
    · have hll := lms_iff.1 hl
      have hc1 : w10.cell? ⟨l.b3, 0 + p, none⟩ = some (.bool true) := by rw [← hll.2.1]; exact hM10.hs p hpn
      have hc2 : w10.cell? ⟨l.b3, 0 + (p - 1), none⟩ = some (.bool false) := by rw [← hll.2.2]; exact hM10.hs (p - 1) (by omega)
      obtain ⟨hle, hcn, hGI'⟩ := hGI.push (by rw [hFx]; exact hl)
      rw [hp] at hGI'
      have hlt' : cnt Fl x < l.n := by omega
      have hp0 := hll.1
      refine CC.seq ?_
      refine CC.region ?_
      refine RR.pv (pv_mv rfl) rfl ?_
      first | refine RR.pv (pv_gtr_t rfl rfl (by omega)) rfl ?_ | refine RR.pv (pv_gtr_f rfl rfl (by omega)) rfl ?_ | refine RR.pv (pv_gtr rfl rfl) rfl ?_
      refine RR.pv (pv_mv rfl) rfl ?_
      first | refine RR.gy rfl rfl (pv_mv rfl) rfl ?_ | refine RR.gn rfl rfl rfl rfl ?_
      first | refine RR.gy rfl rfl (pv_mv rfl) rfl ?_ | refine RR.gn rfl rfl rfl rfl ?_
      first | refine RR.gy rfl rfl (pv_ixN rfl rfl st36 (by omega)) rfl ?_ | refine RR.gy rfl rfl (pv_ixZ rfl rfl st36 (by omega)) rfl ?_ | refine RR.gn rfl rfl rfl rfl ?_
      first | refine RR.gy rfl rfl (pv_ld rfl ct4 (hc1)) rfl ?_ | refine RR.gn rfl rfl rfl rfl ?_
      first | refine RR.pv (pv_pick_t rfl rfl) rfl ?_ | refine RR.pv (pv_pick_f rfl rfl) rfl ?_
      refine RR.pv (pv_mv rfl) rfl ?_
      first | refine RR.gy rfl rfl (pv_mv rfl) rfl ?_ | refine RR.gn rfl rfl rfl rfl ?_
      first | refine RR.gy rfl rfl (pv_mv rfl) rfl ?_ | refine RR.gn rfl rfl rfl rfl ?_
      first | refine RR.gy rfl rfl (pv_sub32 rfl rfl (by omega)) rfl ?_ | refine RR.gn rfl rfl rfl rfl ?_
      rw [show (p : Int) - 1 = ((p - 1 : Nat) : Int) from by omega]
      first | refine RR.gy rfl rfl (pv_ixN rfl rfl st36 (by omega)) rfl ?_ | refine RR.gy rfl rfl (pv_ixZ rfl rfl st36 (by omega)) rfl ?_ | refine RR.gn rfl rfl rfl rfl ?_
      first | refine RR.gy rfl rfl (pv_ld rfl ct4 (hc2)) rfl ?_ | refine RR.gn rfl rfl rfl rfl ?_
      first | refine RR.gy rfl rfl (pv_not_t rfl) rfl ?_ | refine RR.gy rfl rfl (pv_not_f rfl) rfl ?_ | refine RR.gy rfl rfl (pv_not rfl) rfl ?_ | refine RR.gn rfl rfl rfl rfl ?_
      first | refine RR.pv (pv_pick_t rfl rfl) rfl ?_ | refine RR.pv (pv_pick_f rfl rfl) rfl ?_
      refine RR.nil ?_
      refine CC.cond_t rfl ?_
      refine CC.seq ?_
      refine CC.region ?_
      refine RR.pv (pv_mv rfl) rfl ?_
      refine RR.pv (pv_mv rfl) rfl ?_
      refine RR.pv (pv_mv rfl) rfl ?_
      first | refine RR.pv (pv_ixN rfl rfl st28 (by omega)) rfl ?_ | refine RR.pv (pv_ixZ rfl rfl st28 (by omega)) rfl ?_
      refine RR.st rfl rfl ct21 OneV.i (hM10.ha (cnt Fl x) hlt') (hM10.wa _ hlt') ?_
      refine RR.nil ?_
      refine CC.region ?_
      refine RR.pv (pv_mv rfl) rfl ?_
      first | refine RR.pv (pv_addN (n := 1) rfl rfl (by omega)) rfl ?_ | refine RR.pv (pv_add64 rfl rfl (by omega)) rfl ?_
      refine RR.pv (pv_as rfl) rfl ?_
      refine RR.nil ?_
      refine CC.region ?_
      first | refine RR.pv (pv_addN (n := 1) rfl rfl (by omega)) rfl ?_ | refine RR.pv (pv_add64 rfl rfl (by omega)) rfl ?_
      refine RR.pv (pv_mv rfl) rfl ?_
      refine RR.nil ?_
      refine Nxt.go (x + 1, _) ⟨rfl, rfl, rfl, rfl, rfl, rfl, rfl, ?_, rfl, rfl, rfl, trivial⟩ ⟨hlt, hGI', hM10.setA g hlt' _, tS.tr hTt10 (tS.a l w10 hlt' _)⟩ (by dsimp only; omega)
      dsimp only
      rw [hcn]; rfl
    have hl' : lms s p = false := by simpa using hl
    obtain ⟨hcn, hGI'⟩ := hGI.pass (by rw [hFx]; exact hl')
    by_cases hp0 : p = 0
    · subst hp0
      refine CC.seq ?_
      refine CC.region ?_
      refine RR.pv (pv_mv rfl) rfl ?_
      first | refine RR.pv (pv_gtr_t rfl rfl (by omega)) rfl ?_ | refine RR.pv (pv_gtr_f rfl rfl (by omega)) rfl ?_ | refine RR.pv (pv_gtr rfl rfl) rfl ?_
      refine RR.pv (pv_mv rfl) rfl ?_
      first | refine RR.gy rfl rfl (pv_mv rfl) rfl ?_ | refine RR.gn rfl rfl rfl rfl ?_
      first | refine RR.gy rfl rfl (pv_mv rfl) rfl ?_ | refine RR.gn rfl rfl rfl rfl ?_
      first | refine RR.gy rfl rfl (pv_ixN rfl rfl st36 (by omega)) rfl ?_ | refine RR.gy rfl rfl (pv_ixZ rfl rfl st36 (by omega)) rfl ?_ | refine RR.gn rfl rfl rfl rfl ?_
      first | refine RR.gy rfl rfl (pv_ld rfl ct4 (HOLE)) rfl ?_ | refine RR.gn rfl rfl rfl rfl ?_
      first | refine RR.pv (pv_pick_t rfl rfl) rfl ?_ | refine RR.pv (pv_pick_f rfl rfl) rfl ?_
      refine RR.pv (pv_mv rfl) rfl ?_
      first | refine RR.gy rfl rfl (pv_mv rfl) rfl ?_ | refine RR.gn rfl rfl rfl rfl ?_
      first | refine RR.gy rfl rfl (pv_mv rfl) rfl ?_ | refine RR.gn rfl rfl rfl rfl ?_
      first | refine RR.gy rfl rfl (pv_sub32 rfl rfl (by omega)) rfl ?_ | refine RR.gn rfl rfl rfl rfl ?_
      first | refine RR.gy rfl rfl (pv_ixN rfl rfl st36 (by omega)) rfl ?_ | refine RR.gy rfl rfl (pv_ixZ rfl rfl st36 (by omega)) rfl ?_ | refine RR.gn rfl rfl rfl rfl ?_
      first | refine RR.gy rfl rfl (pv_ld rfl ct4 (HOLE)) rfl ?_ | refine RR.gn rfl rfl rfl rfl ?_
      first | refine RR.gy rfl rfl (pv_not_t rfl) rfl ?_ | refine RR.gy rfl rfl (pv_not_f rfl) rfl ?_ | refine RR.gy rfl rfl (pv_not rfl) rfl ?_ | refine RR.gn rfl rfl rfl rfl ?_
      first | refine RR.pv (pv_pick_t rfl rfl) rfl ?_ | refine RR.pv (pv_pick_f rfl rfl) rfl ?_
      refine RR.nil ?_
      refine CC.cond_f rfl ?_
      refine CC.skip ?_
      refine CC.region ?_
      first | refine RR.pv (pv_addN (n := 1) rfl rfl (by omega)) rfl ?_ | refine RR.pv (pv_add64 rfl rfl (by omega)) rfl ?_
      refine RR.pv (pv_mv rfl) rfl ?_
      refine RR.nil ?_
      refine Nxt.go (x + 1, A3) ⟨rfl, rfl, rfl, rfl, rfl, rfl, rfl, ?_, rfl, rfl, rfl, trivial⟩ ⟨hlt, hGI', hM10, hTt10⟩ (by dsimp only; omega)
      dsimp only
      rw [hcn]; rfl
    by_cases hsp : s p = true
    · have hsj : s (p - 1) = true := by
        cases h6 : s (p - 1) with
        | false => exact absurd (lms_iff.2 ⟨by omega, hsp, h6⟩) hl
        | true => rfl
      have hc1 : w10.cell? ⟨l.b3, 0 + p, none⟩ = some (.bool true) := by rw [← hsp]; exact hM10.hs p hpn
      have hc2 : w10.cell? ⟨l.b3, 0 + (p - 1), none⟩ = some (.bool true) := by rw [← hsj]; exact hM10.hs (p - 1) (by omega)
      refine CC.seq ?_
      refine CC.region ?_
      refine RR.pv (pv_mv rfl) rfl ?_
      first | refine RR.pv (pv_gtr_t rfl rfl (by omega)) rfl ?_ | refine RR.pv (pv_gtr_f rfl rfl (by omega)) rfl ?_ | refine RR.pv (pv_gtr rfl rfl) rfl ?_
      refine RR.pv (pv_mv rfl) rfl ?_
      first | refine RR.gy rfl rfl (pv_mv rfl) rfl ?_ | refine RR.gn rfl rfl rfl rfl ?_
      first | refine RR.gy rfl rfl (pv_mv rfl) rfl ?_ | refine RR.gn rfl rfl rfl rfl ?_
      first | refine RR.gy rfl rfl (pv_ixN rfl rfl st36 (by omega)) rfl ?_ | refine RR.gy rfl rfl (pv_ixZ rfl rfl st36 (by omega)) rfl ?_ | refine RR.gn rfl rfl rfl rfl ?_
      first | refine RR.gy rfl rfl (pv_ld rfl ct4 (hc1)) rfl ?_ | refine RR.gn rfl rfl rfl rfl ?_
      first | refine RR.pv (pv_pick_t rfl rfl) rfl ?_ | refine RR.pv (pv_pick_f rfl rfl) rfl ?_
      refine RR.pv (pv_mv rfl) rfl ?_
      first | refine RR.gy rfl rfl (pv_mv rfl) rfl ?_ | refine RR.gn rfl rfl rfl rfl ?_
      first | refine RR.gy rfl rfl (pv_mv rfl) rfl ?_ | refine RR.gn rfl rfl rfl rfl ?_
      first | refine RR.gy rfl rfl (pv_sub32 rfl rfl (by omega)) rfl ?_ | refine RR.gn rfl rfl rfl rfl ?_
      rw [show (p : Int) - 1 = ((p - 1 : Nat) : Int) from by omega]
      first | refine RR.gy rfl rfl (pv_ixN rfl rfl st36 (by omega)) rfl ?_ | refine RR.gy rfl rfl (pv_ixZ rfl rfl st36 (by omega)) rfl ?_ | refine RR.gn rfl rfl rfl rfl ?_
      first | refine RR.gy rfl rfl (pv_ld rfl ct4 (hc2)) rfl ?_ | refine RR.gn rfl rfl rfl rfl ?_
      first | refine RR.gy rfl rfl (pv_not_t rfl) rfl ?_ | refine RR.gy rfl rfl (pv_not_f rfl) rfl ?_ | refine RR.gy rfl rfl (pv_not rfl) rfl ?_ | refine RR.gn rfl rfl rfl rfl ?_
      first | refine RR.pv (pv_pick_t rfl rfl) rfl ?_ | refine RR.pv (pv_pick_f rfl rfl) rfl ?_
      refine RR.nil ?_
      refine CC.cond_f rfl ?_
      refine CC.skip ?_
      refine CC.region ?_
      first | refine RR.pv (pv_addN (n := 1) rfl rfl (by omega)) rfl ?_ | refine RR.pv (pv_add64 rfl rfl (by omega)) rfl ?_
      refine RR.pv (pv_mv rfl) rfl ?_
      refine RR.nil ?_
      refine Nxt.go (x + 1, A3) ⟨rfl, rfl, rfl, rfl, rfl, rfl, rfl, ?_, rfl, rfl, rfl, trivial⟩ ⟨hlt, hGI', hM10, hTt10⟩ (by dsimp only; omega)
      dsimp only
      rw [hcn]; rfl
    · have hsp' : s p = false := by simpa using hsp
      have hc1 : w10.cell? ⟨l.b3, 0 + p, none⟩ = some (.bool false) := by rw [← hsp']; exact hM10.hs p hpn
      refine CC.seq ?_
      refine CC.region ?_
      refine RR.pv (pv_mv rfl) rfl ?_
      first | refine RR.pv (pv_gtr_t rfl rfl (by omega)) rfl ?_ | refine RR.pv (pv_gtr_f rfl rfl (by omega)) rfl ?_ | refine RR.pv (pv_gtr rfl rfl) rfl ?_
      refine RR.pv (pv_mv rfl) rfl ?_
      first | refine RR.gy rfl rfl (pv_mv rfl) rfl ?_ | refine RR.gn rfl rfl rfl rfl ?_
      first | refine RR.gy rfl rfl (pv_mv rfl) rfl ?_ | refine RR.gn rfl rfl rfl rfl ?_
      first | refine RR.gy rfl rfl (pv_ixN rfl rfl st36 (by omega)) rfl ?_ | refine RR.gy rfl rfl (pv_ixZ rfl rfl st36 (by omega)) rfl ?_ | refine RR.gn rfl rfl rfl rfl ?_
      first | refine RR.gy rfl rfl (pv_ld rfl ct4 (hc1)) rfl ?_ | refine RR.gn rfl rfl rfl rfl ?_
      first | refine RR.pv (pv_pick_t rfl rfl) rfl ?_ | refine RR.pv (pv_pick_f rfl rfl) rfl ?_
      refine RR.pv (pv_mv rfl) rfl ?_
      first | refine RR.gy rfl rfl (pv_mv rfl) rfl ?_ | refine RR.gn rfl rfl rfl rfl ?_
      first | refine RR.gy rfl rfl (pv_mv rfl) rfl ?_ | refine RR.gn rfl rfl rfl rfl ?_
      first | refine RR.gy rfl rfl (pv_sub32 rfl rfl (by omega)) rfl ?_ | refine RR.gn rfl rfl rfl rfl ?_
      first | refine RR.gy rfl rfl (pv_ixN rfl rfl st36 (by omega)) rfl ?_ | refine RR.gy rfl rfl (pv_ixZ rfl rfl st36 (by omega)) rfl ?_ | refine RR.gn rfl rfl rfl rfl ?_
      first | refine RR.gy rfl rfl (pv_ld rfl ct4 (hc1)) rfl ?_ | refine RR.gn rfl rfl rfl rfl ?_
      first | refine RR.gy rfl rfl (pv_not_t rfl) rfl ?_ | refine RR.gy rfl rfl (pv_not_f rfl) rfl ?_ | refine RR.gy rfl rfl (pv_not rfl) rfl ?_ | refine RR.gn rfl rfl rfl rfl ?_
      first | refine RR.pv (pv_pick_t rfl rfl) rfl ?_ | refine RR.pv (pv_pick_f rfl rfl) rfl ?_
      refine RR.nil ?_
      refine CC.cond_f rfl ?_
      refine CC.skip ?_
      refine CC.region ?_
      first | refine RR.pv (pv_addN (n := 1) rfl rfl (by omega)) rfl ?_ | refine RR.pv (pv_add64 rfl rfl (by omega)) rfl ?_
      refine RR.pv (pv_mv rfl) rfl ?_
      refine RR.nil ?_
      refine Nxt.go (x + 1, A3) ⟨rfl, rfl, rfl, rfl, rfl, rfl, rfl, ?_, rfl, rfl, rfl, trivial⟩ ⟨hlt, hGI', hM10, hTt10⟩ (by dsimp only; omega)
      dsimp only
      rw [hcn]; rfl
  have hxn : x = l.n := by omega
  subst hxn
  refine CC.seq ?_
  refine CC.region ?_
  first | refine RR.pv (pv_lss_t rfl rfl (by omega)) rfl ?_ | refine RR.pv (pv_lss_f rfl rfl (by omega)) rfl ?_ | refine RR.pv (pv_lss rfl rfl) rfl ?_
  refine RR.nil ?_
  refine CC.seq ?_
  refine CC.cond_f rfl ?_
  refine CC.exit ?_
  obtain ⟨gg, hgg⟩ : ∃ gg : Nat → Nat, ∀ j, gg j = (A3 j).toNat := ⟨_, fun _ => rfl⟩
  obtain ⟨hG, hmc⟩ := gat_of hTy hIni hk hLI hSP (F := Fl) (g := gg) (fun j p hj e => by rw [hFl, e]; rfl) (fun y hy hFy => by
    obtain ⟨p, hpn, hp⟩ := hrng y hy
    rw [hgg, hGI.done y hy hFy, hp]; rfl)
  have hA3 : ∀ j, j < cnt Fl l.n → A3 j = (gg j : Int) := fun j hj => by
    obtain ⟨y, h1, h2, h3⟩ := cnt_onto l.n j hj
    obtain ⟨p, hpn, hp⟩ := hrng y h1
    have := hGI.done y h1 h2
    rw [h3, hp] at this
    rw [hgg, this]; rfl
  generalize cnt Fl l.n = m at hG hmc hA3 ⊢
  have hmm := lms_count hTy
  rw [← hmc] at hmm
  clear hGI hFl hrng hinj hall2 hLI hSP hIni
  refine CC.seq ?_
  refine CC.seq ?_
  refine CC.region ?_
  refine RR.pv (pv_mv rfl) rfl ?_
  refine RR.pv (pv_as rfl) rfl ?_
  refine RR.nil ?_
  refine CC.block ?_
  refine CC.loop (γ := Nat × (Nat → Int)) (F := fun g => [(0, .slice (some ⟨l.bt, l.ot, none⟩) l.n l.ct), (1, .slice (some ⟨l.bs, l.os, none⟩) l.n l.cs), (2, .int .i64 (l.k : Int)), (6, .int .i64 (l.n : Int)), (7, .slice (some ⟨l.b3, 0, none⟩) l.n l.n), (9, .slice (some ⟨l.bc, 0, none⟩) l.k l.k), (12, .slice (some ⟨l.bb, 0, none⟩) l.k l.k), (16, .int .i64 (m : Int)), (19, .int .i64 (g.1 : Int))])
    (I := fun g w' => m ≤ g.1 ∧ g.1 ≤ l.n ∧ (∀ j, j < m → g.2 j = (gg j : Int)) ∧ (∀ j, m ≤ j → j < g.1 → g.2 j = -1) ∧ M5 .u8 l t s (Nc l.n t) g.2 bk2 w' ∧ Touch (tS l) w w') (μ := fun g => l.n - g.1) (m, A3)
    ⟨rfl, rfl, rfl, rfl, rfl, rfl, rfl, rfl, rfl, trivial⟩
    ⟨Nat.le_refl _, by dsimp only; omega, hA3, fun j h1 h2 => by dsimp only at h2; omega, hM10, hTt10⟩ ?_
  clear hM10 hTt10 hA3 hgg
  rintro ⟨x, A4⟩ w11 ⟨hx1, hx, hlo, hhi, hM11, hTt11⟩
  dsimp only at hx1 hx hlo hhi hM11 ⊢
  by_cases hlt : x < l.n
  · refine CC.seq ?_
    refine CC.seq ?_
    refine CC.region ?_
    refine RR.pv (pv_mv rfl) rfl ?_
    refine RR.pv (pv_mv rfl) rfl ?_
    first | refine RR.pv (pv_lss_t rfl rfl (by omega)) rfl ?_ | refine RR.pv (pv_lss_f rfl rfl (by omega)) rfl ?_ | refine RR.pv (pv_lss rfl rfl) rfl ?_
    refine RR.nil ?_
    refine CC.cond_t rfl ?_
    refine CC.skip ?_
    refine CC.seq ?_
    refine CC.block ?_
    refine CC.region ?_
    refine RR.pv (pv_mv rfl) rfl ?_
    refine RR.pv (pv_mv rfl) rfl ?_
    first | refine RR.pv (pv_ixN rfl rfl st28 (by omega)) rfl ?_ | refine RR.pv (pv_ixZ rfl rfl st28 (by omega)) rfl ?_
    refine RR.st rfl rfl ct21 OneV.i (hM11.ha x hlt) (hM11.wa _ hlt) ?_
    refine RR.nil ?_
    refine CC.region ?_
    refine RR.pv (pv_mv rfl) rfl ?_
    first | refine RR.pv (pv_addN (n := 1) rfl rfl (by omega)) rfl ?_ | refine RR.pv (pv_add64 rfl rfl (by omega)) rfl ?_
    refine RR.pv (pv_as rfl) rfl ?_
    refine RR.nil ?_
    refine Nxt.go (x + 1, upd A4 x (-1)) ⟨rfl, rfl, rfl, rfl, rfl, rfl, rfl, rfl, rfl, trivial⟩ ⟨by dsimp only; omega, hlt, fun j hj => ?_, fun j h1 h2 => ?_, hM11.setA g hlt _, tS.tr hTt11 (tS.a l w11 hlt _)⟩ (by dsimp only; omega)
    · dsimp only; rw [upd_ne _ _ (by omega)]; exact hlo j hj
    · dsimp only at h2 ⊢
      by_cases e : j = x
      · subst e; rw [upd_same]
      · rw [upd_ne _ _ e]; exact hhi j h1 (by omega)
  have hxn : x = l.n := by omega
  subst hxn
  refine CC.seq ?_
  refine CC.seq ?_
  refine CC.region ?_
  refine RR.pv (pv_mv rfl) rfl ?_
  refine RR.pv (pv_mv rfl) rfl ?_
  first | refine RR.pv (pv_lss_t rfl rfl (by omega)) rfl ?_ | refine RR.pv (pv_lss_f rfl rfl (by omega)) rfl ?_ | refine RR.pv (pv_lss rfl rfl) rfl ?_
  refine RR.nil ?_
  refine CC.cond_f rfl ?_
  refine CC.exit ?_
  -- the names
  obtain ⟨nm, hnm'⟩ := names_ex l.n t s gg
  have hnm := hnm' m
  clear hnm'
  obtain ⟨nv, hnv0, hnvS⟩ : ∃ nv : Nat → Nat, nv 0 = 0 ∧ ∀ j, nv (j + 1) = nm j + 1 := ⟨fun j => if j = 0 then 0 else nm (j - 1) + 1, by simp, by simp⟩
  have hnle : ∀ j, j < m → nm j ≤ j := fun j hj => by
    have := hnm.mono j 0 (by omega)
    rw [hnm.zero, Nat.zero_add] at this
    omega
  have hNI0 : NI l.n m gg nm 0 A4 := NI.start hlo (fun x h1 h2 => hhi x h1 h2)
  refine CC.seq ?_
  refine CC.region ?_
  refine RR.pv (pv_as rfl) rfl ?_
  refine RR.nil ?_
  refine CC.seq ?_
  refine CC.seq ?_
  refine CC.region ?_
  refine RR.pv (pv_mv rfl) rfl ?_
  refine RR.pv (pv_mv rfl) rfl ?_
  refine RR.nil ?_
  refine CC.block ?_
  refine CC.loop (γ := Nat × (Nat → Int)) (F := fun g => [(0, .slice (some ⟨l.bt, l.ot, none⟩) l.n l.ct), (1, .slice (some ⟨l.bs, l.os, none⟩) l.n l.cs), (2, .int .i64 (l.k : Int)), (6, .int .i64 (l.n : Int)), (7, .slice (some ⟨l.b3, 0, none⟩) l.n l.n), (9, .slice (some ⟨l.bc, 0, none⟩) l.k l.k), (12, .slice (some ⟨l.bb, 0, none⟩) l.k l.k), (16, .int .i64 (m : Int)), (193, .int .i64 (m : Int)), (194, .int .i64 (g.1 : Int)), (20, .int .i32 ((nv g.1 : Nat) : Int))])
    (I := fun g w' => g.1 ≤ m ∧ NI l.n m gg nm g.1 g.2 ∧ M5 .u8 l t s (Nc l.n t) g.2 bk2 w' ∧ Touch (tS l) w w') (μ := fun g => m - g.1) (0, A4)
    ⟨rfl, rfl, rfl, rfl, rfl, rfl, rfl, rfl, rfl, rfl, by dsimp only; rw [hnv0]; rfl, trivial⟩
    ⟨Nat.zero_le _, hNI0, hM11, hTt11⟩ ?_
  clear hM11 hTt11 hNI0 hlo hhi
  rintro ⟨j, A5⟩ w12 ⟨hj, hNI, hM12, hTt12⟩
  dsimp only at hj hNI hM12 ⊢
  by_cases hlt : j < m
  · have hgj := (hG.lms j hlt).1
    have hcj : w12.cell? ⟨l.bs, l.os + j, none⟩ = some (.int .i32 ((gg j : Nat) : Int)) := by rw [← hNI.lo j hlt]; exact hM12.ha j (by omega)
    have hroom := hG.room hTy hmc hlt
    have hnj := hnle j hlt
    refine CC.seq ?_
    refine CC.region ?_
    first | refine RR.pv (pv_lss_t rfl rfl (by omega)) rfl ?_ | refine RR.pv (pv_lss_f rfl rfl (by omega)) rfl ?_ | refine RR.pv (pv_lss rfl rfl) rfl ?_
    refine RR.nil ?_
    refine CC.seq ?_
    refine CC.cond_t rfl ?_
    refine CC.skip ?_
    refine CC.seq ?_
    refine CC.block ?_
    refine CC.seq ?_
    refine CC.region ?_
    refine RR.pv (pv_mv rfl) rfl ?_
    refine RR.pv (pv_as rfl) rfl ?_
    refine RR.nil ?_
    refine CC.seqCut (γ := Unit) (fun _ => [(0, .slice (some ⟨l.bt, l.ot, none⟩) l.n l.ct), (1, .slice (some ⟨l.bs, l.os, none⟩) l.n l.cs), (2, .int .i64 (l.k : Int)), (6, .int .i64 (l.n : Int)), (7, .slice (some ⟨l.b3, 0, none⟩) l.n l.n), (9, .slice (some ⟨l.bc, 0, none⟩) l.k l.k), (12, .slice (some ⟨l.bb, 0, none⟩) l.k l.k), (16, .int .i64 (m : Int)), (193, .int .i64 (m : Int)), (194, .int .i64 (j : Int)), (20, .int .i32 ((nm j + 1 : Nat) : Int)), (21, .int .i64 (j : Int))])
      (fun _ w' => w' = w12) ?_ ?_
    · by_cases hj0 : j = 0
      · subst hj0
        refine CC.seq ?_
        refine CC.regionQ (by decide +kernel) ?_
        refine RR.pv (pv_mv rfl) rfl ?_
        first | refine RR.pv (pv_eql_t rfl rfl (by omega)) rfl ?_ | refine RR.pv (pv_eql_f rfl rfl (by omega)) rfl ?_ | refine RR.pv (pv_eql rfl rfl) rfl ?_
        refine RR.pv (pv_mv rfl) rfl ?_
        first | refine RR.gy rfl rfl (pv_mv rfl) rfl ?_ | refine RR.gn rfl rfl rfl rfl ?_
        first | refine RR.gy rfl rfl (pv_mv rfl) rfl ?_ | refine RR.gn rfl rfl rfl rfl ?_
        first | refine RR.gy rfl rfl (pv_mv rfl) rfl ?_ | refine RR.gn rfl rfl rfl rfl ?_
        first | refine RR.gy rfl rfl (pv_mv rfl) rfl ?_ | refine RR.gn rfl rfl rfl rfl ?_
        first | refine RR.gy rfl rfl (pv_subN (n := 1) rfl rfl (by omega)) rfl ?_ | refine RR.gy rfl rfl (pv_sub64 rfl rfl (by omega)) rfl ?_ | refine RR.gn rfl rfl rfl rfl ?_
        first | refine RR.gy rfl rfl (pv_ixN rfl rfl st28 (by omega)) rfl ?_ | refine RR.gy rfl rfl (pv_ixZ rfl rfl st28 (by omega)) rfl ?_ | refine RR.gn rfl rfl rfl rfl ?_
        first | refine RR.gy rfl rfl (pv_ld rfl ct21 (HOLE)) rfl ?_ | refine RR.gn rfl rfl rfl rfl ?_
        first | refine RR.gy rfl rfl (pv_c21_3 rfl (by omega)) rfl ?_ | refine RR.gn rfl rfl rfl rfl ?_
        first | refine RR.gy rfl rfl (pv_mv rfl) rfl ?_ | refine RR.gn rfl rfl rfl rfl ?_
        first | refine RR.gy rfl rfl (pv_mv rfl) rfl ?_ | refine RR.gn rfl rfl rfl rfl ?_
        first | refine RR.gy rfl rfl (pv_ixN rfl rfl st28 (by omega)) rfl ?_ | refine RR.gy rfl rfl (pv_ixZ rfl rfl st28 (by omega)) rfl ?_ | refine RR.gn rfl rfl rfl rfl ?_
        first | refine RR.gy rfl rfl (pv_ld rfl ct21 (HOLE)) rfl ?_ | refine RR.gn rfl rfl rfl rfl ?_
        first | refine RR.gy rfl rfl (pv_c21_3 rfl (by omega)) rfl ?_ | refine RR.gn rfl rfl rfl rfl ?_
        refine RR.gn rfl rfl rfl rfl ?_
        first | refine RR.gy rfl rfl (pv_not_t rfl) rfl ?_ | refine RR.gy rfl rfl (pv_not_f rfl) rfl ?_ | refine RR.gy rfl rfl (pv_not rfl) rfl ?_ | refine RR.gn rfl rfl rfl rfl ?_
        first | refine RR.pv (pv_pick_t rfl rfl) rfl ?_ | refine RR.pv (pv_pick_f rfl rfl) rfl ?_
        refine RR.nil ?_
        refine CC.cond_t rfl ?_
        rw [hnv0]
        refine CC.region ?_
        refine RR.pv (pv_mv rfl) rfl ?_
        refine RR.pv (pv_add32 rfl rfl (by omega)) rfl ?_
        refine RR.pv (pv_as rfl) rfl ?_
        refine RR.nil ?_
        refine CutQ.go () ⟨rfl, rfl, rfl, rfl, rfl, rfl, rfl, rfl, rfl, rfl, ?_, rfl, trivial⟩ rfl
        rw [hnm.zero]; rfl
      · obtain ⟨i, rfl⟩ : ∃ i, j = i + 1 := ⟨j - 1, by omega⟩
        have hgi := (hG.lms i (by omega)).1
        have hci : w12.cell? ⟨l.bs, l.os + i, none⟩ = some (.int .i32 ((gg i : Nat) : Int)) := by rw [← hNI.lo i (by omega)]; exact hM12.ha i (by omega)
        obtain ⟨r, hr⟩ : ∃ r : Bool, r = true ↔ Eq2 l.n t s (gg i) (gg (i + 1)) := by
          by_cases hE : Eq2 l.n t s (gg i) (gg (i + 1))
          · exact ⟨true, by simp [hE]⟩
          · exact ⟨false, by simp [hE]⟩
        rw [hnvS]
        have hni := hnle i (by omega)
        refine CC.seq ?_
        refine CC.regionQ (by decide +kernel) ?_
        refine RR.pv (pv_mv rfl) rfl ?_
        first | refine RR.pv (pv_eql_t rfl rfl (by omega)) rfl ?_ | refine RR.pv (pv_eql_f rfl rfl (by omega)) rfl ?_ | refine RR.pv (pv_eql rfl rfl) rfl ?_
        refine RR.pv (pv_mv rfl) rfl ?_
        first | refine RR.gy rfl rfl (pv_mv rfl) rfl ?_ | refine RR.gn rfl rfl rfl rfl ?_
        first | refine RR.gy rfl rfl (pv_mv rfl) rfl ?_ | refine RR.gn rfl rfl rfl rfl ?_
        first | refine RR.gy rfl rfl (pv_mv rfl) rfl ?_ | refine RR.gn rfl rfl rfl rfl ?_
        first | refine RR.gy rfl rfl (pv_mv rfl) rfl ?_ | refine RR.gn rfl rfl rfl rfl ?_
        first | refine RR.gy rfl rfl (pv_subN (n := 1) rfl rfl (by omega)) rfl ?_ | refine RR.gy rfl rfl (pv_sub64 rfl rfl (by omega)) rfl ?_ | refine RR.gn rfl rfl rfl rfl ?_
        rw [show i + 1 - 1 = i from by omega]
        first | refine RR.gy rfl rfl (pv_ixN rfl rfl st28 (by omega)) rfl ?_ | refine RR.gy rfl rfl (pv_ixZ rfl rfl st28 (by omega)) rfl ?_ | refine RR.gn rfl rfl rfl rfl ?_
        first | refine RR.gy rfl rfl (pv_ld rfl ct21 (hci)) rfl ?_ | refine RR.gn rfl rfl rfl rfl ?_
        first | refine RR.gy rfl rfl (pv_c21_3 rfl (by omega)) rfl ?_ | refine RR.gn rfl rfl rfl rfl ?_
        first | refine RR.gy rfl rfl (pv_mv rfl) rfl ?_ | refine RR.gn rfl rfl rfl rfl ?_
        first | refine RR.gy rfl rfl (pv_mv rfl) rfl ?_ | refine RR.gn rfl rfl rfl rfl ?_
        first | refine RR.gy rfl rfl (pv_ixN rfl rfl st28 (by omega)) rfl ?_ | refine RR.gy rfl rfl (pv_ixZ rfl rfl st28 (by omega)) rfl ?_ | refine RR.gn rfl rfl rfl rfl ?_
        first | refine RR.gy rfl rfl (pv_ld rfl ct21 (hcj)) rfl ?_ | refine RR.gn rfl rfl rfl rfl ?_
        first | refine RR.gy rfl rfl (pv_c21_3 rfl (by omega)) rfl ?_ | refine RR.gn rfl rfl rfl rfl ?_
        refine RR.callG rfl rfl Try.func37 nm37 rfl rfl (sameLMS37_any l.bt l.ot l.ct l.b3 l.n (gg i) (gg (i + 1)) t s w12 hn hgi hgj hM12.ht hM12.hs r hr) rfl ?_
        cases r with
        | true =>
          have hsame := hnm.same i hlt (hr.1 rfl)
          first | refine RR.gy rfl rfl (pv_not_t rfl) rfl ?_ | refine RR.gy rfl rfl (pv_not_f rfl) rfl ?_ | refine RR.gy rfl rfl (pv_not rfl) rfl ?_ | refine RR.gn rfl rfl rfl rfl ?_
          first | refine RR.pv (pv_pick_t rfl rfl) rfl ?_ | refine RR.pv (pv_pick_f rfl rfl) rfl ?_
          refine RR.nil ?_
          refine CC.cond_f rfl ?_
          refine CC.skip ?_
          refine CutQ.go () ⟨rfl, rfl, rfl, rfl, rfl, rfl, rfl, rfl, rfl, rfl, ?_, rfl, trivial⟩ rfl
          rw [hsame]; rfl
        | false =>
          have hmore := hnm.more i hlt (fun h => Bool.noConfusion (hr.2 h))
          first | refine RR.gy rfl rfl (pv_not_t rfl) rfl ?_ | refine RR.gy rfl rfl (pv_not_f rfl) rfl ?_ | refine RR.gy rfl rfl (pv_not rfl) rfl ?_ | refine RR.gn rfl rfl rfl rfl ?_
          first | refine RR.pv (pv_pick_t rfl rfl) rfl ?_ | refine RR.pv (pv_pick_f rfl rfl) rfl ?_
          refine RR.nil ?_
          refine CC.cond_t rfl ?_
          refine CC.region ?_
          refine RR.pv (pv_mv rfl) rfl ?_
          refine RR.pv (pv_add32 rfl rfl (by omega)) rfl ?_
          refine RR.pv (pv_as rfl) rfl ?_
          refine RR.nil ?_
          refine CutQ.go () ⟨rfl, rfl, rfl, rfl, rfl, rfl, rfl, rfl, rfl, rfl, ?_, rfl, trivial⟩ rfl
          rw [hmore]; rfl
    · rintro _ w13 rfl
      refine CC.region ?_
      refine RR.pv (pv_mv rfl) rfl ?_
      refine RR.pv (pv_mv rfl) rfl ?_
      refine RR.pv (pv_mv rfl) rfl ?_
      refine RR.pv (pv_mv rfl) rfl ?_
      first | refine RR.pv (pv_ixN rfl rfl st28 (by omega)) rfl ?_ | refine RR.pv (pv_ixZ rfl rfl st28 (by omega)) rfl ?_
      refine RR.pv (pv_ld rfl ct21 (hcj)) rfl ?_
      refine RR.pv (pv_c21_3 rfl (by omega)) rfl ?_
      refine RR.pv (pv_quoN (n := 2) rfl rfl (by omega) (by omega)) rfl ?_
      first | refine RR.pv (pv_addN rfl rfl (by omega)) rfl ?_ | refine RR.pv (pv_add64 rfl rfl (by omega)) rfl ?_
      refine RR.pv (pv_mv rfl) rfl ?_
      refine RR.pv (pv_sub32 rfl rfl (by omega)) rfl ?_
      rw [show ((nm j + 1 : Nat) : Int) - 1 = (nm j : Int) from by omega]
      first | refine RR.pv (pv_ixN rfl rfl st28 (by omega)) rfl ?_ | refine RR.pv (pv_ixZ rfl rfl st28 (by omega)) rfl ?_
      refine RR.st rfl rfl ct21 OneV.i (hM12.ha (m + gg j / 2) hroom) (hM12.wa _ hroom) ?_
      refine RR.nil ?_
      refine CC.region ?_
      first | refine RR.pv (pv_addN (n := 1) rfl rfl (by omega)) rfl ?_ | refine RR.pv (pv_add64 rfl rfl (by omega)) rfl ?_
      refine RR.pv (pv_mv rfl) rfl ?_
      refine RR.nil ?_
      refine Nxt.go (j + 1, _) ⟨rfl, rfl, rfl, rfl, rfl, rfl, rfl, rfl, rfl, rfl, ?_, trivial⟩ ⟨hlt, NI.push hG hNI hlt, hM12.setA g hroom _, tS.tr hTt12 (tS.a l w13 hroom _)⟩ (by dsimp only; omega)
      dsimp only
      rw [hnvS]; rfl
  have hjm : m = j := by omega
  subst hjm
  refine CC.seq ?_
  refine CC.region ?_
  first | refine RR.pv (pv_lss_t rfl rfl (by omega)) rfl ?_ | refine RR.pv (pv_lss_f rfl rfl (by omega)) rfl ?_ | refine RR.pv (pv_lss rfl rfl) rfl ?_
  refine RR.nil ?_
  refine CC.seq ?_
  refine CC.cond_f rfl ?_
  refine CC.exit ?_
  have hnvm : 0 < m → nv m = nm (m - 1) + 1 := fun h => by rw [show m = m - 1 + 1 from by omega, hnvS]; rfl
  have hnvle : nv m ≤ m := by
    rcases Nat.eq_zero_or_pos m with h | h
    · rw [h, hnv0]; exact Nat.le_refl _
    · rw [hnvm h]; have := hnle (m - 1) (by omega); omega
  -- the names moved to the end
  refine CC.seq ?_
  refine CC.seq ?_
  refine CC.region ?_
  refine RR.pv (pv_mv rfl) rfl ?_
  first | refine RR.pv (pv_subN (n := 1) rfl rfl (by omega)) rfl ?_ | refine RR.pv (pv_sub64 rfl rfl (by omega)) rfl ?_
  refine RR.pv (pv_mv rfl) rfl ?_
  first | refine RR.pv (pv_subN (n := 1) rfl rfl (by omega)) rfl ?_ | refine RR.pv (pv_sub64 rfl rfl (by omega)) rfl ?_
  refine RR.pv (pv_as rfl) rfl ?_
  refine RR.pv (pv_as rfl) rfl ?_
  refine RR.nil ?_
  refine CC.block ?_
  refine CC.loop (γ := Nat × Nat × (Nat → Int)) (F := fun g => [(0, .slice (some ⟨l.bt, l.ot, none⟩) l.n l.ct), (1, .slice (some ⟨l.bs, l.os, none⟩) l.n l.cs), (2, .int .i64 (l.k : Int)), (6, .int .i64 (l.n : Int)), (7, .slice (some ⟨l.b3, 0, none⟩) l.n l.n), (9, .slice (some ⟨l.bc, 0, none⟩) l.k l.k), (12, .slice (some ⟨l.bb, 0, none⟩) l.k l.k), (16, .int .i64 (m : Int)), (20, .int .i32 ((nv m : Nat) : Int)), (22, .int .i64 ((g.1 : Int) - 1)), (23, .int .i64 ((g.2.1 : Int) - 1))])
    (I := fun g w' => CI l.n s m gg nm A5 g.1 g.2.1 g.2.2 ∧ M5 .u8 l t s (Nc l.n t) g.2.2 bk2 w' ∧ Touch (tS l) w w') (μ := fun g => g.1) (l.n, l.n, A5)
    ⟨rfl, rfl, rfl, rfl, rfl, rfl, rfl, rfl, rfl, by show some _ = some _; congr 2; show ((l.n - 1 : Nat) : Int) = (l.n : Int) - 1; omega, by show some _ = some _; congr 2; show ((l.n - 1 : Nat) : Int) = (l.n : Int) - 1; omega, trivial⟩
    ⟨CI.start hTy hmc hG, hM12, hTt12⟩ ?_
  clear hM12 hTt12
  rintro ⟨X, J, A6⟩ w13 ⟨hCI, hM13, hTt13⟩
  dsimp only at hCI hM13 ⊢
  have hCle := hCI.le
  by_cases hlt : m < X
  · obtain ⟨x, rfl⟩ : ∃ x, X = x + 1 := ⟨X - 1, by omega⟩
    have hxn : x < l.n := by omega
    have hA6 := hCI.old x (by omega)
    rw [show ((x + 1 : Nat) : Int) - 1 = (x : Int) from by omega]
    refine CC.seq ?_
    refine CC.seq ?_
    refine CC.region ?_
    refine RR.pv (pv_mv rfl) rfl ?_
    refine RR.pv (pv_mv rfl) rfl ?_
    first | refine RR.pv (pv_geq_t rfl rfl (by omega)) rfl ?_ | refine RR.pv (pv_geq_f rfl rfl (by omega)) rfl ?_ | refine RR.pv (pv_geq rfl rfl) rfl ?_
    refine RR.nil ?_
    refine CC.cond_t rfl ?_
    by_cases h0 : 0 ≤ A5 x
    · obtain ⟨hJ0, hxJ, hCI'⟩ := hCI.push hmc hG hNI (by omega) h0
      rw [← hA6] at hCI'
      have hJn : J - 1 < l.n := by omega
      have h0' : 0 ≤ A6 x := by rw [hA6]; exact h0
      rw [show (J : Int) - 1 = ((J - 1 : Nat) : Int) from by omega]
      refine CC.skip ?_
      refine CC.seq ?_
      refine CC.block ?_
      refine CC.seq ?_
      refine CC.region ?_
      refine RR.pv (pv_mv rfl) rfl ?_
      refine RR.pv (pv_mv rfl) rfl ?_
      first | refine RR.pv (pv_ixN rfl rfl st28 (by omega)) rfl ?_ | refine RR.pv (pv_ixZ rfl rfl st28 (by omega)) rfl ?_
      refine RR.pv (pv_ld rfl ct21 (hM13.ha x hxn)) rfl ?_
      first | refine RR.pv (pv_geq_t rfl rfl (by omega)) rfl ?_ | refine RR.pv (pv_geq_f rfl rfl (by omega)) rfl ?_ | refine RR.pv (pv_geq rfl rfl) rfl ?_
      refine RR.nil ?_
      refine CC.cond_t rfl ?_
      refine CC.seq ?_
      refine CC.region ?_
      refine RR.pv (pv_mv rfl) rfl ?_
      refine RR.pv (pv_mv rfl) rfl ?_
      refine RR.pv (pv_mv rfl) rfl ?_
      refine RR.pv (pv_mv rfl) rfl ?_
      first | refine RR.pv (pv_ixN rfl rfl st28 (by omega)) rfl ?_ | refine RR.pv (pv_ixZ rfl rfl st28 (by omega)) rfl ?_
      refine RR.pv (pv_ld rfl ct21 (hM13.ha x hxn)) rfl ?_
      first | refine RR.pv (pv_ixN rfl rfl st28 (by omega)) rfl ?_ | refine RR.pv (pv_ixZ rfl rfl st28 (by omega)) rfl ?_
      refine RR.st rfl rfl ct21 OneV.i (hM13.ha (J - 1) hJn) (hM13.wa _ hJn) ?_
      have hM14 := hM13.setA g hJn (A6 x)
      have hTt14 := tS.tr hTt13 (tS.a l w13 hJn (.int .i32 (A6 x)))
      generalize w13.setCell _ _ = w14 at hM14 hTt14 ⊢
      refine RR.nil ?_
      refine CC.region ?_
      refine RR.pv (pv_mv rfl) rfl ?_
      refine RR.pv (pv_sub64 rfl rfl (by omega)) rfl ?_
      refine RR.pv (pv_as rfl) rfl ?_
      refine RR.nil ?_
      refine CC.region ?_
      refine RR.pv (pv_mv rfl) rfl ?_
      refine RR.pv (pv_sub64 rfl rfl (by omega)) rfl ?_
      refine RR.pv (pv_as rfl) rfl ?_
      refine RR.nil ?_
      exact Nxt.go (x, J - 1, _) ⟨rfl, rfl, rfl, rfl, rfl, rfl, rfl, rfl, rfl, rfl, rfl, trivial⟩ ⟨hCI', hM14, hTt14⟩ (by dsimp only; omega)
    · have h0' : A6 x < 0 := by rw [hA6]; omega
      have hCI' := hCI.pass hG hNI (by omega) (by omega)
      refine CC.skip ?_
      refine CC.seq ?_
      refine CC.block ?_
      refine CC.seq ?_
      refine CC.region ?_
      refine RR.pv (pv_mv rfl) rfl ?_
      refine RR.pv (pv_mv rfl) rfl ?_
      first | refine RR.pv (pv_ixN rfl rfl st28 (by omega)) rfl ?_ | refine RR.pv (pv_ixZ rfl rfl st28 (by omega)) rfl ?_
      refine RR.pv (pv_ld rfl ct21 (hM13.ha x hxn)) rfl ?_
      first | refine RR.pv (pv_geq_t rfl rfl (by omega)) rfl ?_ | refine RR.pv (pv_geq_f rfl rfl (by omega)) rfl ?_ | refine RR.pv (pv_geq rfl rfl) rfl ?_
      refine RR.nil ?_
      refine CC.cond_f rfl ?_
      refine CC.skip ?_
      refine CC.region ?_
      refine RR.pv (pv_mv rfl) rfl ?_
      refine RR.pv (pv_sub64 rfl rfl (by omega)) rfl ?_
      refine RR.pv (pv_as rfl) rfl ?_
      refine RR.nil ?_
      exact Nxt.go (x, J, A6) ⟨rfl, rfl, rfl, rfl, rfl, rfl, rfl, rfl, rfl, rfl, rfl, trivial⟩ ⟨hCI', hM13, hTt13⟩ (by dsimp only; omega)
  have hXm : m = X := by omega
  subst hXm
  refine CC.seq ?_
  refine CC.seq ?_
  refine CC.region ?_
  refine RR.pv (pv_mv rfl) rfl ?_
  refine RR.pv (pv_mv rfl) rfl ?_
  first | refine RR.pv (pv_geq_t rfl rfl (by omega)) rfl ?_ | refine RR.pv (pv_geq_f rfl rfl (by omega)) rfl ?_ | refine RR.pv (pv_geq rfl rfl) rfl ?_
  refine RR.nil ?_
  refine CC.cond_f rfl ?_
  refine CC.exit ?_
  obtain ⟨u, L, hu, hL, hRed, hule, hdist⟩ := hCI.done hTy hmc hG hnm
  clear hCI hNI
  refine CC.seq ?_
  refine CC.regionQ (by decide +kernel) ?_
  refine RR.pv (pv_mv rfl) rfl ?_
  refine RR.pv (pv_mv rfl) rfl ?_
  refine RR.pv (pv_mv rfl) rfl ?_
  first | refine RR.pv (pv_subN rfl rfl (by omega)) rfl ?_ | refine RR.pv (pv_sub64 rfl rfl (by omega)) rfl ?_
  refine RR.pv (pv_sll rfl rfl st28 (by omega) (by omega)) rfl ?_
  rw [show l.n - (l.n - m) = m from by omega]
  generalize hon : (if l.cs = l.n - m then l.os else l.os + (l.n - m)) = on
  have hon' : 0 < m → on = l.os + (l.n - m) := fun h => by rw [← hon, if_neg (by omega)]
  clear hon
  refine RR.pv (pv_mv rfl) rfl ?_
  refine RR.pv (pv_mv rfl) rfl ?_
  refine RR.pv (pv_slh rfl rfl st28 (by omega)) rfl ?_
  refine RR.pv (pv_as rfl) rfl ?_
  refine RR.pv (pv_as rfl) rfl ?_
  refine RR.nil ?_
  refine CC.seqCut (γ := Nat → Nat) (fun _ => [(0, .slice (some ⟨l.bt, l.ot, none⟩) l.n l.ct), (1, .slice (some ⟨l.bs, l.os, none⟩) l.n l.cs), (2, .int .i64 (l.k : Int)), (6, .int .i64 (l.n : Int)), (7, .slice (some ⟨l.b3, 0, none⟩) l.n l.n), (9, .slice (some ⟨l.bc, 0, none⟩) l.k l.k), (12, .slice (some ⟨l.bb, 0, none⟩) l.k l.k), (16, .int .i64 (m : Int)), (24, .slice (some ⟨l.bs, on, none⟩) m (l.cs - (l.n - m))), (25, .slice (some ⟨l.bs, l.os, none⟩) m l.cs)])
    (fun B w' => IsSA m u (fun i => (B i : Int)) ∧ (∀ x, x < m → B x < m) ∧ ∃ A7, M5 .u8 l t s (Nc l.n t) A7 bk2 w' ∧ (∀ x, x < m → A7 x = (B x : Int)) ∧ Touch (tS l) w w') ?_ ?_
  · by_cases hnv : nv m < m
    · have hm0 : 0 < m := by omega
      have hon2 := hon' hm0
      subst hon2
      refine CC.seq ?_
      refine CC.region ?_
      refine RR.pv (pv_mv rfl) rfl ?_
      refine RR.pv (pv_c21_3 rfl (by omega)) rfl ?_
      refine RR.pv (pv_mv rfl) rfl ?_
      first | refine RR.pv (pv_lss_t rfl rfl (by omega)) rfl ?_ | refine RR.pv (pv_lss_f rfl rfl (by omega)) rfl ?_ | refine RR.pv (pv_lss rfl rfl) rfl ?_
      refine RR.nil ?_
      refine CC.cond_t rfl ?_
      refine CC.region ?_
      refine RR.pv (pv_mv rfl) rfl ?_
      refine RR.pv (pv_mv rfl) rfl ?_
      refine RR.pv (pv_mv rfl) rfl ?_
      refine RR.pv (pv_c21_3 rfl (by omega)) rfl ?_
      refine RR.call Try.func38 nm38 rfl rfl (hrec m (by omega) l.bs (l.os + (l.n - m)) (l.cs - (l.n - m)) l.bs l.os l.cs (nv m) u A6 w13 hm0 (by omega) (fun i hi => by rw [hnvm hm0]; have := hule i hi; omega) (by omega) (fun x hx => by
        have := hM13.ha (l.n - m + x) (by omega)
        rw [hu x hx] at this
        rw [Nat.add_assoc]; exact this) (hM13.ha.v.take (by omega)).ii (hM13.wa.take (by omega)) (fun i j hi hj e => by omega)) rfl (fun v15 w15 hpost => ?_)
      obtain ⟨A', hA', hS', hT'⟩ := hpost
      refine RR.nil ?_
      obtain ⟨B, hB1, hB2⟩ := hA'.nat
      refine CutQ.go B ⟨rfl, rfl, rfl, rfl, rfl, rfl, rfl, rfl, rfl, rfl, trivial⟩ ⟨hB2, fun x hx => (hB1 x hx).2, _, hM13.sub g (by omega) (by omega) hk0 hT' hS', fun x hx => by rw [if_pos hx]; exact (hB1 x hx).1, tS.tr hTt13 (hT'.mono (fun b o _ h => .inl ⟨h.1, h.2.1, by have := h.2.2; omega⟩))⟩
    · obtain ⟨hum, hui⟩ := hdist (by
        rcases Nat.eq_zero_or_pos m with h | h
        · omega
        · have := hnvm h; omega)
      refine CC.seq ?_
      refine CC.region ?_
      refine RR.pv (pv_mv rfl) rfl ?_
      refine RR.pv (pv_c21_3 rfl (by omega)) rfl ?_
      refine RR.pv (pv_mv rfl) rfl ?_
      first | refine RR.pv (pv_lss_t rfl rfl (by omega)) rfl ?_ | refine RR.pv (pv_lss_f rfl rfl (by omega)) rfl ?_ | refine RR.pv (pv_lss rfl rfl) rfl ?_
      refine RR.nil ?_
      refine CC.cond_f rfl ?_
      refine CC.seq ?_
      refine CC.region ?_
      refine RR.pv (pv_mv rfl) rfl ?_
      refine RR.pv (pv_len rfl st28) rfl ?_
      refine RR.pv (pv_mv rfl) rfl ?_
      refine RR.nil ?_
      refine CC.block ?_
      refine CC.loop (γ := Nat × (Nat → Int)) (F := fun g => [(0, .slice (some ⟨l.bt, l.ot, none⟩) l.n l.ct), (1, .slice (some ⟨l.bs, l.os, none⟩) l.n l.cs), (2, .int .i64 (l.k : Int)), (6, .int .i64 (l.n : Int)), (7, .slice (some ⟨l.b3, 0, none⟩) l.n l.n), (9, .slice (some ⟨l.bc, 0, none⟩) l.k l.k), (12, .slice (some ⟨l.bb, 0, none⟩) l.k l.k), (16, .int .i64 (m : Int)), (24, .slice (some ⟨l.bs, on, none⟩) m (l.cs - (l.n - m))), (25, .slice (some ⟨l.bs, l.os, none⟩) m l.cs), (271, .slice (some ⟨l.bs, on, none⟩) m (l.cs - (l.n - m))), (272, .int .i64 (m : Int)), (273, .int .i64 (g.1 : Int))])
        (I := fun g w' => g.1 ≤ m ∧ (∀ y, y < g.1 → g.2 (u y) = (y : Int)) ∧ (∀ y, m ≤ y → y < l.n → g.2 y = A6 y) ∧ M5 .u8 l t s (Nc l.n t) g.2 bk2 w' ∧ Touch (tS l) w w') (μ := fun g => m - g.1) (0, A6)
        ⟨rfl, rfl, rfl, rfl, rfl, rfl, rfl, rfl, rfl, rfl, rfl, rfl, rfl, trivial⟩
        ⟨Nat.zero_le _, fun y hy => absurd hy (Nat.not_lt_zero _), fun y _ _ => rfl, hM13, hTt13⟩ ?_
      clear hM13 hTt13
      rintro ⟨x, A7⟩ w14 ⟨hx, hdone, hkeep, hM14, hTt14⟩
      dsimp only at hx hdone hkeep hM14 ⊢
      by_cases hlt' : x < m
      · have hon2 := hon' (by omega)
        have hux := hum x hlt'
        have huxn : u x < l.n := by omega
        have hcell : w14.cell? ⟨l.bs, on + x, none⟩ = some (.int .i32 ((u x : Nat) : Int)) := by
          have := hM14.ha (l.n - m + x) (by omega)
          rw [hkeep _ (by omega) (by omega), hu x hlt'] at this
          rw [hon2, Nat.add_assoc]; exact this
        refine CC.seq ?_
        refine CC.region ?_
        first | refine RR.pv (pv_lss_t rfl rfl (by omega)) rfl ?_ | refine RR.pv (pv_lss_f rfl rfl (by omega)) rfl ?_ | refine RR.pv (pv_lss rfl rfl) rfl ?_
        refine RR.nil ?_
        refine CC.seq ?_
        refine CC.cond_t rfl ?_
        refine CC.skip ?_
        refine CC.seq ?_
        refine CC.block ?_
        refine CC.seq ?_
        refine CC.region ?_
        refine RR.pv (pv_mv rfl) rfl ?_
        first | refine RR.pv (pv_ixN rfl rfl st28 (by omega)) rfl ?_ | refine RR.pv (pv_ixZ rfl rfl st28 (by omega)) rfl ?_
        refine RR.pv (pv_ld rfl ct21 (hcell)) rfl ?_
        refine RR.pv (pv_as rfl) rfl ?_
        refine RR.pv (pv_as rfl) rfl ?_
        refine RR.nil ?_
        refine CC.region ?_
        refine RR.pv (pv_mv rfl) rfl ?_
        refine RR.pv (pv_mv rfl) rfl ?_
        refine RR.pv (pv_mv rfl) rfl ?_
        first | refine RR.pv (pv_c3_21 rfl (by omega)) rfl ?_ | refine RR.pv (pv_c3_21w rfl) rfl ?_
        first | refine RR.pv (pv_ixN rfl rfl st28 (by omega)) rfl ?_ | refine RR.pv (pv_ixZ rfl rfl st28 (by omega)) rfl ?_
        refine RR.st rfl rfl ct21 OneV.i (hM14.ha (u x) huxn) (hM14.wa _ huxn) ?_
        refine RR.nil ?_
        refine CC.region ?_
        first | refine RR.pv (pv_addN (n := 1) rfl rfl (by omega)) rfl ?_ | refine RR.pv (pv_add64 rfl rfl (by omega)) rfl ?_
        refine RR.pv (pv_mv rfl) rfl ?_
        refine RR.nil ?_
        refine Nxt.go (x + 1, upd A7 (u x) (x : Int)) ⟨rfl, rfl, rfl, rfl, rfl, rfl, rfl, rfl, rfl, rfl, rfl, rfl, rfl, trivial⟩ ⟨hlt', fun y hy => ?_, fun y h1 h2 => ?_, hM14.setA g huxn _, tS.tr hTt14 (tS.a l w14 huxn _)⟩ (by dsimp only; omega)
        · dsimp only at hy ⊢
          by_cases e : y = x
          · subst e; rw [upd_same]
          · rw [upd_ne _ _ (fun e' => e (hui y x (by omega) hlt' e'))]; exact hdone y (by omega)
        · dsimp only; rw [upd_ne _ _ (by omega)]; exact hkeep y h1 h2
      have hxm : x = m := by omega
      refine CC.seq ?_
      refine CC.region ?_
      first | refine RR.pv (pv_lss_t rfl rfl (by omega)) rfl ?_ | refine RR.pv (pv_lss_f rfl rfl (by omega)) rfl ?_ | refine RR.pv (pv_lss rfl rfl) rfl ?_
      refine RR.nil ?_
      refine CC.seq ?_
      refine CC.cond_f rfl ?_
      refine CC.exit ?_
      rw [hxm] at hdone
      obtain ⟨B, hB1, hB2⟩ := (isSA_distinct hum hui hdone).nat
      exact CutQ.go B ⟨rfl, rfl, rfl, rfl, rfl, rfl, rfl, rfl, rfl, rfl, trivial⟩ ⟨hB2, fun x hx => (hB1 x hx).2, A7, hM14, fun x hx => (hB1 x hx).1, hTt14⟩
  rintro B w15 ⟨hB, hBm, A7, hM15, hA7, hTt15⟩
  clear hM13 hTt13
  have hLS := ls_of hRed hB
  -- the positions behind the names
  have hRI0 : RI l.n s m B 1 A7 := ⟨fun p hp hl => by rw [lms_iff] at hl; omega, hA7⟩
  have hc10 : cnt (lms s) 1 = 0 := by simp [cnt, lms]
  refine CC.seq ?_
  refine CC.region ?_
  refine RR.pv (pv_as rfl) rfl ?_
  refine RR.nil ?_
  refine CC.seq ?_
  refine CC.seq ?_
  refine CC.region ?_
  refine RR.pv (pv_as rfl) rfl ?_
  refine RR.nil ?_
  refine CC.block ?_
  refine CC.loop (γ := Nat × (Nat → Int)) (F := fun g => [(0, .slice (some ⟨l.bt, l.ot, none⟩) l.n l.ct), (1, .slice (some ⟨l.bs, l.os, none⟩) l.n l.cs), (2, .int .i64 (l.k : Int)), (6, .int .i64 (l.n : Int)), (7, .slice (some ⟨l.b3, 0, none⟩) l.n l.n), (9, .slice (some ⟨l.bc, 0, none⟩) l.k l.k), (12, .slice (some ⟨l.bb, 0, none⟩) l.k l.k), (16, .int .i64 (m : Int)), (24, .slice (some ⟨l.bs, on, none⟩) m (l.cs - (l.n - m))), (25, .slice (some ⟨l.bs, l.os, none⟩) m l.cs), (28, .int .i64 ((cnt (lms s) g.1 : Nat) : Int)), (29, .int .i64 (g.1 : Int))])
    (I := fun g w' => 1 ≤ g.1 ∧ g.1 ≤ l.n ∧ RI l.n s m B g.1 g.2 ∧ M5 .u8 l t s (Nc l.n t) g.2 bk2 w' ∧ Touch (tS l) w w') (μ := fun g => l.n - g.1) (1, A7)
    ⟨rfl, rfl, rfl, rfl, rfl, rfl, rfl, rfl, rfl, rfl, by dsimp only; rw [hc10]; rfl, rfl, trivial⟩
    ⟨Nat.le_refl _, by dsimp only; omega, hRI0, hM15, hTt15⟩ ?_
  clear hM15 hTt15 hRI0 hA7
  rintro ⟨i, A8⟩ w16 ⟨hi1, hi, hRI, hM16, hTt16⟩
  dsimp only at hi1 hi hRI hM16 ⊢
  by_cases hlt : i < l.n
  · refine CC.seq ?_
    refine CC.seq ?_
    refine CC.region ?_
    refine RR.pv (pv_mv rfl) rfl ?_
    refine RR.pv (pv_mv rfl) rfl ?_
    first | refine RR.pv (pv_lss_t rfl rfl (by omega)) rfl ?_ | refine RR.pv (pv_lss_f rfl rfl (by omega)) rfl ?_ | refine RR.pv (pv_lss rfl rfl) rfl ?_
    refine RR.nil ?_
    refine CC.cond_t rfl ?_
    by_cases hl : lms s i = true
    · have hll := lms_iff.1 hl
      have hc1 : w16.cell? ⟨l.b3, 0 + i, none⟩ = some (.bool true) := by rw [← hll.2.1]; exact hM16.hs i hlt
      have hc2 : w16.cell? ⟨l.b3, 0 + (i - 1), none⟩ = some (.bool false) := by rw [← hll.2.2]; exact hM16.hs (i - 1) (by omega)
      have hcm : cnt (lms s) i < m := by rw [hmc]; exact cnt_rank hlt hl
      obtain ⟨hcn, hRI'⟩ := hRI.push (by omega) hl
      have hon2 := hon' (by omega)
      have hpl : l.n - m + cnt (lms s) i < l.n := by omega
      refine CC.skip ?_
      refine CC.seq ?_
      refine CC.block ?_
      refine CC.seq ?_
      refine CC.region ?_
      refine RR.pv (pv_mv rfl) rfl ?_
      refine RR.pv (pv_mv rfl) rfl ?_
      first | refine RR.pv (pv_ixN rfl rfl st36 (by omega)) rfl ?_ | refine RR.pv (pv_ixZ rfl rfl st36 (by omega)) rfl ?_
      refine RR.pv (pv_ld rfl ct4 (hc1)) rfl ?_
      refine RR.pv (pv_mv rfl) rfl ?_
      first | refine RR.gy rfl rfl (pv_mv rfl) rfl ?_ | refine RR.gn rfl rfl rfl rfl ?_
      first | refine RR.gy rfl rfl (pv_mv rfl) rfl ?_ | refine RR.gn rfl rfl rfl rfl ?_
      first | refine RR.gy rfl rfl (pv_subN (n := 1) rfl rfl (by omega)) rfl ?_ | refine RR.gy rfl rfl (pv_sub64 rfl rfl (by omega)) rfl ?_ | refine RR.gn rfl rfl rfl rfl ?_
      first | refine RR.gy rfl rfl (pv_ixN rfl rfl st36 (by omega)) rfl ?_ | refine RR.gy rfl rfl (pv_ixZ rfl rfl st36 (by omega)) rfl ?_ | refine RR.gn rfl rfl rfl rfl ?_
      first | refine RR.gy rfl rfl (pv_ld rfl ct4 (hc2)) rfl ?_ | refine RR.gn rfl rfl rfl rfl ?_
      first | refine RR.gy rfl rfl (pv_not_t rfl) rfl ?_ | refine RR.gy rfl rfl (pv_not_f rfl) rfl ?_ | refine RR.gy rfl rfl (pv_not rfl) rfl ?_ | refine RR.gn rfl rfl rfl rfl ?_
      first | refine RR.pv (pv_pick_t rfl rfl) rfl ?_ | refine RR.pv (pv_pick_f rfl rfl) rfl ?_
      refine RR.nil ?_
      refine CC.cond_t rfl ?_
      refine CC.seq ?_
      refine CC.region ?_
      refine RR.pv (pv_mv rfl) rfl ?_
      refine RR.pv (pv_mv rfl) rfl ?_
      refine RR.pv (pv_mv rfl) rfl ?_
      first | refine RR.pv (pv_c3_21 rfl (by omega)) rfl ?_ | refine RR.pv (pv_c3_21w rfl) rfl ?_
      first | refine RR.pv (pv_ixN rfl rfl st28 (by omega)) rfl ?_ | refine RR.pv (pv_ixZ rfl rfl st28 (by omega)) rfl ?_
      rw [show on + cnt (lms s) i = l.os + (l.n - m + cnt (lms s) i) from by omega]
      refine RR.st rfl rfl ct21 OneV.i (hM16.ha (l.n - m + cnt (lms s) i) hpl) (hM16.wa _ hpl) ?_
      refine RR.nil ?_
      refine CC.region ?_
      refine RR.pv (pv_mv rfl) rfl ?_
      first | refine RR.pv (pv_addN (n := 1) rfl rfl (by omega)) rfl ?_ | refine RR.pv (pv_add64 rfl rfl (by omega)) rfl ?_
      refine RR.pv (pv_as rfl) rfl ?_
      refine RR.nil ?_
      refine CC.region ?_
      refine RR.pv (pv_mv rfl) rfl ?_
      first | refine RR.pv (pv_addN (n := 1) rfl rfl (by omega)) rfl ?_ | refine RR.pv (pv_add64 rfl rfl (by omega)) rfl ?_
      refine RR.pv (pv_as rfl) rfl ?_
      refine RR.nil ?_
      refine Nxt.go (i + 1, _) ⟨rfl, rfl, rfl, rfl, rfl, rfl, rfl, rfl, rfl, rfl, ?_, rfl, trivial⟩ ⟨by dsimp only; omega, hlt, hRI', hM16.setA g hpl _, tS.tr hTt16 (tS.a l w16 hpl _)⟩ (by dsimp only; omega)
      dsimp only
      rw [hcn]; rfl
    have hl' : lms s i = false := by simpa using hl
    obtain ⟨hcn, hRI'⟩ := hRI.pass hl'
    by_cases hsi : s i = true
    · have hsj : s (i - 1) = true := by
        cases h6 : s (i - 1) with
        | false => exact absurd (lms_iff.2 ⟨by omega, hsi, h6⟩) hl
        | true => rfl
      have hc1 : w16.cell? ⟨l.b3, 0 + i, none⟩ = some (.bool true) := by rw [← hsi]; exact hM16.hs i hlt
      have hc2 : w16.cell? ⟨l.b3, 0 + (i - 1), none⟩ = some (.bool true) := by rw [← hsj]; exact hM16.hs (i - 1) (by omega)
      refine CC.skip ?_
      refine CC.seq ?_
      refine CC.block ?_
      refine CC.seq ?_
      refine CC.region ?_
      refine RR.pv (pv_mv rfl) rfl ?_
      refine RR.pv (pv_mv rfl) rfl ?_
      first | refine RR.pv (pv_ixN rfl rfl st36 (by omega)) rfl ?_ | refine RR.pv (pv_ixZ rfl rfl st36 (by omega)) rfl ?_
      refine RR.pv (pv_ld rfl ct4 (hc1)) rfl ?_
      refine RR.pv (pv_mv rfl) rfl ?_
      first | refine RR.gy rfl rfl (pv_mv rfl) rfl ?_ | refine RR.gn rfl rfl rfl rfl ?_
      first | refine RR.gy rfl rfl (pv_mv rfl) rfl ?_ | refine RR.gn rfl rfl rfl rfl ?_
      first | refine RR.gy rfl rfl (pv_subN (n := 1) rfl rfl (by omega)) rfl ?_ | refine RR.gy rfl rfl (pv_sub64 rfl rfl (by omega)) rfl ?_ | refine RR.gn rfl rfl rfl rfl ?_
      first | refine RR.gy rfl rfl (pv_ixN rfl rfl st36 (by omega)) rfl ?_ | refine RR.gy rfl rfl (pv_ixZ rfl rfl st36 (by omega)) rfl ?_ | refine RR.gn rfl rfl rfl rfl ?_
      first | refine RR.gy rfl rfl (pv_ld rfl ct4 (hc2)) rfl ?_ | refine RR.gn rfl rfl rfl rfl ?_
      first | refine RR.gy rfl rfl (pv_not_t rfl) rfl ?_ | refine RR.gy rfl rfl (pv_not_f rfl) rfl ?_ | refine RR.gy rfl rfl (pv_not rfl) rfl ?_ | refine RR.gn rfl rfl rfl rfl ?_
      first | refine RR.pv (pv_pick_t rfl rfl) rfl ?_ | refine RR.pv (pv_pick_f rfl rfl) rfl ?_
      refine RR.nil ?_
      refine CC.cond_f rfl ?_
      refine CC.skip ?_
      refine CC.region ?_
      refine RR.pv (pv_mv rfl) rfl ?_
      first | refine RR.pv (pv_addN (n := 1) rfl rfl (by omega)) rfl ?_ | refine RR.pv (pv_add64 rfl rfl (by omega)) rfl ?_
      refine RR.pv (pv_as rfl) rfl ?_
      refine RR.nil ?_
      refine Nxt.go (i + 1, A8) ⟨rfl, rfl, rfl, rfl, rfl, rfl, rfl, rfl, rfl, rfl, ?_, rfl, trivial⟩ ⟨by dsimp only; omega, hlt, hRI', hM16, hTt16⟩ (by dsimp only; omega)
      dsimp only
      rw [hcn]; rfl
    · have hsi' : s i = false := by simpa using hsi
      have hc1 : w16.cell? ⟨l.b3, 0 + i, none⟩ = some (.bool false) := by rw [← hsi']; exact hM16.hs i hlt
      refine CC.skip ?_
      refine CC.seq ?_
      refine CC.block ?_
      refine CC.seq ?_
      refine CC.region ?_
      refine RR.pv (pv_mv rfl) rfl ?_
      refine RR.pv (pv_mv rfl) rfl ?_
      first | refine RR.pv (pv_ixN rfl rfl st36 (by omega)) rfl ?_ | refine RR.pv (pv_ixZ rfl rfl st36 (by omega)) rfl ?_
      refine RR.pv (pv_ld rfl ct4 (hc1)) rfl ?_
      refine RR.pv (pv_mv rfl) rfl ?_
      first | refine RR.gy rfl rfl (pv_mv rfl) rfl ?_ | refine RR.gn rfl rfl rfl rfl ?_
      first | refine RR.gy rfl rfl (pv_mv rfl) rfl ?_ | refine RR.gn rfl rfl rfl rfl ?_
      first | refine RR.gy rfl rfl (pv_subN (n := 1) rfl rfl (by omega)) rfl ?_ | refine RR.gy rfl rfl (pv_sub64 rfl rfl (by omega)) rfl ?_ | refine RR.gn rfl rfl rfl rfl ?_
      first | refine RR.gy rfl rfl (pv_ixN rfl rfl st36 (by omega)) rfl ?_ | refine RR.gy rfl rfl (pv_ixZ rfl rfl st36 (by omega)) rfl ?_ | refine RR.gn rfl rfl rfl rfl ?_
      first | refine RR.gy rfl rfl (pv_ld rfl ct4 (hc1)) rfl ?_ | refine RR.gn rfl rfl rfl rfl ?_
      first | refine RR.gy rfl rfl (pv_not_t rfl) rfl ?_ | refine RR.gy rfl rfl (pv_not_f rfl) rfl ?_ | refine RR.gy rfl rfl (pv_not rfl) rfl ?_ | refine RR.gn rfl rfl rfl rfl ?_
      first | refine RR.pv (pv_pick_t rfl rfl) rfl ?_ | refine RR.pv (pv_pick_f rfl rfl) rfl ?_
      refine RR.nil ?_
      refine CC.cond_f rfl ?_
      refine CC.skip ?_
      refine CC.region ?_
      refine RR.pv (pv_mv rfl) rfl ?_
      first | refine RR.pv (pv_addN (n := 1) rfl rfl (by omega)) rfl ?_ | refine RR.pv (pv_add64 rfl rfl (by omega)) rfl ?_
      refine RR.pv (pv_as rfl) rfl ?_
      refine RR.nil ?_
      refine Nxt.go (i + 1, A8) ⟨rfl, rfl, rfl, rfl, rfl, rfl, rfl, rfl, rfl, rfl, ?_, rfl, trivial⟩ ⟨by dsimp only; omega, hlt, hRI', hM16, hTt16⟩ (by dsimp only; omega)
      dsimp only
      rw [hcn]; rfl
  have hin : i = l.n := by omega
  subst hin
  refine CC.seq ?_
  refine CC.seq ?_
  refine CC.region ?_
  refine RR.pv (pv_mv rfl) rfl ?_
  refine RR.pv (pv_mv rfl) rfl ?_
  first | refine RR.pv (pv_lss_t rfl rfl (by omega)) rfl ?_ | refine RR.pv (pv_lss_f rfl rfl (by omega)) rfl ?_ | refine RR.pv (pv_lss rfl rfl) rfl ?_
  refine RR.nil ?_
  refine CC.cond_f rfl ?_
  refine CC.exit ?_
  have hQ0 := QI.start hL hRI
  refine CC.seq ?_
  refine CC.seq ?_
  refine CC.region ?_
  refine RR.pv (pv_mv rfl) rfl ?_
  refine RR.pv (pv_len rfl st28) rfl ?_
  refine RR.pv (pv_mv rfl) rfl ?_
  refine RR.nil ?_
  refine CC.block ?_
  refine CC.loop (γ := Nat × (Nat → Int)) (F := fun g => [(0, .slice (some ⟨l.bt, l.ot, none⟩) l.n l.ct), (1, .slice (some ⟨l.bs, l.os, none⟩) l.n l.cs), (2, .int .i64 (l.k : Int)), (6, .int .i64 (l.n : Int)), (7, .slice (some ⟨l.b3, 0, none⟩) l.n l.n), (9, .slice (some ⟨l.bc, 0, none⟩) l.k l.k), (12, .slice (some ⟨l.bb, 0, none⟩) l.k l.k), (16, .int .i64 (m : Int)), (24, .slice (some ⟨l.bs, on, none⟩) m (l.cs - (l.n - m))), (25, .slice (some ⟨l.bs, l.os, none⟩) m l.cs), (308, .slice (some ⟨l.bs, l.os, none⟩) m l.cs), (309, .int .i64 (m : Int)), (310, .int .i64 (g.1 : Int))])
    (I := fun g w' => g.1 ≤ m ∧ QI l.n m L B g.1 g.2 ∧ M5 .u8 l t s (Nc l.n t) g.2 bk2 w' ∧ Touch (tS l) w w') (μ := fun g => m - g.1) (0, A8)
    ⟨rfl, rfl, rfl, rfl, rfl, rfl, rfl, rfl, rfl, rfl, rfl, rfl, rfl, trivial⟩
    ⟨Nat.zero_le _, hQ0, hM16, hTt16⟩ ?_
  clear hM16 hTt16 hQ0 hRI
  rintro ⟨x, A9⟩ w17 ⟨hx, hQ, hM17, hTt17⟩
  dsimp only at hx hQ hM17 ⊢
  by_cases hlt : x < m
  · have hon2 := hon' (by omega)
    have hBx := hBm x hlt
    have hxn : x < l.n := by omega
    have hc1 : w17.cell? ⟨l.bs, l.os + x, none⟩ = some (.int .i32 ((B x : Nat) : Int)) := by rw [← hQ.rest x (Nat.le_refl _) hlt]; exact hM17.ha x hxn
    have hc2 : w17.cell? ⟨l.bs, on + B x, none⟩ = some (.int .i32 ((L (B x) : Nat) : Int)) := by
      rw [hon2, Nat.add_assoc, ← hQ.pos _ hBx]; exact hM17.ha _ (by omega)
    refine CC.seq ?_
    refine CC.region ?_
    first | refine RR.pv (pv_lss_t rfl rfl (by omega)) rfl ?_ | refine RR.pv (pv_lss_f rfl rfl (by omega)) rfl ?_ | refine RR.pv (pv_lss rfl rfl) rfl ?_
    refine RR.nil ?_
    refine CC.seq ?_
    refine CC.cond_t rfl ?_
    refine CC.skip ?_
    refine CC.seq ?_
    refine CC.block ?_
    refine CC.seq ?_
    refine CC.region ?_
    refine RR.pv (pv_mv rfl) rfl ?_
    first | refine RR.pv (pv_ixN rfl rfl st28 (by omega)) rfl ?_ | refine RR.pv (pv_ixZ rfl rfl st28 (by omega)) rfl ?_
    refine RR.pv (pv_ld rfl ct21 (hc1)) rfl ?_
    refine RR.pv (pv_as rfl) rfl ?_
    refine RR.pv (pv_as rfl) rfl ?_
    refine RR.nil ?_
    refine CC.region ?_
    refine RR.pv (pv_mv rfl) rfl ?_
    refine RR.pv (pv_mv rfl) rfl ?_
    refine RR.pv (pv_mv rfl) rfl ?_
    refine RR.pv (pv_mv rfl) rfl ?_
    first | refine RR.pv (pv_ixN rfl rfl st28 (by omega)) rfl ?_ | refine RR.pv (pv_ixZ rfl rfl st28 (by omega)) rfl ?_
    refine RR.pv (pv_ld rfl ct21 (hc2)) rfl ?_
    first | refine RR.pv (pv_ixN rfl rfl st28 (by omega)) rfl ?_ | refine RR.pv (pv_ixZ rfl rfl st28 (by omega)) rfl ?_
    refine RR.st rfl rfl ct21 OneV.i (hM17.ha x hxn) (hM17.wa _ hxn) ?_
    refine RR.nil ?_
    refine CC.region ?_
    first | refine RR.pv (pv_addN (n := 1) rfl rfl (by omega)) rfl ?_ | refine RR.pv (pv_add64 rfl rfl (by omega)) rfl ?_
    refine RR.pv (pv_mv rfl) rfl ?_
    refine RR.nil ?_
    exact Nxt.go (x + 1, _) ⟨rfl, rfl, rfl, rfl, rfl, rfl, rfl, rfl, rfl, rfl, rfl, rfl, rfl, trivial⟩ ⟨hlt, hQ.push (by omega) hlt, hM17.setA g hxn _, tS.tr hTt17 (tS.a l w17 hxn _)⟩ (by dsimp only; omega)
  have hxm : m = x := by omega
  subst hxm
  refine CC.seq ?_
  refine CC.region ?_
  first | refine RR.pv (pv_lss_t rfl rfl (by omega)) rfl ?_ | refine RR.pv (pv_lss_f rfl rfl (by omega)) rfl ?_ | refine RR.pv (pv_lss rfl rfl) rfl ?_
  refine RR.nil ?_
  refine CC.seq ?_
  refine CC.cond_f rfl ?_
  refine CC.exit ?_
  refine CC.seq ?_
  refine CC.seq ?_
  refine CC.region ?_
  refine RR.pv (pv_mv rfl) rfl ?_
  refine RR.pv (pv_as rfl) rfl ?_
  refine RR.nil ?_
  refine CC.block ?_
  refine CC.loop (γ := Nat × (Nat → Int)) (F := fun g => [(0, .slice (some ⟨l.bt, l.ot, none⟩) l.n l.ct), (1, .slice (some ⟨l.bs, l.os, none⟩) l.n l.cs), (2, .int .i64 (l.k : Int)), (6, .int .i64 (l.n : Int)), (7, .slice (some ⟨l.b3, 0, none⟩) l.n l.n), (9, .slice (some ⟨l.bc, 0, none⟩) l.k l.k), (12, .slice (some ⟨l.bb, 0, none⟩) l.k l.k), (16, .int .i64 (m : Int)), (32, .int .i64 (g.1 : Int))])
    (I := fun g w' => m ≤ g.1 ∧ g.1 ≤ l.n ∧ (∀ j, j < m → g.2 j = (L (B j) : Int)) ∧ (∀ j, m ≤ j → j < g.1 → g.2 j = -1) ∧ M5 .u8 l t s (Nc l.n t) g.2 bk2 w' ∧ Touch (tS l) w w') (μ := fun g => l.n - g.1) (m, A9)
    ⟨rfl, rfl, rfl, rfl, rfl, rfl, rfl, rfl, rfl, trivial⟩
    ⟨Nat.le_refl _, by dsimp only; omega, hQ.done, fun j h1 h2 => by dsimp only at h2; omega, hM17, hTt17⟩ ?_
  clear hM17 hTt17 hQ
  rintro ⟨x, A10⟩ w18 ⟨hx1, hx, hlo, hhi, hM18, hTt18⟩
  dsimp only at hx1 hx hlo hhi hM18 ⊢
  by_cases hlt : x < l.n
  · refine CC.seq ?_
    refine CC.seq ?_
    refine CC.region ?_
    refine RR.pv (pv_mv rfl) rfl ?_
    refine RR.pv (pv_mv rfl) rfl ?_
    first | refine RR.pv (pv_lss_t rfl rfl (by omega)) rfl ?_ | refine RR.pv (pv_lss_f rfl rfl (by omega)) rfl ?_ | refine RR.pv (pv_lss rfl rfl) rfl ?_
    refine RR.nil ?_
    refine CC.cond_t rfl ?_
    refine CC.skip ?_
    refine CC.seq ?_
    refine CC.block ?_
    refine CC.region ?_
    refine RR.pv (pv_mv rfl) rfl ?_
    refine RR.pv (pv_mv rfl) rfl ?_
    first | refine RR.pv (pv_ixN rfl rfl st28 (by omega)) rfl ?_ | refine RR.pv (pv_ixZ rfl rfl st28 (by omega)) rfl ?_
    refine RR.st rfl rfl ct21 OneV.i (hM18.ha x hlt) (hM18.wa _ hlt) ?_
    refine RR.nil ?_
    refine CC.region ?_
    refine RR.pv (pv_mv rfl) rfl ?_
    first | refine RR.pv (pv_addN (n := 1) rfl rfl (by omega)) rfl ?_ | refine RR.pv (pv_add64 rfl rfl (by omega)) rfl ?_
    refine RR.pv (pv_as rfl) rfl ?_
    refine RR.nil ?_
    refine Nxt.go (x + 1, upd A10 x (-1)) ⟨rfl, rfl, rfl, rfl, rfl, rfl, rfl, rfl, rfl, trivial⟩ ⟨by dsimp only; omega, hlt, fun j hj => ?_, fun j h1 h2 => ?_, hM18.setA g hlt _, tS.tr hTt18 (tS.a l w18 hlt _)⟩ (by dsimp only; omega)
    · dsimp only; rw [upd_ne _ _ (by omega)]; exact hlo j hj
    · dsimp only at h2 ⊢
      by_cases e : j = x
      · subst e; rw [upd_same]
      · rw [upd_ne _ _ e]; exact hhi j h1 (by omega)
  have hxn : x = l.n := by omega
  subst hxn
  refine CC.seq ?_
  refine CC.seq ?_
  refine CC.region ?_
  refine RR.pv (pv_mv rfl) rfl ?_
  refine RR.pv (pv_mv rfl) rfl ?_
  first | refine RR.pv (pv_lss_t rfl rfl (by omega)) rfl ?_ | refine RR.pv (pv_lss_f rfl rfl (by omega)) rfl ?_ | refine RR.pv (pv_lss rfl rfl) rfl ?_
  refine RR.nil ?_
  refine CC.cond_f rfl ?_
  refine CC.exit ?_
  -- the LMS suffixes, in order, at the ends of their buckets
  obtain ⟨ix, hix⟩ := hLS.index
  have hP0 := hLS.begin hix (A := A10) (fun j h1 h2 => hhi j h1 h2)
  refine CC.seq ?_
  refine CC.region ?_
  refine RR.pv (pv_mv rfl) rfl ?_
  refine RR.pv (pv_mv rfl) rfl ?_
  refine RR.call Try.func35 nm35 rfl rfl (bucketEnds_any l.bb l.bc l.n l.k t _ w18 hn hkk g.cb hM18.hb hM18.wb hM18.hc) rfl (fun v19 w19 ⟨hb19, hT19⟩ => ?_)
  refine RR.nil ?_
  have hM19 := hM18.bkTouch g (by omega) hk0 hT19 hb19
  have hTt19 : Touch (tS l) w w19 := tS.tr hTt18 (hT19.mono (fun b o _ h => .inr h))
  clear hM18 hT19 hb19 hTt18 hhi
  refine CC.seq ?_
  refine CC.seq ?_
  refine CC.region ?_
  refine RR.pv (pv_mv rfl) rfl ?_
  refine RR.pv (pv_sub64 rfl rfl (by omega)) rfl ?_
  refine RR.pv (pv_as rfl) rfl ?_
  refine RR.nil ?_
  refine CC.block ?_
  refine CC.loop (γ := Nat × (Nat → Int) × (Nat → Nat)) (F := fun g => [(0, .slice (some ⟨l.bt, l.ot, none⟩) l.n l.ct), (1, .slice (some ⟨l.bs, l.os, none⟩) l.n l.cs), (2, .int .i64 (l.k : Int)), (6, .int .i64 (l.n : Int)), (7, .slice (some ⟨l.b3, 0, none⟩) l.n l.n), (9, .slice (some ⟨l.bc, 0, none⟩) l.k l.k), (12, .slice (some ⟨l.bb, 0, none⟩) l.k l.k), (33, .int .i64 ((g.1 : Int) - 1))])
    (I := fun g w' => g.1 ≤ m ∧ PI l.n t s (fun p => lms s p && decide (g.1 ≤ ix p)) ix g.1 g.2.1 g.2.2 ∧ (∀ x, x < g.1 → g.2.1 x = (L (B x) : Int)) ∧ M5 .u8 l t s (Nc l.n t) g.2.1 g.2.2 w' ∧ Touch (tS l) w w') (μ := fun g => g.1) (m, _, _)
    ⟨rfl, rfl, rfl, rfl, rfl, rfl, rfl, rfl, trivial⟩
    ⟨Nat.le_refl _, hP0, hlo, hM19, hTt19⟩ ?_
  clear hM19 hTt19 hP0 hlo
  rintro ⟨X, A11, bk⟩ w20 ⟨hXm, hP, hlo, hM20, hTt20⟩
  dsimp only at hXm hP hlo hM20 ⊢
  by_cases hX0 : X = 0
  rotate_left
  · obtain ⟨i, rfl⟩ : ∃ i, X = i + 1 := ⟨X - 1, by omega⟩
    have him : i < m := by omega
    have hin : i < l.n := by omega
    have hq := hLS.lms i him
    have hstep := hLS.step hix him hP
    have hAi := hlo i (by omega)
    generalize L (B i) = p at hq hstep hAi
    obtain ⟨hb0, hbn, hib, hP'⟩ := hstep
    have htp := hk p hq.1
    have hbl : bk (t p) - 1 < l.n := by omega
    have hcell : w20.cell? ⟨l.bs, l.os + i, none⟩ = some (.int .i32 (p : Int)) := by rw [← hAi]; exact hM20.ha i hin
    rw [show ((i + 1 : Nat) : Int) - 1 = (i : Int) from by omega]
    refine CC.seq ?_
    refine CC.seq ?_
    refine CC.region ?_
    refine RR.pv (pv_mv rfl) rfl ?_
    first | refine RR.pv (pv_geq_t rfl rfl (by omega)) rfl ?_ | refine RR.pv (pv_geq_f rfl rfl (by omega)) rfl ?_ | refine RR.pv (pv_geq rfl rfl) rfl ?_
    refine RR.nil ?_
    refine CC.cond_t rfl ?_
    refine CC.skip ?_
    refine CC.seq ?_
    refine CC.block ?_
    refine CC.seq ?_
    refine CC.region ?_
    refine RR.pv (pv_mv rfl) rfl ?_
    refine RR.pv (pv_mv rfl) rfl ?_
    first | refine RR.pv (pv_ixN rfl rfl st28 (by omega)) rfl ?_ | refine RR.pv (pv_ixZ rfl rfl st28 (by omega)) rfl ?_
    refine RR.pv (pv_ld rfl ct21 (hcell)) rfl ?_
    refine RR.pv (pv_as rfl) rfl ?_
    refine RR.nil ?_
    refine CC.seq ?_
    refine CC.region ?_
    refine RR.pv (pv_mv rfl) rfl ?_
    refine RR.pv (pv_mv rfl) rfl ?_
    first | refine RR.pv (pv_ixN rfl rfl st28 (by omega)) rfl ?_ | refine RR.pv (pv_ixZ rfl rfl st28 (by omega)) rfl ?_
    refine RR.st rfl rfl ct21 OneV.i (hM20.ha i hin) (hM20.wa _ hin) ?_
    have hM21 := hM20.setA g hin (-1)
    have hTt21 := tS.tr hTt20 (tS.a l w20 hin (.int .i32 (-1)))
    generalize w20.setCell _ _ = w21 at hM21 hTt21 ⊢
    refine RR.nil ?_
    refine CC.seq ?_
    refine CC.region ?_
    refine RR.pv (pv_mv rfl) rfl ?_
    refine RR.pv (pv_mv rfl) rfl ?_
    first | refine RR.pv (pv_ixN rfl rfl st22 (by omega)) rfl ?_ | refine RR.pv (pv_ixZ rfl rfl st22 (by omega)) rfl ?_
    refine RR.pv (pv_ld rfl ct5 (hM21.ht p hq.1)) rfl ?_
    refine RR.pv (pv_as rfl) rfl ?_
    refine RR.nil ?_
    refine CC.seq ?_
    refine CC.region ?_
    refine RR.pv (pv_mv rfl) rfl ?_
    refine RR.pv (pv_mv rfl) rfl ?_
    first | refine RR.pv (pv_ixN rfl rfl st28 (by omega)) rfl ?_ | refine RR.pv (pv_ixZ rfl rfl st28 (by omega)) rfl ?_
    refine RR.pv (pv_ld rfl ct21 (hM21.hb (t p) htp)) rfl ?_
    refine RR.pv (pv_sub32 rfl rfl (by omega)) rfl ?_
    rw [show ((bk (t p) : Nat) : Int) - 1 = ((bk (t p) - 1 : Nat) : Int) from by omega]
    first | refine RR.pv (pv_ixN rfl rfl st28 (by omega)) rfl ?_ | refine RR.pv (pv_ixZ rfl rfl st28 (by omega)) rfl ?_
    refine RR.st rfl rfl ct21 OneV.i (hM21.hb (t p) htp) (hM21.wb _ htp) ?_
    have hM22 := hM21.setB g htp (bk (t p) - 1)
    have hTt22 := tS.tr hTt21 (tS.b l w21 (0 + t p) (.int .i32 ((bk (t p) - 1 : Nat) : Int)))
    generalize w21.setCell _ _ = w22 at hM22 hTt22 ⊢
    refine RR.nil ?_
    have hbc : w22.cell? ⟨l.bb, 0 + t p, none⟩ = some (.int .i32 ((bk (t p) - 1 : Nat) : Int)) := by
      have := hM22.hb (t p) htp
      rw [upd_same] at this; exact this
    refine CC.region ?_
    refine RR.pv (pv_mv rfl) rfl ?_
    refine RR.pv (pv_mv rfl) rfl ?_
    refine RR.pv (pv_mv rfl) rfl ?_
    first | refine RR.pv (pv_ixN rfl rfl st28 (by omega)) rfl ?_ | refine RR.pv (pv_ixZ rfl rfl st28 (by omega)) rfl ?_
    refine RR.pv (pv_ld rfl ct21 (hbc)) rfl ?_
    refine RR.pv (pv_mv rfl) rfl ?_
    first | refine RR.pv (pv_ixN rfl rfl st28 (by omega)) rfl ?_ | refine RR.pv (pv_ixZ rfl rfl st28 (by omega)) rfl ?_
    refine RR.st rfl rfl ct21 OneV.i (hM22.ha (bk (t p) - 1) hbl) (hM22.wa _ hbl) ?_
    have hM23 := hM22.setA g hbl (p : Int)
    have hTt23 := tS.tr hTt22 (tS.a l w22 hbl (.int .i32 (p : Int)))
    generalize w22.setCell _ _ = w23 at hM23 hTt23 ⊢
    refine RR.nil ?_
    refine CC.region ?_
    refine RR.pv (pv_mv rfl) rfl ?_
    refine RR.pv (pv_sub64 rfl rfl (by omega)) rfl ?_
    refine RR.pv (pv_as rfl) rfl ?_
    refine RR.nil ?_
    refine Nxt.go (i, upd (upd A11 i (-1)) (bk (t p) - 1) (p : Int), upd bk (t p) (bk (t p) - 1)) ⟨rfl, rfl, rfl, rfl, rfl, rfl, rfl, rfl, trivial⟩ ⟨by dsimp only; omega, hP', fun x hx => ?_, hM23, hTt23⟩ (by dsimp only; omega)
    dsimp only at hx ⊢
    rw [upd_ne _ _ (by omega), upd_ne _ _ (by omega)]
    exact hlo x (by omega)
  subst hX0
  refine CC.seq ?_
  refine CC.seq ?_
  refine CC.region ?_
  refine RR.pv (pv_mv rfl) rfl ?_
  first | refine RR.pv (pv_geq_t rfl rfl (by omega)) rfl ?_ | refine RR.pv (pv_geq_f rfl rfl (by omega)) rfl ?_ | refine RR.pv (pv_geq rfl rfl) rfl ?_
  refine RR.nil ?_
  refine CC.cond_f rfl ?_
  refine CC.exit ?_
  obtain ⟨hIni2, hSor⟩ := hLS.done hix hP
  clear hP hlo
  refine CC.region ?_
  refine RR.pv (pv_mv rfl) rfl ?_
  refine RR.pv (pv_mv rfl) rfl ?_
  refine RR.pv (pv_mv rfl) rfl ?_
  refine RR.pv (pv_mv rfl) rfl ?_
  refine RR.pv (pv_mv rfl) rfl ?_
  refine RR.call Try.func36 nm36 rfl rfl (induce36_any l t s A11 bk w20 hn (by omega) hkk hk g hM20 hTy hIni2) rfl (fun v21 w21 hpost => ?_)
  obtain ⟨AL, bkL, A12, bk12, hLI, hSP, hM21, hTn⟩ := hpost
  have hTt21 := tS.tr hTt20 hTn
  refine RR.nil ?_
  exact EndQ.r0 Try.results33 ⟨A12, isSA_of hTy hIni2 hk hLI hSP hSor, hM21.ha, hTt21.mono (fun b o hb h => h.elim (fun h => h) (fun h => by omega))⟩

theorem sais38_all : ∀ n, n ≤ 1048576 → SaisOK 38 .i32 n := by
  intro n
  induction n using Nat.strongRecOn with
  | ind n ih => exact fun hn => sais38_step n hn (fun m hm => ih m hm (by omega))

theorem sais33_all (n : Nat) (hn : n ≤ 1048576) : SaisOK 33 .u8 n := sais33_step n hn (fun m hm => sais38_all m (by omega))

end Go.Proofs.Qxb6602663a.Vc
