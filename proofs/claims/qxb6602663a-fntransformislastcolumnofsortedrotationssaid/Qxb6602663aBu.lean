/-
  The rows that the induced sort works on; bucketStarts and bucketEnds.
-/
import Derived.Test.Qxb6602663aVc3
import Derived.Test.Qxb6602663aSa4
namespace Go.Proofs.Qxb6602663a.Vc
open Go.RowKit
open Go.Proofs.Qxb6602663a.Sa (Nc Bk Bk_le Bk_mono)
set_option linter.unusedVariables false
set_option linter.unusedSimpArgs false
set_option maxRecDepth 10000

/-! ### the places -/
structure Lay where
  bt : Nat
  ot : Nat
  ct : Nat
  bs : Nat
  os : Nat
  cs : Nat
  b3 : Nat
  bb : Nat
  bc : Nat
  n : Nat
  k : Nat

structure Geo (l : Lay) : Prop where
  dj : ∀ i j, i < l.n → j < l.n → ¬ (l.bt = l.bs ∧ l.ot + i = l.os + j)
  tb : l.bt ≠ l.bb
  sb : l.bs ≠ l.bb
  rb : l.b3 ≠ l.bb
  cb : l.bc ≠ l.bb
  rs : l.b3 ≠ l.bs
  cs' : l.bc ≠ l.bs

/-- The rows: text, types, suffix array, buckets, counts. -/
structure M5 (K : IntKind) (l : Lay) (t : Nat → Nat) (s : Nat → Bool) (cn : Nat → Nat) (A : Nat → Int) (bk : Nat → Nat) (w : World) : Prop where
  ht : SN K w l.bt l.ot l.n t
  hs : SB w l.b3 0 l.n s
  ha : SI .i32 w l.bs l.os l.n A
  wa : WR w l.bs l.os l.n
  hb : SN .i32 w l.bb 0 l.k bk
  wb : WR w l.bb 0 l.k
  hc : SN .i32 w l.bc 0 l.k cn

def tS (l : Lay) : Nat → Nat → Prop := fun b o => (b = l.bs ∧ l.os ≤ o ∧ o < l.os + l.n) ∨ b = l.bb

section
variable {K : IntKind} {l : Lay} {t : Nat → Nat} {s : Nat → Bool} {cn : Nat → Nat} {A : Nat → Int} {bk : Nat → Nat} {w : World}

theorem M5.setA (h : M5 K l t s cn A bk w) (g : Geo l) {j : Nat} (hj : j < l.n) (v : Int) : M5 K l t s cn (upd A j v) bk (w.setCell ⟨l.bs, l.os + j, none⟩ (.int .i32 v)) :=
  ⟨h.ht.set_ne (fun i hi e => g.dj i j hi hj e), h.hs.set_ne (fun i hi e => g.rs e.1), h.ha.set hj v, h.wa.set, h.hb.set_ne (fun i hi e => g.sb e.1.symm), h.wb.set, h.hc.set_ne (fun i hi e => g.cs' e.1)⟩

theorem M5.setB (h : M5 K l t s cn A bk w) (g : Geo l) {c : Nat} (hc : c < l.k) (v : Nat) : M5 K l t s cn A (upd bk c v) (w.setCell ⟨l.bb, 0 + c, none⟩ (.int .i32 (v : Int))) :=
  ⟨h.ht.set_ne (fun i hi e => g.tb e.1), h.hs.set_ne (fun i hi e => g.rb e.1), h.ha.set_ne (fun i hi e => g.sb e.1), h.wa.set, h.hb.set hc v, h.wb.set, h.hc.set_ne (fun i hi e => g.cb e.1)⟩

theorem M5.congrA (h : M5 K l t s cn A bk w) {A' : Nat → Int} (e : ∀ i, i < l.n → A i = A' i) : M5 K l t s cn A' bk w := ⟨h.ht, h.hs, (h.ha.v.congr e).ii, h.wa, h.hb, h.wb, h.hc⟩
theorem M5.congrB (h : M5 K l t s cn A bk w) {bk' : Nat → Nat} (e : ∀ i, i < l.k → bk i = bk' i) : M5 K l t s cn A bk' w := ⟨h.ht, h.hs, h.ha, h.wa, (h.hb.v.congr e).nn, h.wb, h.hc⟩

theorem tS.a (l : Lay) (w : World) {j : Nat} (hj : j < l.n) (v : Value) : Touch (tS l) w (w.setCell ⟨l.bs, l.os + j, none⟩ v) :=
  (Touch.setCell w l.bs (l.os + j) v).mono (fun b o _ h => .inl ⟨h.1, by omega, by omega⟩)
theorem tS.b (l : Lay) (w : World) (o : Nat) (v : Value) : Touch (tS l) w (w.setCell ⟨l.bb, o, none⟩ v) :=
  (Touch.setCell w l.bb o v).mono (fun b o _ h => .inr h.1)
theorem tS.tr {l : Lay} {w w1 w2 : World} (h : Touch (tS l) w w1) (h' : Touch (tS l) w1 w2) : Touch (tS l) w w2 := h.trans h' (fun _ _ _ h => h) (fun _ _ _ h => h)

/-- A call that turned the bucket row alone. -/
theorem M5.bkTouch (h : M5 K l t s cn A bk w) (g : Geo l) (hn : 0 < l.n) (hk : 0 < l.k) {bk' : Nat → Nat} {w' : World} (hT : Touch (fun b o => b = l.bb) w w') (hb : SN .i32 w' l.bb 0 l.k bk') : M5 K l t s cn A bk' w' :=
  ⟨h.ht.touch hT (fun i hi e => g.tb e), h.hs.touch hT (fun i hi e => g.rb e), h.ha.touch hT (fun i hi e => g.sb e), h.wa.touch (fun _ => h.ha.lt hn) hT, hb, h.wb.touch (fun _ => h.hb.lt hk) hT, h.hc.touch hT (fun i hi e => g.cb e)⟩
end

/-! ### bucketStarts, bucketEnds -/
theorem bucketStarts_any (bb bc n k : Nat) (t bk0 : Nat → Nat) (w : World) (hn : n ≤ 1048576) (hk : k ≤ 1048576) (hbc : bc ≠ bb) (hb : SN .i32 w bb 0 k bk0) (hw : WR w bb 0 k) (hc : SN .i32 w bc 0 k (Nc n t)) :
    FF 39 #[.slice (some ⟨bb, 0, none⟩) k k, .slice (some ⟨bc, 0, none⟩) k k] w (fun v w' => SN .i32 w' bb 0 k (Bk n t) ∧ Touch (fun b o => b = bb) w w') := by
  refine FF.of_cc (l := [_, _]) Try.func39 rfl Try.ntmps39 rfl (CC.keep (F := [(0, _), (1, _)]) ⟨rfl, rfl, trivial⟩ ?_)
  refine CC.seq ?_
  refine CC.region ?_
  refine RR.pv (pv_as rfl) rfl ?_
  refine RR.nil ?_
  refine CC.seq ?_
  refine CC.region ?_
  refine RR.pv (pv_mv rfl) rfl ?_
  refine RR.pv (pv_len rfl st28) rfl ?_
  refine RR.pv (pv_mv rfl) rfl ?_
  refine RR.nil ?_
  refine CC.block ?_
  refine CC.loop (γ := Nat × (Nat → Nat)) (F := fun g => [(0, .slice (some ⟨bb, 0, none⟩) k k), (7, .slice (some ⟨bc, 0, none⟩) k k), (8, .int .i64 (k : Int)), (9, .int .i64 (g.1 : Int)), (4, .int .i32 ((Bk n t g.1 : Nat) : Int))])
    (I := fun g w' => g.1 ≤ k ∧ SN .i32 w' bb 0 k g.2 ∧ WR w' bb 0 k ∧ SN .i32 w' bc 0 k (Nc n t) ∧ (∀ i, i < g.1 → g.2 i = Bk n t i) ∧ Touch (fun b o => b = bb) w w') (μ := fun g => k - g.1) (0, bk0) ⟨rfl, rfl, rfl, rfl, rfl, trivial⟩
    ⟨Nat.zero_le _, hb, hw, hc, fun i hi => absurd hi (Nat.not_lt_zero _), Touch.refl _ _⟩ ?_
  rintro ⟨i, h⟩ w2 ⟨hi, hb2, hw2, hc2, hall, hT2⟩
  dsimp only at hi hb2 hall ⊢
  by_cases hlt : i < k
  · refine CC.seq ?_
    refine CC.region ?_
    first | refine RR.pv (pv_lss_t rfl rfl (by omega)) rfl ?_ | refine RR.pv (pv_lss_f rfl rfl (by omega)) rfl ?_ | refine RR.pv (pv_lss rfl rfl) rfl ?_
    refine RR.nil ?_
    refine CC.seq ?_
    refine CC.cond_t rfl ?_
    refine CC.skip ?_
    refine CC.seq ?_
    refine CC.block ?_
    refine CC.seq ?_
    refine CC.region ?_
    refine RR.pv (pv_mv rfl) rfl ?_
    first | refine RR.pv (pv_ixN rfl rfl st28 (by omega)) rfl ?_ | refine RR.pv (pv_ixZ rfl rfl st28 (by omega)) rfl ?_
    refine RR.pv (pv_ld rfl ct21 (hc2 _ hlt)) rfl ?_
    refine RR.pv (pv_as rfl) rfl ?_
    refine RR.pv (pv_as rfl) rfl ?_
    refine RR.nil ?_
    refine CC.seq ?_
    refine CC.region ?_
    refine RR.pv (pv_mv rfl) rfl ?_
    refine RR.pv (pv_mv rfl) rfl ?_
    refine RR.pv (pv_mv rfl) rfl ?_
    first | refine RR.pv (pv_ixN rfl rfl st28 (by omega)) rfl ?_ | refine RR.pv (pv_ixZ rfl rfl st28 (by omega)) rfl ?_
    refine RR.st rfl rfl ct21 OneV.i (hb2 _ hlt) (hw2 _ hlt) ?_
    refine RR.nil ?_
    have h1 : Bk n t (i + 1) = Bk n t i + Nc n t i := rfl
    have h2 := Bk_le n t (i + 1)
    refine CC.region ?_
    refine RR.pv (pv_mv rfl) rfl ?_
    refine RR.pv (pv_mv rfl) rfl ?_
    refine RR.pv (pv_add32 rfl rfl (by omega)) rfl ?_
    rw [show ((Bk n t i : Nat) : Int) + ((Nc n t i : Nat) : Int) = ((Bk n t (i + 1) : Nat) : Int) from by omega]
    refine RR.pv (pv_as rfl) rfl ?_
    refine RR.nil ?_
    refine CC.region ?_
    first | refine RR.pv (pv_addN (n := 1) rfl rfl (by omega)) rfl ?_ | refine RR.pv (pv_add64 rfl rfl (by omega)) rfl ?_
    refine RR.pv (pv_mv rfl) rfl ?_
    refine RR.nil ?_
    refine Nxt.go (i + 1, upd h i (Bk n t i)) ⟨rfl, rfl, rfl, rfl, rfl, trivial⟩ ⟨hlt, hb2.set hlt _, hw2.set, hc2.set_ne (fun j hj e => hbc e.1), fun j hj => ?_, hT2.trans (Touch.setCell _ _ _ _) (fun _ _ _ h => h) (fun _ _ _ h => h.1)⟩ (by dsimp only; omega)
    dsimp only at hj ⊢
    by_cases e : j = i
    · subst e; rw [upd_same]
    · rw [upd_ne _ _ e]; exact hall j (by omega)
  have hik : i = k := by omega
  subst hik
  refine CC.seq ?_
  refine CC.region ?_
  first | refine RR.pv (pv_lss_t rfl rfl (by omega)) rfl ?_ | refine RR.pv (pv_lss_f rfl rfl (by omega)) rfl ?_ | refine RR.pv (pv_lss rfl rfl) rfl ?_
  refine RR.nil ?_
  refine CC.seq ?_
  refine CC.cond_f rfl ?_
  refine CC.exit ?_
  exact EndQ.r0 Try.results39 ⟨(hb2.v.congr hall).nn, hT2⟩

theorem bucketEnds_any (bb bc n k : Nat) (t bk0 : Nat → Nat) (w : World) (hn : n ≤ 1048576) (hk : k ≤ 1048576) (hbc : bc ≠ bb) (hb : SN .i32 w bb 0 k bk0) (hw : WR w bb 0 k) (hc : SN .i32 w bc 0 k (Nc n t)) :
    FF 35 #[.slice (some ⟨bb, 0, none⟩) k k, .slice (some ⟨bc, 0, none⟩) k k] w (fun v w' => SN .i32 w' bb 0 k (fun c => Bk n t (c + 1)) ∧ Touch (fun b o => b = bb) w w') := by
  refine FF.of_cc (l := [_, _]) Try.func35 rfl Try.ntmps35 rfl (CC.keep (F := [(0, _), (1, _)]) ⟨rfl, rfl, trivial⟩ ?_)
  refine CC.seq ?_
  refine CC.region ?_
  refine RR.pv (pv_as rfl) rfl ?_
  refine RR.nil ?_
  refine CC.seq ?_
  refine CC.region ?_
  refine RR.pv (pv_mv rfl) rfl ?_
  refine RR.pv (pv_len rfl st28) rfl ?_
  refine RR.pv (pv_mv rfl) rfl ?_
  refine RR.nil ?_
  refine CC.block ?_
  refine CC.loop (γ := Nat × (Nat → Nat)) (F := fun g => [(0, .slice (some ⟨bb, 0, none⟩) k k), (7, .slice (some ⟨bc, 0, none⟩) k k), (8, .int .i64 (k : Int)), (9, .int .i64 (g.1 : Int)), (4, .int .i32 ((Bk n t g.1 : Nat) : Int))])
    (I := fun g w' => g.1 ≤ k ∧ SN .i32 w' bb 0 k g.2 ∧ WR w' bb 0 k ∧ SN .i32 w' bc 0 k (Nc n t) ∧ (∀ i, i < g.1 → g.2 i = Bk n t (i + 1)) ∧ Touch (fun b o => b = bb) w w') (μ := fun g => k - g.1) (0, bk0) ⟨rfl, rfl, rfl, rfl, rfl, trivial⟩
    ⟨Nat.zero_le _, hb, hw, hc, fun i hi => absurd hi (Nat.not_lt_zero _), Touch.refl _ _⟩ ?_
  rintro ⟨i, h⟩ w2 ⟨hi, hb2, hw2, hc2, hall, hT2⟩
  dsimp only at hi hb2 hall ⊢
  by_cases hlt : i < k
  · refine CC.seq ?_
    refine CC.region ?_
    first | refine RR.pv (pv_lss_t rfl rfl (by omega)) rfl ?_ | refine RR.pv (pv_lss_f rfl rfl (by omega)) rfl ?_ | refine RR.pv (pv_lss rfl rfl) rfl ?_
    refine RR.nil ?_
    refine CC.seq ?_
    refine CC.cond_t rfl ?_
    refine CC.skip ?_
    refine CC.seq ?_
    refine CC.block ?_
    refine CC.seq ?_
    refine CC.region ?_
    refine RR.pv (pv_mv rfl) rfl ?_
    first | refine RR.pv (pv_ixN rfl rfl st28 (by omega)) rfl ?_ | refine RR.pv (pv_ixZ rfl rfl st28 (by omega)) rfl ?_
    refine RR.pv (pv_ld rfl ct21 (hc2 _ hlt)) rfl ?_
    refine RR.pv (pv_as rfl) rfl ?_
    refine RR.pv (pv_as rfl) rfl ?_
    refine RR.nil ?_
    have h1 : Bk n t (i + 1) = Bk n t i + Nc n t i := rfl
    have h2 := Bk_le n t (i + 1)
    refine CC.seq ?_
    refine CC.region ?_
    refine RR.pv (pv_mv rfl) rfl ?_
    refine RR.pv (pv_mv rfl) rfl ?_
    refine RR.pv (pv_add32 rfl rfl (by omega)) rfl ?_
    rw [show ((Bk n t i : Nat) : Int) + ((Nc n t i : Nat) : Int) = ((Bk n t (i + 1) : Nat) : Int) from by omega]
    refine RR.pv (pv_as rfl) rfl ?_
    refine RR.nil ?_
    refine CC.region ?_
    refine RR.pv (pv_mv rfl) rfl ?_
    refine RR.pv (pv_mv rfl) rfl ?_
    refine RR.pv (pv_mv rfl) rfl ?_
    first | refine RR.pv (pv_ixN rfl rfl st28 (by omega)) rfl ?_ | refine RR.pv (pv_ixZ rfl rfl st28 (by omega)) rfl ?_
    refine RR.st rfl rfl ct21 OneV.i (hb2 _ hlt) (hw2 _ hlt) ?_
    refine RR.nil ?_
    refine CC.region ?_
    first | refine RR.pv (pv_addN (n := 1) rfl rfl (by omega)) rfl ?_ | refine RR.pv (pv_add64 rfl rfl (by omega)) rfl ?_
    refine RR.pv (pv_mv rfl) rfl ?_
    refine RR.nil ?_
    refine Nxt.go (i + 1, upd h i (Bk n t (i + 1))) ⟨rfl, rfl, rfl, rfl, rfl, trivial⟩ ⟨hlt, hb2.set hlt _, hw2.set, hc2.set_ne (fun j hj e => hbc e.1), fun j hj => ?_, hT2.trans (Touch.setCell _ _ _ _) (fun _ _ _ h => h) (fun _ _ _ h => h.1)⟩ (by dsimp only; omega)
    dsimp only at hj ⊢
    by_cases e : j = i
    · subst e; rw [upd_same]
    · rw [upd_ne _ _ e]; exact hall j (by omega)
  have hik : i = k := by omega
  subst hik
  refine CC.seq ?_
  refine CC.region ?_
  first | refine RR.pv (pv_lss_t rfl rfl (by omega)) rfl ?_ | refine RR.pv (pv_lss_f rfl rfl (by omega)) rfl ?_ | refine RR.pv (pv_lss rfl rfl) rfl ?_
  refine RR.nil ?_
  refine CC.seq ?_
  refine CC.cond_f rfl ?_
  refine CC.exit ?_
  exact EndQ.r0 Try.results35 ⟨(hb2.v.congr hall).nn, hT2⟩

end Go.Proofs.Qxb6602663a.Vc
