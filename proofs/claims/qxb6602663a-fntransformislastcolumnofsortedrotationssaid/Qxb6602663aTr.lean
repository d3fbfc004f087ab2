/-
  The walks of transform and ZZTransform.
-/
import Derived.Test.Qxb6602663aSais
import Derived.Test.Qxb6602663aSy2
namespace Go.Proofs.Qxb6602663a.Vc
open Go.RowKit
open Go.Proofs.Qxb6602663a.Sa (IsSA)
set_option linter.unusedVariables false
set_option linter.unusedSimpArgs false
set_option maxRecDepth 10000

section
variable {N : Nat} {ops : Array Oper} {rest : List Oper} {E : Env} {w : World} {K : Env → World → Prop} {d d1 d2 d3 : Nat} {ty ty' ty2 : TypeId} {ps ps' ps2 : String} {af af' af2 : Array Edge} {x y z x2 y2 : Operand}

/-- append of bytes: in place, or into a new array. -/
theorem RR.apB {b k c b' o' m c' : Nat} {h f' : Nat → Nat} (hx : ev E x = some (.slice (some ⟨b, 0, none⟩) k c)) (hy : ev E y = some (.slice (some ⟨b', o', none⟩) m c')) (hkc : k ≤ c) (hd : SN .u8 w b 0 c h) (hw : WR w b 0 c) (hsrc : SN .u8 w b' o' m f') (hsm : k + m ≤ 1048576) (hN : Nat.blt d N = true)
    (hK : ∀ (b2 c2 : Nat) (h2 : Nat → Nat) (w2 : World), k + m ≤ c2 → SN .u8 w2 b2 0 c2 h2 → WR w2 b2 0 c2 → (∀ i, i < k + m → h2 i = if i < k then h i else f' (i - k)) →
      ((b2 = b ∧ c2 = c ∧ (∀ i, k + m ≤ i → h2 i = h i) ∧ Touch (fun b'' o => b'' = b) w w2) ∨ (c < k + m ∧ w.heap.size ≤ b2 ∧ b2 < w2.heap.size ∧ Touch (fun _ _ => False) w w2)) →
      RR false N ops rest ((d, .slice (some ⟨b2, 0, none⟩) (k + m) c2) :: E) w2 K) :
    RR false N ops (⟨some d, .call { callee := .builtin .append, args := #[x, y], argTypes := #[22, 22] }, ty, ps, af, none⟩ :: rest) E w K := by
  by_cases hroom : k + m ≤ c
  · refine RR.apRoom (mk := fun m : Nat => Value.int .u8 (m : Int)) (N' := c) Try.underlying22 info5 one_u8 hx hy hd.v hw hroom hroom hsrc.v hN ?_
    have h1 := hd.v.setCells (p := k) (m := m) (f' := f') (by omega)
    refine hK b c _ _ hroom h1.nn hw.setCells (fun i hi => ?_) (.inl ⟨rfl, rfl, fun i hi => ?_, (Touch.setCells _ _ _ _).mono (fun _ _ _ h => h.1)⟩)
    · by_cases h2 : i < k
      · rw [if_neg (by omega), if_pos h2]
      · rw [if_pos (by omega), if_neg h2]
    · rw [if_neg (by omega)]
  · refine RR.apGrow (mk := fun m : Nat => Value.int .u8 (m : Int)) (za := (0 : Nat)) Try.underlying22 info5 rfl rfl hx hy (hd.v.take hkc) (by omega) (by omega) (by omega) hsrc.v hN (fun c2 arr hc harr => ?_)
    refine hK w.heap.size c2 (fun i => if i < k then h i else if i < k + m then f' (i - k) else 0) _ hc (SV.new w arr 5 harr).nn (WR.new w arr 5 0 c2) (fun i hi => ?_) (.inr ⟨by omega, Nat.le_refl _, by simp, Touch.alloc _ _ _⟩)
    by_cases h2 : i < k
    · rw [if_pos h2, if_pos h2]
    · rw [if_neg h2, if_neg h2, if_pos hi]

/-- Appended to nothing. -/
theorem RR.apB0 {b' o' m c' : Nat} {f' : Nat → Nat} (hx : ev E x = some (.slice none 0 0)) (hy : ev E y = some (.slice (some ⟨b', o', none⟩) m c')) (hm : 0 < m) (hsrc : SN .u8 w b' o' m f') (hsm : m ≤ 1048576) (hN : Nat.blt d N = true)
    (hK : ∀ (b2 c2 : Nat) (h2 : Nat → Nat) (w2 : World), m ≤ c2 → SN .u8 w2 b2 0 c2 h2 → WR w2 b2 0 c2 → (∀ i, i < m → h2 i = f' i) → w.heap.size ≤ b2 → b2 < w2.heap.size → Touch (fun _ _ => False) w w2 →
      RR false N ops rest ((d, .slice (some ⟨b2, 0, none⟩) m c2) :: E) w2 K) :
    RR false N ops (⟨some d, .call { callee := .builtin .append, args := #[x, y], argTypes := #[22, 22] }, ty, ps, af, none⟩ :: rest) E w K := by
  refine RR.apNil (mk := fun m : Nat => Value.int .u8 (m : Int)) (za := (0 : Nat)) Try.underlying22 info5 rfl rfl hx hy hm (by omega) (by omega) hsrc.v hN (fun c2 arr hc harr => ?_)
  refine hK w.heap.size c2 (fun i => if i < m then f' i else 0) _ hc (SV.new w arr 5 harr).nn (WR.new w arr 5 0 c2) (fun i hi => ?_) (Nat.le_refl _) (by simp) (Touch.alloc _ _ _)
  rw [if_pos hi]

/-- What the room holds behind 'append(append(w[:0], block...), block...)'. -/
def roomAfter (n L : Nat) (f s0 : Nat → Nat) : Nat → Nat := fun i => if 2 * n ≤ L ∧ i < 2 * n then f (i % n) else if n ≤ L ∧ i < n then f i else s0 i

theorem mod_two {n i : Nat} (h1 : n ≤ i) (h2 : i < 2 * n) : i % n = i - n := by
  rw [Nat.mod_eq_sub_mod h1, Nat.mod_eq_of_lt (by omega)]

theorem RR.twice {aw : Option Nat} {L bk n : Nat} {f s0 : Nat → Nat} (hx : ev E x = some (.slice (aw.map fun b => ⟨b, 0, none⟩) 0 L)) (hy : ev E y = some (.slice (some ⟨bk, 0, none⟩) n n)) (hz : ∀ v1, ev ((d1, v1) :: E) z = some (.slice (some ⟨bk, 0, none⟩) n n))
    (hx2 : ∀ v1 v2, ev ((d2, v2) :: (d1, v1) :: E) x2 = some v1) (hy2 : ∀ v1 v2, ev ((d2, v2) :: (d1, v1) :: E) y2 = some v2)
    (hn0 : 0 < n) (hn : n ≤ 65536) (hnil : aw = none → L = 0) (hroom : ∀ b0, aw = some b0 → b0 < w.heap.size ∧ SN .u8 w b0 0 L s0 ∧ WR w b0 0 L ∧ b0 ≠ bk) (hb : SN .u8 w bk 0 n f)
    (hN1 : Nat.blt d1 N = true) (hN2 : Nat.blt d2 N = true) (hN3 : Nat.blt d3 N = true)
    (hK : ∀ (v1 v2 : Value) (b2 c2 : Nat) (w2 : World), 2 * n ≤ c2 → SN .u8 w2 b2 0 (2 * n) (fun i => f (i % n)) → (aw = some b2 ∨ w.heap.size ≤ b2) → (∀ b0, aw = some b0 → SN .u8 w2 b0 0 L (roomAfter n L f s0)) → Touch (fun b o => aw = some b) w w2 →
      RR false N ops rest ((d3, .slice (some ⟨b2, 0, none⟩) (2 * n) c2) :: (d2, v2) :: (d1, v1) :: E) w2 K) :
    RR false N ops (⟨some d1, .call { callee := .builtin .append, args := #[x, y], argTypes := #[22, 22] }, ty, ps, af, none⟩ :: ⟨some d2, .move z, ty', ps', af', none⟩ ::
      ⟨some d3, .call { callee := .builtin .append, args := #[x2, y2], argTypes := #[22, 22] }, ty2, ps2, af2, none⟩ :: rest) E w K := by
  -- behind the first append
  have second : ∀ (b1 c1 : Nat) (h1 : Nat → Nat) (w1 : World), n ≤ c1 → SN .u8 w1 b1 0 c1 h1 → WR w1 b1 0 c1 → (∀ i, i < n → h1 i = f i) → Touch (fun b o => aw = some b) w w1 → b1 < w1.heap.size →
      ((aw = some b1 ∧ c1 = L ∧ n ≤ L ∧ (∀ i, n ≤ i → h1 i = s0 i)) ∨ (w.heap.size ≤ b1 ∧ L < n ∧ ∀ b0, aw = some b0 → SN .u8 w1 b0 0 L s0)) →
      RR false N ops (⟨some d2, .move z, ty', ps', af', none⟩ :: ⟨some d3, .call { callee := .builtin .append, args := #[x2, y2], argTypes := #[22, 22] }, ty2, ps2, af2, none⟩ :: rest) ((d1, .slice (some ⟨b1, 0, none⟩) n c1) :: E) w1 K := by
    intro b1 c1 h1 w1 hc1 hs1 hw1 hh1 hT1 hlt1 hor
    refine RR.pv (pv_mv (hz _)) hN2 ?_
    have hbk : bk < w.heap.size := hb.lt hn0
    have hb1 : SN .u8 w1 bk 0 n f := hb.touch hT1 (fun i hi e => by have := (hroom _ e).2.2.2; exact this rfl)
    refine RR.apB (hx2 _ _) (hy2 _ _) hc1 hs1 hw1 hb1 (by omega) hN3 (fun b2 c2 h2 w2 hc2 hs2 hw2 hh2 hor2 => ?_)
    rw [show n + n = 2 * n from by omega] at hc2 hh2 hor2 ⊢
    have hcont : SN .u8 w2 b2 0 (2 * n) (fun i => f (i % n)) := ((hs2.v.take hc2).congr (fun i hi => by
      rw [hh2 i hi]
      by_cases hin : i < n
      · rw [if_pos hin, hh1 i hin, Nat.mod_eq_of_lt hin]
      · rw [if_neg hin, mod_two (by omega) hi])).nn
    rcases hor with ⟨ha1, hcL, hnL, hrest⟩ | ⟨hge, hLn, hkeep⟩
    · -- in the room
      subst hcL
      rcases hor2 with ⟨rfl, rfl, hrest2, hT2⟩ | ⟨hlt, hge2, hlt2, hT2⟩
      · refine hK _ _ b2 c2 w2 hc2 hcont (.inl ha1) (fun b0 hb0 => ?_) (hT1.trans hT2 (fun _ _ _ h => h) (fun b o _ h => by rw [h]; exact ha1))
        have : b0 = b2 := by rw [ha1] at hb0; injection hb0 with e; exact e.symm
        subst this
        refine (hs2.v.congr (fun i hi => ?_)).nn
        unfold roomAfter
        by_cases hi2 : i < 2 * n
        · rw [if_pos ⟨hc2, hi2⟩, hh2 i hi2]
          by_cases hin : i < n
          · rw [if_pos hin, hh1 i hin, Nat.mod_eq_of_lt hin]
          · rw [if_neg hin, mod_two (by omega) hi2]
        · rw [if_neg (by omega), if_neg (by omega), hrest2 i (by omega), hrest i (by omega)]
      · refine hK _ _ b2 c2 w2 hc2 hcont (.inr (Nat.le_trans hT1.size hge2)) (fun b0 hb0 => ?_) (hT1.trans hT2 (fun _ _ _ h => h) (fun _ _ _ h => h.elim))
        have : b0 = b1 := by rw [ha1] at hb0; injection hb0 with e; exact e.symm
        subst this
        refine ((hs1.touch hT2 (fun _ _ h => h)).v.congr (fun i hi => ?_)).nn
        unfold roomAfter
        rw [if_neg (by omega)]
        by_cases hin : i < n
        · rw [if_pos ⟨hnL, hin⟩, hh1 i hin]
        · rw [if_neg (by omega), hrest i (by omega)]
    · -- the room is too small
      have hroom2 : ∀ b0, aw = some b0 → SN .u8 w2 b0 0 L (roomAfter n L f s0) := fun b0 hb0 => by
        have h3 := hkeep b0 hb0
        have hb0l := (hroom b0 hb0).1
        have h4 : SN .u8 w2 b0 0 L s0 := by
          rcases hor2 with ⟨rfl, rfl, hrest2, hT2⟩ | ⟨hlt, hge2, hlt2, hT2⟩
          · exact h3.touch hT2 (fun _ _ e => by omega)
          · exact h3.touch hT2 (fun _ _ h => h)
        refine (h4.v.congr (fun i hi => ?_)).nn
        unfold roomAfter
        rw [if_neg (by omega), if_neg (by omega)]
      rcases hor2 with ⟨rfl, rfl, hrest2, hT2⟩ | ⟨hlt, hge2, hlt2, hT2⟩
      · exact hK _ _ b2 c2 w2 hc2 hcont (.inr hge) hroom2 (hT1.trans hT2 (fun _ _ _ h => h) (fun b o hb h => by omega))
      · exact hK _ _ b2 c2 w2 hc2 hcont (.inr (Nat.le_trans hT1.size hge2)) hroom2 (hT1.trans hT2 (fun _ _ _ h => h) (fun _ _ _ h => h.elim))
  cases haw : aw with
  | none =>
    have hL := hnil haw
    rw [haw, hL] at hx
    refine RR.apB0 hx hy hn0 hb (by omega) hN1 (fun b1 c1 h1 w1 hc1 hs1 hw1 hh1 hge hlt hT => ?_)
    exact second b1 c1 h1 w1 hc1 hs1 hw1 hh1 (hT.mono (fun _ _ _ h => h.elim)) hlt (.inr ⟨hge, by omega, fun b0 hb0 => by rw [haw] at hb0; cases hb0⟩)
  | some b0 =>
    obtain ⟨r1, r2, r3, r4⟩ := hroom b0 haw
    rw [haw] at hx
    refine RR.apB (b := b0) (k := 0) (c := L) hx hy (Nat.zero_le _) r2 r3 hb (by omega) hN1 (fun b1 c1 h1 w1 hc1 hs1 hw1 hh1 hor => ?_)
    rw [Nat.zero_add] at hc1 hh1 hor ⊢
    have hh1' : ∀ i, i < n → h1 i = f i := fun i hi => by rw [hh1 i hi, if_neg (Nat.not_lt_zero _)]; rfl
    rcases hor with ⟨rfl, rfl, hrest, hT⟩ | ⟨hlt, hge, hlt2, hT⟩
    · exact second b1 c1 h1 w1 hc1 hs1 hw1 hh1' (hT.mono (fun b o _ h => by rw [h]; exact haw)) (Nat.lt_of_lt_of_le r1 hT.size) (.inl ⟨haw, rfl, hc1, hrest⟩)
    · exact second b1 c1 h1 w1 hc1 hs1 hw1 hh1' (hT.mono (fun _ _ _ h => h.elim)) hlt2 (.inr ⟨hge, by omega, fun b hb => by
        rw [haw] at hb
        injection hb with e
        subst e
        exact r2.touch hT (fun _ _ h => h)⟩)

theorem pv_slh22 {dd : Option Nat} {g : Option (Nat × Bool)} {a : Option Nat} {len cap : Nat} (hx : ev E x = some (.slice (a.map fun b => ⟨b, 0, none⟩) len cap)) :
    PV ⟨dd, .slice 22 x none (some (.const (.int .i64 0))) none, ty, ps, af, g⟩ E w (.slice (a.map fun b => ⟨b, 0, none⟩) 0 cap) :=
  ⟨fun ρ _ hρ => by cases a <;> simp [execOp, hρ _ _ hx, hρ (.const (.int .i64 0)) _ rfl, go_sem]⟩
end

theorem nm33 : (Try.f33.name == "runtime.NumGoroutine") = false := by kernel_rfl
theorem nm29 : (Try.f29.name == "runtime.NumGoroutine") = false := by kernel_rfl

theorem per_mod_fn (f : Nat → Nat) (n : Nat) : Rot.Per n (fun i => f (i % n)) := fun x => by
  show f ((x + n) % n) = f (x % n)
  rw [Nat.add_mod_right]

/-- What transform leaves behind. -/
structure TrOut (be : Nat) (aw : Option Nat) (L : Nat) (s0 : Nat → Nat) (ba la : Nat) (sa0 : Nat → Int) (bk n : Nat) (f : Nat → Nat) (w w' : World) (r o : Nat) (A : Nat → Int) (b2 c2 : Nat) : Prop where
  fst : Rot.First n (fun i => f (i % n)) r
  sa : IsSA n (fun i => f ((r + i) % n)) A
  olt : o < n
  org : A o = (((n - r) % n : Nat) : Int)
  rsa : SI .i32 w' ba 0 la (fun i => if i < n then A i else sa0 i)
  rbk : SN .u8 w' bk 0 n (fun k => f ((r + (A k).toNat + (n - 1)) % n))
  enc : w'.cell? ⟨be, 0, none⟩ = some (.slice (some ⟨b2, 0, none⟩) (2 * n) c2)
  two : SN .u8 w' b2 0 (2 * n) (fun i => f (i % n))
  own2 : aw = some b2 ∨ w.heap.size ≤ b2
  room : ∀ b0, aw = some b0 → SN .u8 w' b0 0 L (roomAfter n L f s0)
  tch : Touch (fun b o => b = be ∨ aw = some b ∨ b = ba ∨ b = bk) w w'

set_option maxHeartbeats 1000000 in
theorem transform_any (be : Nat) (aw : Option Nat) (L : Nat) (s0 : Nat → Nat) (ba la : Nat) (sa0 : Nat → Int) (bk n : Nat) (f : Nat → Nat) (w : World) (hn0 : 0 < n) (hn : n ≤ 65536) (hnil : aw = none → L = 0)
    (hroom : ∀ b0, aw = some b0 → b0 < w.heap.size ∧ SN .u8 w b0 0 L s0 ∧ WR w b0 0 L ∧ b0 ≠ be ∧ b0 ≠ ba ∧ b0 ≠ bk)
    (hsa : SI .i32 w ba 0 la sa0) (hwa : WR w ba 0 la) (hla : n ≤ la) (hb : SN .u8 w bk 0 n f) (hwb : WR w bk 0 n) (hf : ∀ i, f i < 256)
    (he0 : w.cell? ⟨be, 0, none⟩ = some (own aw L)) (he1 : w.cell? ⟨be, 0 + 1, none⟩ = some (own (some ba) la)) (hwe : w.frozen? ⟨be, 0, none⟩ = false)
    (d1 : be ≠ ba) (d2 : be ≠ bk) (d3 : ba ≠ bk) :
    FF 29 #[.pointer (some ⟨be, 0, none⟩), own (some bk) n] w (fun v w' => ∃ (r o : Nat) (A : Nat → Int) (b2 c2 : Nat), v = .int .i64 (o : Int) ∧ TrOut be aw L s0 ba la sa0 bk n f w w' r o A b2 c2) := by
  refine FF.of_cc (l := [_, _]) Try.func29 rfl Try.ntmps29 rfl (CC.keep (F := [(0, .pointer (some ⟨be, 0, none⟩)), (1, .slice (some ⟨bk, 0, none⟩) n n)]) ⟨rfl, rfl, trivial⟩ ?_)
  have hbe : be < w.heap.size := lt_of_cell he0
  have hba : ba < w.heap.size := hsa.lt (by omega)
  have hbk : bk < w.heap.size := hb.lt hn0
  refine CC.seq ?_
  refine CC.region ?_
  refine RR.pv (pv_as rfl) rfl ?_
  refine RR.nil ?_
  refine CC.seq ?_
  refine CC.region ?_
  refine RR.pv (pv_mv rfl) rfl ?_
  refine RR.pv (pv_len rfl st22) rfl ?_
  refine RR.pv (pv_as rfl) rfl ?_
  refine RR.nil ?_
  refine CC.seq ?_
  refine CC.region ?_
  refine RR.pv (pv_mv rfl) rfl ?_
  refine RR.pv (pv_nilck rfl) rfl ?_
  refine RR.pv (pv_fa0 rfl) rfl ?_
  refine RR.pv (pv_ld rfl ct22 (he0)) rfl ?_
  refine RR.pv (pv_slh22 rfl) rfl ?_
  refine RR.pv (pv_mv rfl) rfl ?_
  refine RR.twice (aw := aw) (L := L) (f := f) (s0 := s0) rfl rfl (fun _ => rfl) (fun _ _ => rfl) (fun _ _ => rfl) hn0 hn hnil (fun b0 h0 => ⟨(hroom b0 h0).1, (hroom b0 h0).2.1, (hroom b0 h0).2.2.1, (hroom b0 h0).2.2.2.2.2⟩) hb rfl rfl rfl (fun v1 v2 b2 c2 w2 hc2 hs2 hown hroom2 hT2 => ?_)
  refine RR.pv (pv_as rfl) rfl ?_
  refine RR.nil ?_
  have hnw : ∀ b, b = be ∨ b = ba ∨ b = bk → ¬ aw = some b := fun b hbb e => by
    obtain ⟨_, _, _, e1, e2, e3⟩ := hroom b e
    rcases hbb with h | h | h
    · exact e1 h
    · exact e2 h
    · exact e3 h
  have hb2 : b2 ≠ be ∧ b2 ≠ ba ∧ b2 ≠ bk := by
    rcases hown with h | h
    · obtain ⟨_, _, _, e1, e2, e3⟩ := hroom b2 h
      exact ⟨e1, e2, e3⟩
    · exact ⟨by omega, by omega, by omega⟩
  have hsa2 := hsa.touch hT2 (fun _ _ => hnw ba (.inr (.inl rfl)))
  have hwa2 := hwa.touch (fun _ => hba) hT2
  have hbk2 := hb.touch hT2 (fun _ _ => hnw bk (.inr (.inr rfl)))
  have hwb2 := hwb.touch (fun _ => hbk) hT2
  have he02 : w2.cell? ⟨be, 0, none⟩ = some (own aw L) := by rw [hT2.cell be 0 hbe (hnw be (.inl rfl))]; exact he0
  have he12 : w2.cell? ⟨be, 0 + 1, none⟩ = some (own (some ba) la) := by rw [hT2.cell be (0 + 1) hbe (hnw be (.inl rfl))]; exact he1
  have hwe2 : w2.frozen? ⟨be, 0, none⟩ = false := by rw [hT2.frozen be 0 hbe]; exact hwe
  have hbe2 : be < w2.heap.size := lt_of_cell he02
  refine CC.seq ?_
  refine CC.region ?_
  refine RR.pv (pv_mv rfl) rfl ?_
  refine RR.pv (pv_mv rfl) rfl ?_
  refine RR.pv (pv_nilck rfl) rfl ?_
  refine RR.pv (pv_fa0 rfl) rfl ?_
  refine RR.st rfl rfl ct22 OneV.s he02 hwe2 ?_
  refine RR.nil ?_
  have hT3 := Touch.setCell w2 be 0 (.slice (some ⟨b2, 0, none⟩) (2 * n) c2)
  have he03 : (w2.setCell ⟨be, 0, none⟩ (.slice (some ⟨b2, 0, none⟩) (2 * n) c2)).cell? ⟨be, 0, none⟩ = some (.slice (some ⟨b2, 0, none⟩) (2 * n) c2) := World.cell?_setCell_same _ _ _ he02
  generalize w2.setCell ⟨be, 0, none⟩ (.slice (some ⟨b2, 0, none⟩) (2 * n) c2) = w3 at hT3 he03 ⊢
  have he13 : w3.cell? ⟨be, 0 + 1, none⟩ = some (own (some ba) la) := by rw [hT3.cell be (0 + 1) hbe2 (fun h => by omega)]; exact he12
  have hsa3 := hsa2.touch hT3 (fun _ _ h => d1 h.1.symm)
  have hwa3 := hwa2.touch (fun _ => hsa2.lt (by omega)) hT3
  have hbk3 := hbk2.touch hT3 (fun _ _ h => d2 h.1.symm)
  have hwb3 := hwb2.touch (fun _ => hbk2.lt hn0) hT3
  have hs3 := hs2.touch hT3 (fun _ _ h => hb2.1 h.1)
  have hroom3 : ∀ b0, aw = some b0 → SN .u8 w3 b0 0 L (roomAfter n L f s0) := fun b0 h0 => (hroom2 b0 h0).touch hT3 (fun _ _ h => (hroom b0 h0).2.2.2.1 h.1)
  have hTw3 : Touch (fun b o => b = be ∨ aw = some b ∨ b = ba ∨ b = bk) w w3 := hT2.trans hT3 (fun _ _ _ h => .inr (.inl h)) (fun _ _ _ h => .inl h.1)
  clear hT2 hT3 hsa2 hwa2 hbk2 hwb2 hs2 hroom2 he02 he12 hwe2
  refine CC.seq ?_
  refine CC.region ?_
  refine RR.pv (pv_mv rfl) rfl ?_
  refine RR.call Try.func28 nm28 rfl rfl (leastRotation_any b2 0 n c2 (fun i => f (i % n)) w3 (by omega) hn0 (per_mod_fn f n) hs3) rfl (fun v4 w4 hpost => ?_)
  obtain ⟨r, rfl, rfl, hfst⟩ := hpost
  have hrn : r < n := hfst.1
  refine RR.pv (pv_as rfl) rfl ?_
  refine RR.nil ?_
  refine CC.seq ?_
  refine CC.regionQ (by decide +kernel) ?_
  refine RR.pv (pv_mv rfl) rfl ?_
  refine RR.pv (pv_mv rfl) rfl ?_
  refine RR.pv (pv_mv rfl) rfl ?_
  refine RR.pv (pv_mv rfl) rfl ?_
  first | refine RR.pv (pv_addN rfl rfl (by omega)) rfl ?_ | refine RR.pv (pv_add64 rfl rfl (by omega)) rfl ?_
  refine RR.pv (pv_sllh rfl rfl rfl st22 (by omega) (by omega)) rfl ?_
  rw [if_neg (by omega), show r + n - r = n from by omega]
  refine RR.pv (pv_mv rfl) rfl ?_
  refine RR.pv (pv_nilck rfl) rfl ?_
  refine RR.pv (pv_fa1 rfl) rfl ?_
  refine RR.pv (pv_ld rfl ct28 (he13)) rfl ?_
  refine RR.pv (pv_mv rfl) rfl ?_
  refine RR.pv (pv_slh rfl rfl st28 (by omega)) rfl ?_
  refine RR.pv (pv_as rfl) rfl ?_
  refine RR.pv (pv_as rfl) rfl ?_
  refine RR.nil ?_
  have hW : SN .u8 w4 b2 (0 + r) n (fun i => f ((r + i) % n)) := (hs3.v.sub (k := r) (m := n) (by omega)).nn
  refine CC.seq ?_
  refine CC.region ?_
  refine RR.pv (pv_mv rfl) rfl ?_
  refine RR.pv (pv_mv rfl) rfl ?_
  refine RR.call Try.func33 nm33 rfl rfl (sais33_all n (by omega) b2 (0 + r) (c2 - r) ba 0 la 256 (fun i => f ((r + i) % n)) sa0 w4 hn0 (by omega) (fun i _ => hf _) hla hW (hsa3.v.take hla).ii (hwa3.take hla) (fun i j _ _ e => hb2.2.1 e.1)) rfl (fun v5 w5 hpost => ?_)
  obtain ⟨A, hA, hSA, hT5⟩ := hpost
  have hne5 : ∀ b, b ≠ ba → ∀ o, ¬ saT ba 0 n b o := fun b hbb o h => hbb h.1
  have hsa5 : SI .i32 w5 ba 0 la (fun i => if i < n then A i else sa0 i) := fun i hi => by
    dsimp only
    by_cases hin : i < n
    · rw [if_pos hin]; exact hSA i hin
    · rw [if_neg hin, hT5.cell ba (0 + i) (hsa3.lt (by omega)) (fun h => by have := h.2.2; omega)]; exact hsa3 i hi
  have hbk5 := hbk3.touch hT5 (fun _ _ => hne5 bk (fun e => d3 e.symm) _)
  have hwb5 := hwb3.touch (fun _ => hbk3.lt hn0) hT5
  have hs5 := hs3.touch hT5 (fun _ _ => hne5 b2 hb2.2.1 _)
  have hroom5 : ∀ b0, aw = some b0 → SN .u8 w5 b0 0 L (roomAfter n L f s0) := fun b0 h0 => (hroom3 b0 h0).touch hT5 (fun _ _ => hne5 b0 (hroom b0 h0).2.2.2.2.1 _)
  have he05 : w5.cell? ⟨be, 0, none⟩ = some (.slice (some ⟨b2, 0, none⟩) (2 * n) c2) := by rw [hT5.cell be 0 (lt_of_cell he03) (hne5 be d1 0)]; exact he03
  have hTw5 : Touch (fun b o => b = be ∨ aw = some b ∨ b = ba ∨ b = bk) w w5 := hTw3.trans hT5 (fun _ _ _ h => h) (fun _ _ _ h => .inr (.inr (.inl h.1)))
  refine RR.nil ?_
  clear hsa3 hwa3 hbk3 hwb3 hs3 hroom3 he03 he13 hTw3 hT5 hSA hW
  have hst : (n - r) % n < n := Nat.mod_lt _ hn0
  refine CC.seq ?_
  refine CC.region ?_
  refine RR.pv (pv_mv rfl) rfl ?_
  refine RR.pv (pv_mv rfl) rfl ?_
  first | refine RR.pv (pv_subN rfl rfl (by omega)) rfl ?_ | refine RR.pv (pv_sub64 rfl rfl (by omega)) rfl ?_
  refine RR.pv (pv_mv rfl) rfl ?_
  refine RR.pv (pv_remN rfl rfl (by omega) (by omega)) rfl ?_
  first | refine RR.pv (pv_c3_21 rfl (by omega)) rfl ?_ | refine RR.pv (pv_c3_21w rfl) rfl ?_
  refine RR.pv (pv_as rfl) rfl ?_
  refine RR.nil ?_
  refine CC.seq ?_
  refine CC.region ?_
  refine RR.pv (pv_as rfl) rfl ?_
  refine RR.nil ?_
  refine CC.seq ?_
  refine CC.region ?_
  refine RR.pv (pv_mv rfl) rfl ?_
  refine RR.pv (pv_slh (h := 0) rfl rfl st22 (by omega)) rfl ?_
  refine RR.pv (pv_as rfl) rfl ?_
  refine RR.nil ?_
  refine CC.seq ?_
  refine CC.seq ?_
  refine CC.region ?_
  refine RR.pv (pv_mv rfl) rfl ?_
  refine RR.pv (pv_len rfl st28) rfl ?_
  refine RR.pv (pv_mv rfl) rfl ?_
  refine RR.nil ?_
  refine CC.block ?_
  refine CC.loop (γ := Nat × Nat × (Nat → Nat)) (F := fun g => [(5, .int .i64 (n : Int)), (8, .slice (some ⟨b2, 0 + r, none⟩) n (c2 - r)), (10, .int .i32 (((n - r) % n : Nat) : Int)), (11, .int .i64 (g.2.1 : Int)), (12, .slice (some ⟨bk, 0, none⟩) g.1 n), (55, .slice (some ⟨ba, 0, none⟩) n la), (56, .int .i64 (n : Int)), (57, .int .i64 (g.1 : Int))])
    (I := fun g w' => g.1 ≤ n ∧ g.2.1 < n ∧ ((∃ k, k < g.1 ∧ A k = (((n - r) % n : Nat) : Int)) → A g.2.1 = (((n - r) % n : Nat) : Int)) ∧ SN .u8 w' bk 0 n g.2.2 ∧ WR w' bk 0 n ∧ (∀ k, k < g.1 → g.2.2 k = f ((r + (A k).toNat + (n - 1)) % n)) ∧ Touch (fun b o => b = bk) w5 w') (μ := fun g => n - g.1) (0, 0, f)
    ⟨rfl, rfl, rfl, rfl, rfl, rfl, rfl, rfl, trivial⟩
    ⟨Nat.zero_le _, hn0, fun ⟨k, hk, _⟩ => absurd hk (Nat.not_lt_zero _), hbk5, hwb5, fun k hk => absurd hk (Nat.not_lt_zero _), Touch.refl _ _⟩ ?_
  rintro ⟨k, o, h⟩ w6 ⟨hk, ho, hor, hb6, hw6, hall, hT6⟩
  dsimp only at hk ho hor hb6 hall ⊢
  by_cases hlt : k < n
  · obtain ⟨p, hpn, hp⟩ := hA.rng k hlt
    have hsa6 := hsa5.touch hT6 (fun _ _ e => d3 e)
    have hs6 := hs5.touch hT6 (fun _ _ e => hb2.2.2 e)
    have hcell : w6.cell? ⟨ba, 0 + k, none⟩ = some (.int .i32 (p : Int)) := by
      have := hsa6 k (by omega)
      dsimp only at this
      rw [if_pos hlt, hp] at this; exact this
    refine CC.seq ?_
    refine CC.region ?_
    first | refine RR.pv (pv_lss_t rfl rfl (by omega)) rfl ?_ | refine RR.pv (pv_lss_f rfl rfl (by omega)) rfl ?_ | refine RR.pv (pv_lss rfl rfl) rfl ?_
    refine RR.nil ?_
    refine CC.seq ?_
    refine CC.cond_t rfl ?_
    refine CC.skip ?_
    refine CC.seq ?_
    refine CC.block ?_
    refine CC.seq ?_
    refine CC.region ?_
    refine RR.pv (pv_mv rfl) rfl ?_
    first | refine RR.pv (pv_ixN rfl rfl st28 (by omega)) rfl ?_ | refine RR.pv (pv_ixZ rfl rfl st28 (by omega)) rfl ?_
    refine RR.pv (pv_ld rfl ct21 (hcell)) rfl ?_
    refine RR.pv (pv_as rfl) rfl ?_
    refine RR.pv (pv_as rfl) rfl ?_
    refine RR.nil ?_
    refine CC.seqCut (γ := Nat) (fun o' => [(5, .int .i64 (n : Int)), (8, .slice (some ⟨b2, 0 + r, none⟩) n (c2 - r)), (10, .int .i32 (((n - r) % n : Nat) : Int)), (11, .int .i64 (o' : Int)), (12, .slice (some ⟨bk, 0, none⟩) k n), (55, .slice (some ⟨ba, 0, none⟩) n la), (56, .int .i64 (n : Int)), (57, .int .i64 (k : Int)), (14, .int .i32 (p : Int))])
      (fun o' w' => w' = w6 ∧ o' < n ∧ ((∃ k', k' < k + 1 ∧ A k' = (((n - r) % n : Nat) : Int)) → A o' = (((n - r) % n : Nat) : Int))) ?_ ?_
    · by_cases hpe : p = (n - r) % n
      · refine CC.seq ?_
        refine CC.region ?_
        refine RR.pv (pv_mv rfl) rfl ?_
        refine RR.pv (pv_mv rfl) rfl ?_
        first | refine RR.pv (pv_eql_t rfl rfl (by omega)) rfl ?_ | refine RR.pv (pv_eql_f rfl rfl (by omega)) rfl ?_ | refine RR.pv (pv_eql rfl rfl) rfl ?_
        refine RR.nil ?_
        refine CC.cond_t rfl ?_
        refine CC.region ?_
        refine RR.pv (pv_mv rfl) rfl ?_
        refine RR.pv (pv_as rfl) rfl ?_
        refine RR.nil ?_
        exact CutQ.go k ⟨rfl, rfl, rfl, rfl, rfl, rfl, rfl, rfl, rfl, trivial⟩ ⟨rfl, hlt, fun _ => by rw [hp, hpe]⟩
      · refine CC.seq ?_
        refine CC.region ?_
        refine RR.pv (pv_mv rfl) rfl ?_
        refine RR.pv (pv_mv rfl) rfl ?_
        first | refine RR.pv (pv_eql_t rfl rfl (by omega)) rfl ?_ | refine RR.pv (pv_eql_f rfl rfl (by omega)) rfl ?_ | refine RR.pv (pv_eql rfl rfl) rfl ?_
        refine RR.nil ?_
        refine CC.cond_f rfl ?_
        refine CC.skip ?_
        refine CutQ.go o ⟨rfl, rfl, rfl, rfl, rfl, rfl, rfl, rfl, rfl, trivial⟩ ⟨rfl, ho, fun ⟨k', h1, h2⟩ => hor ⟨k', ?_, h2⟩⟩
        rcases Nat.lt_or_ge k' k with h3 | h3
        · exact h3
        · have : k' = k := by omega
          subst this
          rw [hp] at h2
          omega
    rintro o' w7 ⟨rfl, ho', hor'⟩
    refine CC.seqCut (γ := Unit) (fun _ => [(5, .int .i64 (n : Int)), (8, .slice (some ⟨b2, 0 + r, none⟩) n (c2 - r)), (10, .int .i32 (((n - r) % n : Nat) : Int)), (11, .int .i64 (o' : Int)), (12, .slice (some ⟨bk, 0, none⟩) k n), (55, .slice (some ⟨ba, 0, none⟩) n la), (56, .int .i64 (n : Int)), (57, .int .i64 (k : Int)), (14, .int .i32 (((if p = 0 then n else p) : Nat) : Int))])
      (fun _ w' => w' = w7) ?_ ?_
    · by_cases hp0 : p = 0
      · refine CC.seq ?_
        refine CC.region ?_
        refine RR.pv (pv_mv rfl) rfl ?_
        first | refine RR.pv (pv_eql_t rfl rfl (by omega)) rfl ?_ | refine RR.pv (pv_eql_f rfl rfl (by omega)) rfl ?_ | refine RR.pv (pv_eql rfl rfl) rfl ?_
        refine RR.nil ?_
        refine CC.cond_t rfl ?_
        refine CC.region ?_
        refine RR.pv (pv_mv rfl) rfl ?_
        first | refine RR.pv (pv_c3_21 rfl (by omega)) rfl ?_ | refine RR.pv (pv_c3_21w rfl) rfl ?_
        refine RR.pv (pv_as rfl) rfl ?_
        refine RR.nil ?_
        refine CutQ.go () ?_ rfl
        rw [if_pos hp0]
        exact ⟨rfl, rfl, rfl, rfl, rfl, rfl, rfl, rfl, rfl, trivial⟩
      · refine CC.seq ?_
        refine CC.region ?_
        refine RR.pv (pv_mv rfl) rfl ?_
        first | refine RR.pv (pv_eql_t rfl rfl (by omega)) rfl ?_ | refine RR.pv (pv_eql_f rfl rfl (by omega)) rfl ?_ | refine RR.pv (pv_eql rfl rfl) rfl ?_
        refine RR.nil ?_
        refine CC.cond_f rfl ?_
        refine CC.skip ?_
        refine CutQ.go () ?_ rfl
        rw [if_neg hp0]
        exact ⟨rfl, rfl, rfl, rfl, rfl, rfl, rfl, rfl, rfl, trivial⟩
    rintro _ w8 rfl
    have hout : f ((r + ((if p = 0 then n else p) - 1)) % n) = f ((r + (A k).toNat + (n - 1)) % n) := by
      rw [hp]
      by_cases hp0 : p = 0
      · rw [if_pos hp0, hp0]; rfl
      · rw [if_neg hp0, show r + ((p : Int)).toNat + (n - 1) = r + (p - 1) + n from by omega, Nat.add_mod_right]
    have hq1 : 0 < (if p = 0 then n else p) ∧ (if p = 0 then n else p) ≤ n := by split <;> omega
    generalize (if p = 0 then n else p) = q at hout hq1
    have hcell2 : w8.cell? ⟨b2, 0 + r + (q - 1), none⟩ = some (.int .u8 ((f ((r + (A k).toNat + (n - 1)) % n) : Nat) : Int)) := by
      rw [← hout]
      have := hs6 (r + (q - 1)) (by omega)
      rw [Nat.add_assoc]; exact this
    refine CC.region ?_
    refine RR.pv (pv_mv rfl) rfl ?_
    refine RR.pv (pv_mv rfl) rfl ?_
    refine RR.pv (pv_mv rfl) rfl ?_
    refine RR.pv (pv_sub32 rfl rfl (by omega)) rfl ?_
    rw [show (q : Int) - 1 = ((q - 1 : Nat) : Int) from by omega]
    first | refine RR.pv (pv_ixN rfl rfl st22 (by omega)) rfl ?_ | refine RR.pv (pv_ixZ rfl rfl st22 (by omega)) rfl ?_
    refine RR.pv (pv_ld rfl ct5 (hcell2)) rfl ?_
    refine RR.bs22 rfl rfl ?_
    generalize hze : f ((r + (A k).toNat + (n - 1)) % n) = z at hout ⊢
    have hb8 := hb6.alloc (.cells #[.int .u8 (z : Int)] 5)
    have hw8 := hw6.alloc (fun _ => hb6.lt hn0) (.cells #[.int .u8 (z : Int)] 5)
    have hT8 : Touch (fun b o => b = bk) w5 (w8.alloc (.cells #[.int .u8 (z : Int)] 5)) := hT6.trans (Touch.alloc (fun b o => b = bk) _ _) (fun _ _ _ h => h) (fun _ _ _ h => h)
    have hz8 : SN .u8 (w8.alloc (.cells #[.int .u8 (z : Int)] 5)) w8.heap.size 0 1 (fun _ => z) := (SV.new (mk := fun m : Nat => Value.int .u8 (m : Int)) w8 #[.int .u8 (z : Int)] 5 (fun i hi => by rw [show i = 0 from by omega]; rfl)).nn
    refine RR.apB rfl rfl hk hb8 hw8 hz8 (by omega) rfl (fun b9 c9 h9 w9 hc9 hs9 hw9 hh9 hor9 => ?_)
    rcases hor9 with ⟨rfl, rfl, hr9, hT9⟩ | ⟨h9', _⟩
    · refine RR.pv (pv_as rfl) rfl ?_
      refine RR.nil ?_
      refine CC.region ?_
      first | refine RR.pv (pv_addN (n := 1) rfl rfl (by omega)) rfl ?_ | refine RR.pv (pv_add64 rfl rfl (by omega)) rfl ?_
      refine RR.pv (pv_mv rfl) rfl ?_
      refine RR.nil ?_
      refine Nxt.go (k + 1, o', h9) ⟨rfl, rfl, rfl, rfl, rfl, rfl, rfl, rfl, trivial⟩ ⟨hlt, ho', hor', hs9, hw9, fun k' hk' => ?_, hT8.trans hT9 (fun _ _ _ h => h) (fun _ _ _ h => h)⟩ (by dsimp only; omega)
      dsimp only at hk' ⊢
      rw [hh9 k' hk']
      by_cases hkk : k' < k
      · rw [if_pos hkk]; exact hall k' hkk
      · rw [if_neg hkk, show k' = k from by omega]; exact hze.symm
    · omega
  have hkn : k = n := by omega
  subst hkn
  refine CC.seq ?_
  refine CC.region ?_
  first | refine RR.pv (pv_lss_t rfl rfl (by omega)) rfl ?_ | refine RR.pv (pv_lss_f rfl rfl (by omega)) rfl ?_ | refine RR.pv (pv_lss rfl rfl) rfl ?_
  refine RR.nil ?_
  refine CC.seq ?_
  refine CC.cond_f rfl ?_
  refine CC.exit ?_
  refine CC.seq ?_
  refine CC.region ?_
  refine RR.pv (pv_mv rfl) rfl ?_
  refine RR.pv (pv_as rfl) rfl ?_
  refine RR.nil ?_
  refine CC.ret ?_
  refine EndQ.r1 Try.results29 rfl ⟨r, o, A, b2, c2, rfl, hfst, hA, ho, hor ?_, hsa5.touch hT6 (fun _ _ e => d3 e), (hb6.v.congr hall).nn, ?_, hs5.touch hT6 (fun _ _ e => hb2.2.2 e), hown, fun b0 h0 => (hroom5 b0 h0).touch hT6 (fun _ _ e => (hroom b0 h0).2.2.2.2.2 e), hTw5.trans hT6 (fun _ _ _ h => h) (fun _ _ _ h => .inr (.inr (.inr h)))⟩
  · obtain ⟨j, h1, h2⟩ := hA.all _ hst
    exact ⟨j, h1, h2⟩
  · rw [hT6.cell be 0 (lt_of_cell he05) (fun e => d2 e)]; exact he05

/-! ### ZZTransform -/
theorem zzTransform_any (aw : Option Nat) (L : Nat) (s0 : Nat → Nat) (ba la : Nat) (sa0 : Nat → Int) (bk n : Nat) (f : Nat → Nat) (w : World) (hn0 : 0 < n) (hn : n ≤ 65536) (hnil : aw = none → L = 0)
    (hroom : ∀ b0, aw = some b0 → b0 < w.heap.size ∧ SN .u8 w b0 0 L s0 ∧ WR w b0 0 L ∧ b0 ≠ ba ∧ b0 ≠ bk)
    (hsa : SI .i32 w ba 0 la sa0) (hwa : WR w ba 0 la) (hla : n ≤ la) (hb : SN .u8 w bk 0 n f) (hwb : WR w bk 0 n) (hf : ∀ i, f i < 256) (d3 : ba ≠ bk) :
    FF 18 #[own aw L, own (some ba) la, own (some bk) n] w (fun v w' => ∃ (r o : Nat) (A : Nat → Int) (b2 c2 : Nat), v = .tuple #[.int .i64 (o : Int), .slice (some ⟨b2, 0, none⟩) (2 * n) c2] ∧
      ∃ w1, w.heap.size ≤ w1.heap.size ∧ TrOut w.heap.size aw L s0 ba la sa0 bk n f w1 w' r o A b2 c2 ∧ Touch (fun b o => aw = some b ∨ b = ba ∨ b = bk) w w') := by
  refine FF.of_cc (l := [_, _, _]) Try.func18 rfl Try.ntmps18 rfl (CC.keep (F := [(0, _), (1, _), (2, _)]) ⟨rfl, rfl, rfl, trivial⟩ ?_)
  refine CC.seq ?_
  refine CC.region ?_
  refine RR.pv (pv_as rfl) rfl ?_
  refine RR.pv (pv_as rfl) rfl ?_
  refine RR.nil ?_
  refine CC.seq ?_
  refine CC.region ?_
  refine RR.pv (pv_mv rfl) rfl ?_
  refine RR.pv (pv_mv rfl) rfl ?_
  refine RR.pv (pv_build01 rfl rfl) rfl ?_
  refine RR.box50 rfl rfl ?_
  refine RR.pv (pv_as rfl) rfl ?_
  refine RR.nil ?_
  have hba : ba < w.heap.size := hsa.lt (by omega)
  have hbk : bk < w.heap.size := hb.lt hn0
  have hT1 : Touch (fun b o => aw = some b ∨ b = ba ∨ b = bk) w (w.alloc (.cells #[own aw L, own (some ba) la, .slice none 0 0, .int .u64 0, .int .u64 0] 50)) := Touch.alloc _ _ _
  have hsa1 := hsa.alloc (.cells #[own aw L, own (some ba) la, .slice none 0 0, .int .u64 0, .int .u64 0] 50)
  have hwa1 := hwa.alloc (fun _ => hba) (.cells #[own aw L, own (some ba) la, .slice none 0 0, .int .u64 0, .int .u64 0] 50)
  have hb1 := hb.alloc (.cells #[own aw L, own (some ba) la, .slice none 0 0, .int .u64 0, .int .u64 0] 50)
  have hwb1 := hwb.alloc (fun _ => hbk) (.cells #[own aw L, own (some ba) la, .slice none 0 0, .int .u64 0, .int .u64 0] 50)
  refine CC.seq ?_
  refine CC.region ?_
  refine RR.pv (pv_mv rfl) rfl ?_
  refine RR.pv (pv_mv rfl) rfl ?_
  refine RR.call Try.func29 nm29 rfl rfl (transform_any w.heap.size aw L s0 ba la sa0 bk n f _ hn0 hn hnil (fun b0 h0 => ?_) hsa1 hwa1 hla hb1 hwb1 hf ?_ ?_ ?_ (by omega) (by omega) d3) rfl ?_
  · obtain ⟨r1, r2, r3, r4, r5⟩ := hroom b0 h0
    exact ⟨by simp; omega, r2.alloc _, r3.alloc (fun _ => r1) _, by omega, r4, r5⟩
  · rw [World.cell?_alloc_new]; rfl
  · rw [World.cell?_alloc_new]; rfl
  · exact WR.new w _ 50 0 1 0 (by omega)
  · rintro v w2 ⟨r, o, A, b2, c2, rfl, hO⟩
    have hsz : w.heap.size ≤ (w.alloc (.cells #[own aw L, own (some ba) la, .slice none 0 0, .int .u64 0, .int .u64 0] 50)).heap.size := by simp
    refine RR.pv (pv_as rfl) rfl ?_
    refine RR.nil ?_
    refine CC.seq ?_
    refine CC.regionQ (by decide +kernel) ?_
    refine RR.pv (pv_mv rfl) rfl ?_
    refine RR.pv (pv_mv rfl) rfl ?_
    refine RR.pv (pv_nilck rfl) rfl ?_
    refine RR.pv (pv_fa0 rfl) rfl ?_
    refine RR.pv (pv_ld rfl ct22 (hO.enc)) rfl ?_
    refine RR.pv (pv_as rfl) rfl ?_
    refine RR.pv (pv_as rfl) rfl ?_
    refine RR.nil ?_
    refine CC.ret ?_
    refine EndQ.r2 Try.results18 rfl rfl ⟨r, o, A, b2, c2, rfl, _, hsz, hO, hT1.trans hO.tch (fun _ _ _ h => h) (fun b o hb h => ?_)⟩
    rcases h with h | h
    · omega
    · exact h

end Go.Proofs.Qxb6602663a.Vc
