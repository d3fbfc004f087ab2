/-
  Clones of what came in; ZZSymbols; zzc1EmitRun; the length tests of the symbol laws.
-/
import Derived.Test.Qxb6602663aSy
import Derived.Test.Qxb6602663aLr
namespace Go.Proofs.Qxb6602663a.Vc
open Go.RowKit
set_option linter.unusedVariables false
set_option linter.unusedSimpArgs false
set_option maxRecDepth 10000

/-- A slice that came in: nil; or it leads somewhere, and where it has elements to a row. -/
def InN (w : World) (a : Option Addr) (n c : Nat) (f : Nat → Nat) : Prop := (a = none ∧ n = 0 ∧ c = 0) ∨ ∃ x, a = some x ∧ (0 < n → ∃ b o, x = ⟨b, o, none⟩ ∧ SN .u8 w b o n f)
def InI (w : World) (a : Option Addr) (n c : Nat) (f : Nat → Int) : Prop := (a = none ∧ n = 0 ∧ c = 0) ∨ ∃ x, a = some x ∧ (0 < n → ∃ b o, x = ⟨b, o, none⟩ ∧ SI .i32 w b o n f)

theorem InN.touch {w w' : World} {a : Option Addr} {n c : Nat} {f : Nat → Nat} (h : InN w a n c f) (ht : Touch (fun _ _ => False) w w') : InN w' a n c f := by
  rcases h with h | ⟨x, h1, h2⟩
  · exact .inl h
  · exact .inr ⟨x, h1, fun hn => by obtain ⟨b, o, e, hs⟩ := h2 hn; exact ⟨b, o, e, hs.touch ht (fun _ _ h => h)⟩⟩
theorem InI.touch {w w' : World} {a : Option Addr} {n c : Nat} {f : Nat → Int} (h : InI w a n c f) (ht : Touch (fun _ _ => False) w w') : InI w' a n c f := by
  rcases h with h | ⟨x, h1, h2⟩
  · exact .inl h
  · exact .inr ⟨x, h1, fun hn => by obtain ⟨b, o, e, hs⟩ := h2 hn; exact ⟨b, o, e, hs.touch ht (fun _ _ h => h)⟩⟩

/-- The slice over the whole of an own block, or nil. -/
def own (a : Option Nat) (n : Nat) : Value := .slice (a.map fun b => ⟨b, 0, none⟩) n n

section
variable {N : Nat} {ops : Array Oper} {rest : List Oper} {E : Env} {w : World} {K : Env → World → Prop} {d : Nat} {ty t e : TypeId} {ps : String} {af : Array Edge} {x y z : Operand}
theorem RR.copy0 {a a' : Option Addr} {cap cap' : Nat} (hu : Try.prog.underlying t = some (.slice e)) (hs : (Try.prog.info? e).map (·.size) = some 1)
    (hx : ev E x = some (.slice a 0 cap)) (hy : ev E y = some (.slice a' 0 cap')) (hN : Nat.blt d N = true)
    (hk : RR false N ops rest ((d, .int .i64 ((0 : Nat) : Int)) :: E) w K) :
    RR false N ops (⟨some d, .call { callee := .builtin .copy, args := #[x, y], argTypes := #[t, t] }, ty, ps, af, none⟩ :: rest) E w K :=
  RR.act hN fun ρ q hρ => ⟨.int .i64 ((0 : Nat) : Int), w, q, by
    have h := run_copy_none (P := Try.prog) (w.drewN q) t t ty e a a' 0 cap 0 cap' hu hs rfl
    simp [execOp, hρ _ _ hx, hρ _ _ hy, go_sem, h], hk⟩
end

theorem cloneBytes_zero (x : Addr) (cap : Nat) (w : World) :
    FF 12 #[.slice (some x) 0 cap] w (fun v w' => ∃ g, v = .slice (some ⟨g, 0, none⟩) 0 0 ∧ w.heap.size ≤ g ∧ g < w'.heap.size ∧ Touch (fun _ _ => False) w w') := by
  refine FF.of_cc (l := [_]) Try.func12 rfl Try.ntmps12 rfl (CC.keep (F := [(0, _)]) ⟨rfl, trivial⟩ ?_)
  refine CC.seq ?_
  refine CC.region ?_
  refine RR.pv (pv_as rfl) rfl ?_
  refine RR.nil ?_
  refine CC.seq ?_
  refine CC.seq ?_
  refine CC.region ?_
  refine RR.pv (pv_mv rfl) rfl ?_
  refine RR.pv (pv_eqnil rfl st22) rfl ?_
  refine RR.nil ?_
  refine CC.cond_f rfl ?_
  refine CC.skip ?_
  refine CC.seq ?_
  refine CC.region ?_
  refine RR.pv (pv_mv rfl) rfl ?_
  refine RR.pv (pv_len rfl st22) rfl ?_
  refine RR.mk22 rfl (by omega) rfl ?_
  refine RR.pv (pv_as rfl) rfl ?_
  refine RR.nil ?_
  refine CC.seq ?_
  refine CC.region ?_
  refine RR.pv (pv_mv rfl) rfl ?_
  refine RR.pv (pv_mv rfl) rfl ?_
  refine RR.copy0 Try.underlying22 size5 rfl rfl rfl ?_
  refine RR.nil ?_
  refine CC.seq ?_
  refine CC.region ?_
  refine RR.pv (pv_mv rfl) rfl ?_
  refine RR.pv (pv_as rfl) rfl ?_
  refine RR.nil ?_
  refine CC.ret ?_
  exact EndQ.r1 Try.results12 rfl ⟨w.heap.size, rfl, Nat.le_refl _, by simp, Touch.alloc _ _ _⟩

theorem cloneBytes_gen (a : Option Addr) (n c : Nat) (f : Nat → Nat) (w : World) (hn : n ≤ 1048576) (h : InN w a n c f) :
    FF 12 #[.slice a n c] w (fun v w' => ∃ a', v = own a' n ∧ (a' = none → n = 0) ∧ (∀ b, a' = some b → w.heap.size ≤ b ∧ b < w'.heap.size ∧ SN .u8 w' b 0 n f ∧ WR w' b 0 n) ∧ Touch (fun _ _ => False) w w') := by
  rcases h with ⟨rfl, rfl, rfl⟩ | ⟨x, rfl, hx⟩
  · refine (cloneBytes_nil w).mono ?_
    rintro v w' ⟨rfl, rfl⟩
    exact ⟨none, rfl, fun _ => rfl, (fun b hb => by cases hb), Touch.refl _ _⟩
  · rcases Nat.eq_zero_or_pos n with e | e
    · subst e
      refine (cloneBytes_zero x c w).mono ?_
      rintro v w' ⟨g, rfl, h1, h2, h3⟩
      refine ⟨some g, rfl, (fun h => by cases h), fun b hb => ?_, h3⟩
      injection hb with hb
      subst hb
      exact ⟨h1, h2, fun i hi => absurd hi (Nat.not_lt_zero _), fun i hi => absurd hi (Nat.not_lt_zero _)⟩
    · obtain ⟨b, o, rfl, hs⟩ := hx e
      refine (cloneBytes_any b o n c f w hn hs).mono ?_
      rintro v w' ⟨g, rfl, h1, h2, h3, h4, h5⟩
      refine ⟨some g, rfl, (fun h => by cases h), fun b hb => ?_, h5⟩
      injection hb with hb
      subst hb
      exact ⟨h1, h2, h3, h4⟩

/-! ### zzc1CloneInt32s -/
theorem cloneInts_nil (w : World) : FF 17 #[.slice none 0 0] w (fun v w' => v = .slice none 0 0 ∧ w' = w) := by
  refine FF.of_cc (l := [_]) Try.func17 rfl Try.ntmps17 rfl (CC.keep (F := [(0, _)]) ⟨rfl, trivial⟩ ?_)
  refine CC.seq ?_
  refine CC.region ?_
  refine RR.pv (pv_as rfl) rfl ?_
  refine RR.nil ?_
  refine CC.seq ?_
  refine CC.seq ?_
  refine CC.region ?_
  refine RR.pv (pv_mv rfl) rfl ?_
  refine RR.pv (pv_eqnil rfl st28) rfl ?_
  refine RR.nil ?_
  refine CC.cond_t rfl ?_
  refine CC.seq ?_
  refine CC.region ?_
  refine RR.pv (pv_as rfl) rfl ?_
  refine RR.nil ?_
  refine CC.ret ?_
  exact EndQ.r1 Try.results17 rfl ⟨rfl, rfl⟩

theorem cloneInts_zero (x : Addr) (cap : Nat) (w : World) :
    FF 17 #[.slice (some x) 0 cap] w (fun v w' => ∃ g, v = .slice (some ⟨g, 0, none⟩) 0 0 ∧ w.heap.size ≤ g ∧ g < w'.heap.size ∧ Touch (fun _ _ => False) w w') := by
  refine FF.of_cc (l := [_]) Try.func17 rfl Try.ntmps17 rfl (CC.keep (F := [(0, _)]) ⟨rfl, trivial⟩ ?_)
  refine CC.seq ?_
  refine CC.region ?_
  refine RR.pv (pv_as rfl) rfl ?_
  refine RR.nil ?_
  refine CC.seq ?_
  refine CC.seq ?_
  refine CC.region ?_
  refine RR.pv (pv_mv rfl) rfl ?_
  refine RR.pv (pv_eqnil rfl st28) rfl ?_
  refine RR.nil ?_
  refine CC.cond_f rfl ?_
  refine CC.skip ?_
  refine CC.seq ?_
  refine CC.region ?_
  refine RR.pv (pv_mv rfl) rfl ?_
  refine RR.pv (pv_len rfl st28) rfl ?_
  refine RR.mk28 rfl (by omega) rfl ?_
  refine RR.pv (pv_as rfl) rfl ?_
  refine RR.nil ?_
  refine CC.seq ?_
  refine CC.region ?_
  refine RR.pv (pv_mv rfl) rfl ?_
  refine RR.pv (pv_mv rfl) rfl ?_
  refine RR.copy0 Try.underlying28 size21 rfl rfl rfl ?_
  refine RR.nil ?_
  refine CC.seq ?_
  refine CC.region ?_
  refine RR.pv (pv_mv rfl) rfl ?_
  refine RR.pv (pv_as rfl) rfl ?_
  refine RR.nil ?_
  refine CC.ret ?_
  exact EndQ.r1 Try.results17 rfl ⟨w.heap.size, rfl, Nat.le_refl _, by simp, Touch.alloc _ _ _⟩

theorem cloneInts_any (b off n cap : Nat) (f : Nat → Int) (w : World) (hn : n ≤ 1048576) (ht : SI .i32 w b off n f) :
    FF 17 #[.slice (some ⟨b, off, none⟩) n cap] w (fun v w' => ∃ g, v = .slice (some ⟨g, 0, none⟩) n n ∧ w.heap.size ≤ g ∧ g < w'.heap.size ∧ SI .i32 w' g 0 n f ∧ WR w' g 0 n ∧ Touch (fun _ _ => False) w w') := by
  refine FF.of_cc (l := [_]) Try.func17 rfl Try.ntmps17 rfl (CC.keep (F := [(0, _)]) ⟨rfl, trivial⟩ ?_)
  refine CC.seq ?_
  refine CC.region ?_
  refine RR.pv (pv_as rfl) rfl ?_
  refine RR.nil ?_
  refine CC.seq ?_
  refine CC.seq ?_
  refine CC.region ?_
  refine RR.pv (pv_mv rfl) rfl ?_
  refine RR.pv (pv_eqnil rfl st28) rfl ?_
  refine RR.nil ?_
  refine CC.cond_f rfl ?_
  refine CC.skip ?_
  refine CC.seq ?_
  refine CC.region ?_
  refine RR.pv (pv_mv rfl) rfl ?_
  refine RR.pv (pv_len rfl st28) rfl ?_
  refine RR.mk28 rfl (by omega) rfl ?_
  refine RR.pv (pv_as rfl) rfl ?_
  refine RR.nil ?_
  refine CC.seq ?_
  refine CC.region ?_
  refine RR.pv (pv_mv rfl) rfl ?_
  refine RR.pv (pv_mv rfl) rfl ?_
  refine RR.copy (mk := Value.int .i32) Try.underlying28 size21 one_i32 rfl rfl (SI.new0 .i32 w 21 n) (WR.new w _ 21 0 n) (ht.alloc _) rfl ?_
  refine RR.nil ?_
  refine CC.seq ?_
  refine CC.region ?_
  refine RR.pv (pv_mv rfl) rfl ?_
  refine RR.pv (pv_as rfl) rfl ?_
  refine RR.nil ?_
  refine CC.ret ?_
  refine EndQ.r1 Try.results17 rfl ⟨w.heap.size, rfl, Nat.le_refl _, by rw [size_setCells']; simp, ?_, (WR.new w _ 21 0 n).setCells, ?_⟩
  · have h := (SI.new0 .i32 w 21 n).v.setCells (p := 0) (m := min n n) (f' := f) (by omega)
    exact h.congr (fun i hi => by rw [if_pos ⟨Nat.zero_le _, by omega⟩]; rfl)
  · exact (Touch.alloc (fun _ _ => False) w _).trans (Touch.setCells _ _ _ _) (fun _ _ _ h => h) (fun b' o' hb h => by have := h.1; omega)

theorem cloneInts_gen (a : Option Addr) (n c : Nat) (f : Nat → Int) (w : World) (hn : n ≤ 1048576) (h : InI w a n c f) :
    FF 17 #[.slice a n c] w (fun v w' => ∃ a', v = own a' n ∧ (a' = none → n = 0) ∧ (∀ b, a' = some b → w.heap.size ≤ b ∧ b < w'.heap.size ∧ SI .i32 w' b 0 n f ∧ WR w' b 0 n) ∧ Touch (fun _ _ => False) w w') := by
  rcases h with ⟨rfl, rfl, rfl⟩ | ⟨x, rfl, hx⟩
  · refine (cloneInts_nil w).mono ?_
    rintro v w' ⟨rfl, rfl⟩
    exact ⟨none, rfl, fun _ => rfl, (fun b hb => by cases hb), Touch.refl _ _⟩
  · rcases Nat.eq_zero_or_pos n with e | e
    · subst e
      refine (cloneInts_zero x c w).mono ?_
      rintro v w' ⟨g, rfl, h1, h2, h3⟩
      refine ⟨some g, rfl, (fun h => by cases h), fun b hb => ?_, h3⟩
      injection hb with hb
      subst hb
      exact ⟨h1, h2, fun i hi => absurd hi (Nat.not_lt_zero _), fun i hi => absurd hi (Nat.not_lt_zero _)⟩
    · obtain ⟨b, o, rfl, hs⟩ := hx e
      refine (cloneInts_any b o n c f w hn hs).mono ?_
      rintro v w' ⟨g, rfl, h1, h2, h3, h4, h5⟩
      refine ⟨some g, rfl, (fun h => by cases h), fun b hb => ?_, h5⟩
      injection hb with hb
      subst hb
      exact ⟨h1, h2, h3, h4⟩

/-! ### ZZSymbols -/
theorem zzSymbols_any (a0 : Option Nat) (L : Nat) (s0 : Nat → Int) (ba : Option Addr) (n nc bn on : Nat) (f num : Nat → Nat) (nU : Int) (w : World) (hn : n ≤ 65536) (hnil : a0 = none → L = 0)
    (hroom : ∀ b0, a0 = some b0 → b0 < w.heap.size ∧ SI .i32 w b0 0 L s0 ∧ WR w b0 0 L)
    (hread : 0 < n → ∃ bb ob, ba = some ⟨bb, ob, none⟩ ∧ SN .u8 w bb ob n f ∧ a0 ≠ some bb) (hf : ∀ i, f i < 256) (hnum : SN .u8 w bn on 256 num) (hnum' : ∀ i, num i < 256) (hbn : a0 ≠ some bn) :
    FF 23 #[own a0 L, .slice ba n nc, .pointer (some ⟨bn, on, none⟩), .int .i64 nU] w
      (fun v' w' => Buf a0 L s0 w.heap.size w' v' (Sym.syms (fun t => num (f t)) n (lastSym nU)) ∧ Touch (bufS a0 w.heap.size) w w') := by
  refine FF.of_cc (l := [_, _, _, _]) Try.func23 rfl Try.ntmps23 rfl (CC.keep (F := [(0, _), (1, _), (2, _), (3, _)]) ⟨rfl, rfl, rfl, rfl, trivial⟩ ?_)
  refine CC.seq ?_
  refine CC.region ?_
  refine RR.pv (pv_as rfl) rfl ?_
  refine RR.nil ?_
  refine CC.seq ?_
  refine CC.region ?_
  refine RR.pv (pv_mv rfl) rfl ?_
  refine RR.pv (pv_build1 rfl) rfl ?_
  refine RR.box50 rfl rfl ?_
  refine RR.pv (pv_as rfl) rfl ?_
  refine RR.nil ?_
  refine CC.seq ?_
  refine CC.region ?_
  refine RR.pv (pv_mv rfl) rfl ?_
  refine RR.pv (pv_mv rfl) rfl ?_
  refine RR.pv (pv_mv rfl) rfl ?_
  refine RR.pv (pv_mv rfl) rfl ?_
  refine RR.call Try.func31 nm31 rfl rfl (symbols_any w.heap.size a0 L s0 ba n nc bn on f num nU _ hn hnil (fun b0 hb => ?_) ?_ ?_ (fun h => ?_) hf (hnum.alloc _) hnum' hbn) rfl ?_
  · obtain ⟨h1, h2, h3⟩ := hroom b0 hb
    exact ⟨by simp; omega, h2.alloc _, h3.alloc (fun _ => h1) _⟩
  · rw [World.cell?_alloc_new]; rfl
  · intro hb; have := (hroom _ hb).1; omega
  · obtain ⟨bb, ob, h1, h2, h3⟩ := hread h
    exact ⟨bb, ob, h1, h2.alloc _, h3⟩
  · rintro v w' ⟨hB, hT⟩
    refine RR.pv (pv_as rfl) rfl ?_
    refine RR.nil ?_
    refine CC.ret ?_
    have hsz : w.heap.size ≤ (w.alloc (.cells #[.slice none 0 0, own a0 L, .slice none 0 0, .int .u64 0, .int .u64 0] 50)).heap.size := by simp
    refine EndQ.r1 Try.results23 rfl ⟨hB.base_le hsz (fun b0 hb => (hroom b0 hb).1), (Touch.alloc _ _ _).trans hT (fun _ _ _ h => h) (fun b o hb h => ?_)⟩
    rcases h with h | h
    · exact .inl h
    · exact .inr (Nat.le_trans hsz h)

/-! ### zzc1EmitRun -/
theorem emitRun_true (ba : Option Addr) (n nc bn on p r : Nat) (x : Nat) (f num : Nat → Nat) (w : World) (hn : n ≤ 65536) (hread : 0 < n → ∃ bb ob, ba = some ⟨bb, ob, none⟩ ∧ SN .u8 w bb ob n f) (hf : ∀ i, f i < 256)
    (hnum : SN .u8 w bn on 256 num) (hnum' : ∀ i, num i < 256) (hpr : p + r ≤ n) (hall : ∀ i, i < r → num (f (p + i)) = x) :
    FF 26 #[.slice ba n nc, .pointer (some ⟨bn, on, none⟩), .int .i64 (x : Int), .int .i64 (p : Int), .int .i64 (r : Int)] w (fun v w' => v = .bool true ∧ w' = w) := by
  refine FF.of_cc (l := [_, _, _, _, _]) Try.func26 rfl Try.ntmps26 rfl (CC.keep (F := [(0, _), (1, _), (2, _), (3, _), (4, _)]) ⟨rfl, rfl, rfl, rfl, rfl, trivial⟩ ?_)
  refine CC.seq ?_
  refine CC.region ?_
  refine RR.pv (pv_as rfl) rfl ?_
  refine RR.nil ?_
  refine CC.seq ?_
  refine CC.seq ?_
  refine CC.region ?_
  refine RR.pv (pv_mv rfl) rfl ?_
  refine RR.pv (pv_mv rfl) rfl ?_
  first | refine RR.pv (pv_addN rfl rfl (by omega)) rfl ?_ | refine RR.pv (pv_add64 rfl rfl (by omega)) rfl ?_
  refine RR.pv (pv_mv rfl) rfl ?_
  refine RR.pv (pv_len rfl st22) rfl ?_
  first | refine RR.pv (pv_gtr_t rfl rfl (by omega)) rfl ?_ | refine RR.pv (pv_gtr_f rfl rfl (by omega)) rfl ?_ | refine RR.pv (pv_gtr rfl rfl) rfl ?_
  refine RR.nil ?_
  refine CC.cond_f rfl ?_
  refine CC.skip ?_
  refine CC.seq ?_
  refine CC.seq ?_
  refine CC.region ?_
  refine RR.pv (pv_mv rfl) rfl ?_
  refine RR.pv (pv_as rfl) rfl ?_
  refine RR.nil ?_
  refine CC.block ?_
  refine CC.loop (γ := Nat) (F := fun i => [(0, .slice ba n nc), (1, .pointer (some ⟨bn, on, none⟩)), (2, .int .i64 (x : Int)), (3, .int .i64 (p : Int)), (4, .int .i64 (r : Int)), (11, .int .i64 (i : Int))])
    (I := fun i w' => w' = w ∧ p ≤ i ∧ i ≤ p + r) (μ := fun i => p + r - i) p ⟨rfl, rfl, rfl, rfl, rfl, rfl, trivial⟩ ⟨rfl, Nat.le_refl _, Nat.le_add_right _ _⟩ ?_
  rintro i w' ⟨rfl, h1, h2⟩
  by_cases hlt : i < p + r
  · obtain ⟨bb, ob, rfl, hs⟩ := hread (by omega)
    have hfi := hf i
    have hni := hnum' (f i)
    have hx := hall (i - p) (by omega)
    rw [show p + (i - p) = i from by omega] at hx
    refine CC.seq ?_
    refine CC.seq ?_
    refine CC.region ?_
    refine RR.pv (pv_mv rfl) rfl ?_
    refine RR.pv (pv_mv rfl) rfl ?_
    refine RR.pv (pv_mv rfl) rfl ?_
    first | refine RR.pv (pv_addN rfl rfl (by omega)) rfl ?_ | refine RR.pv (pv_add64 rfl rfl (by omega)) rfl ?_
    first | refine RR.pv (pv_lss_t rfl rfl (by omega)) rfl ?_ | refine RR.pv (pv_lss_f rfl rfl (by omega)) rfl ?_ | refine RR.pv (pv_lss rfl rfl) rfl ?_
    refine RR.nil ?_
    refine CC.cond_t rfl ?_
    refine CC.skip ?_
    refine CC.seq ?_
    refine CC.block ?_
    refine CC.seq ?_
    refine CC.regionQ (by decide +kernel) ?_
    refine RR.pv (pv_mv rfl) rfl ?_
    refine RR.pv (pv_mv rfl) rfl ?_
    refine RR.pv (pv_mv rfl) rfl ?_
    first | refine RR.pv (pv_ixN rfl rfl st22 (by omega)) rfl ?_ | refine RR.pv (pv_ixZ rfl rfl st22 (by omega)) rfl ?_
    refine RR.pv (pv_ld rfl ct5 (hs _ (by omega))) rfl ?_
    refine RR.pv (pv_nilck rfl) rfl ?_
    first | refine RR.pv (pv_iaN rfl rfl at40 (by omega)) rfl ?_ | refine RR.pv (pv_iaZ rfl rfl at40 (by omega)) rfl ?_
    refine RR.pv (pv_ld rfl ct5 (hnum _ (by omega))) rfl ?_
    refine RR.pv (pv_c5_3 rfl (by omega)) rfl ?_
    refine RR.pv (pv_mv rfl) rfl ?_
    first | refine RR.pv (pv_neq_t rfl rfl (by omega)) rfl ?_ | refine RR.pv (pv_neq_f rfl rfl (by omega)) rfl ?_ | refine RR.pv (pv_neq rfl rfl) rfl ?_
    refine RR.nil ?_
    refine CC.cond_f rfl ?_
    refine CC.skip ?_
    refine CC.region ?_
    refine RR.pv (pv_mv rfl) rfl ?_
    first | refine RR.pv (pv_addN (n := 1) rfl rfl (by omega)) rfl ?_ | refine RR.pv (pv_add64 rfl rfl (by omega)) rfl ?_
    refine RR.pv (pv_as rfl) rfl ?_
    refine RR.nil ?_
    exact Nxt.go (i + 1) ⟨rfl, rfl, rfl, rfl, rfl, rfl, trivial⟩ ⟨rfl, by omega, by omega⟩ (by omega)
  · refine CC.seq ?_
    refine CC.seq ?_
    refine CC.region ?_
    refine RR.pv (pv_mv rfl) rfl ?_
    refine RR.pv (pv_mv rfl) rfl ?_
    refine RR.pv (pv_mv rfl) rfl ?_
    first | refine RR.pv (pv_addN rfl rfl (by omega)) rfl ?_ | refine RR.pv (pv_add64 rfl rfl (by omega)) rfl ?_
    first | refine RR.pv (pv_lss_t rfl rfl (by omega)) rfl ?_ | refine RR.pv (pv_lss_f rfl rfl (by omega)) rfl ?_ | refine RR.pv (pv_lss rfl rfl) rfl ?_
    refine RR.nil ?_
    refine CC.cond_f rfl ?_
    refine CC.exit ?_
    refine CC.seq ?_
    refine CC.region ?_
    refine RR.pv (pv_as rfl) rfl ?_
    refine RR.nil ?_
    refine CC.ret ?_
    exact EndQ.r1 Try.results26 rfl ⟨rfl, rfl⟩

end Go.Proofs.Qxb6602663a.Vc
