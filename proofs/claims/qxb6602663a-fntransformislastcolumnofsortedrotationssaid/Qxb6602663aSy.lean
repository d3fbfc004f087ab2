/-
  The walks of appendZeros, zzc1RunDigits, symbols, ZZSymbols.
-/
import Derived.Test.Qxb6602663aMem3
import Derived.Test.Qxb6602663aRec
namespace Go.Proofs.Qxb6602663a.Vc
open Go.RowKit
set_option linter.unusedVariables false
set_option linter.unusedSimpArgs false
set_option maxRecDepth 10000

section
variable {N : Nat} {ops : Array Oper} {rest : List Oper} {E : Env} {w : World} {K : Env → World → Prop} {d d1 : Nat} {ty ty' t e : TypeId} {ps ps' : String} {af af' : Array Edge} {x y z : Operand}

/-- 'syms = append(syms, n)': the operand's slice and the append. -/
theorem RR.push {a0 : Option Nat} {L : Nat} {s0 : Nat → Int} {base : Nat} {v : Value} {xs : List Int} {n : Int} (hB : Buf a0 L s0 base w v xs) (hx : ev E x = some (.int .i32 n)) (hN1 : Nat.blt d1 N = true)
    (hy : ev ((d1, .slice (some ⟨w.heap.size, 0, none⟩) 1 1) :: E) y = some v) (hlen : xs.length + 1 ≤ 1048576) (hN : Nat.blt d N = true)
    (hK : ∀ v' w', Buf a0 L s0 base w' v' (xs ++ [n]) → Touch (bufS a0 base) w w' → RR false N ops rest ((d, v') :: (d1, .slice (some ⟨w.heap.size, 0, none⟩) 1 1) :: E) w' K) :
    RR false N ops (⟨some d1, .buildSlice 28 1 #[(0, x)], ty', ps', af', none⟩ :: ⟨some d, .call { callee := .builtin .append, args := #[y, .tmp d1], argTypes := #[28, 28] }, ty, ps, af, none⟩ :: rest) E w K := by
  refine RR.bs28 hx hN1 ?_
  refine RR.apBuf (n := n) (k := w.heap.size) (hB.alloc _) hy ?_ ?_ hlen hN (fun v' w' h1 h2 => hK v' w' h1 ((Touch.alloc _ _ _).trans h2 (fun _ _ _ h => h) (fun _ _ _ h => h)))
  · show look ((d1, _) :: E) d1 = _
    simp [look]
  · rw [World.cell?_alloc_new]; rfl
end

/-! ### appendZeros -/
theorem appendZeros_any (a0 : Option Nat) (L : Nat) (s0 : Nat → Int) (base : Nat) (v : Value) (xs : List Int) (z : Nat) (w : World) (hB : Buf a0 L s0 base w v xs) (hlen : xs.length + z ≤ 1048576) :
    FF 34 #[v, .int .i64 (z : Int)] w (fun v' w' => Buf a0 L s0 base w' v' (xs ++ Sym.zdig z) ∧ Touch (bufS a0 base) w w') := by
  refine FF.of_cc (l := [_, _]) Try.func34 rfl Try.ntmps34 rfl (CC.keep (F := [(0, _), (1, _)]) ⟨rfl, rfl, trivial⟩ ?_)
  refine CC.seq ?_
  refine CC.region ?_
  refine RR.pv (pv_as rfl) rfl ?_
  refine RR.nil ?_
  refine CC.seq ?_
  refine CC.block ?_
  refine CC.loop (γ := Value × Nat × List Int) (F := fun g => [(0, g.1), (1, .int .i64 (g.2.1 : Int))])
    (I := fun g w' => Buf a0 L s0 base w' g.1 g.2.2 ∧ Touch (bufS a0 base) w w' ∧ g.2.2 ++ Sym.zdig g.2.1 = xs ++ Sym.zdig z ∧ g.2.2.length + g.2.1 ≤ 1048576) (μ := fun g => g.2.1) (v, z, xs) ⟨rfl, rfl, trivial⟩ ⟨hB, Touch.refl _ _, rfl, hlen⟩ ?_
  rintro ⟨v1, z1, xs1⟩ w1 ⟨hB1, hT1, he1, hl1⟩
  dsimp only at hB1 he1 hl1 ⊢
  by_cases hz : 0 < z1
  · refine CC.seq ?_
    refine CC.seq ?_
    refine CC.region ?_
    refine RR.pv (pv_mv rfl) rfl ?_
    first | refine RR.pv (pv_gtr_t rfl rfl (by omega)) rfl ?_ | refine RR.pv (pv_gtr_f rfl rfl (by omega)) rfl ?_ | refine RR.pv (pv_gtr rfl rfl) rfl ?_
    refine RR.nil ?_
    refine CC.cond_t rfl ?_
    rw [Sym.zdig_pos hz] at he1
    by_cases hodd : z1 % 2 = 1
    · refine CC.skip ?_
      refine CC.block ?_
      refine CC.seq ?_
      refine CC.region ?_
      refine RR.pv (pv_mv rfl) rfl ?_
      refine RR.pv (pv_and1 rfl (by omega)) rfl ?_
      first | refine RR.pv (pv_eql_t rfl rfl (by omega)) rfl ?_ | refine RR.pv (pv_eql_f rfl rfl (by omega)) rfl ?_ | refine RR.pv (pv_eql rfl rfl) rfl ?_
      refine RR.nil ?_
      refine CC.cond_t rfl ?_
      refine CC.seq ?_
      refine CC.region ?_
      refine RR.pv (pv_mv rfl) rfl ?_
      refine RR.push (n := 0) hB1 rfl rfl rfl (by omega) rfl (fun v2 w2 hB2 hT2 => ?_)
      refine RR.pv (pv_as rfl) rfl ?_
      refine RR.nil ?_
      refine CC.region ?_
      refine RR.pv (pv_mv rfl) rfl ?_
      first | refine RR.pv (pv_subN (n := 1) rfl rfl (by omega)) rfl ?_ | refine RR.pv (pv_sub64 rfl rfl (by omega)) rfl ?_
      refine RR.pv (pv_quoN (n := 2) rfl rfl (by omega) (by omega)) rfl ?_
      refine RR.pv (pv_as rfl) rfl ?_
      refine RR.nil ?_
      rw [if_pos hodd] at he1
      exact Nxt.go (v2, (z1 - 1) / 2, xs1 ++ [0]) ⟨rfl, rfl, trivial⟩ ⟨hB2, hT1.trans hT2 (fun _ _ _ h => h) (fun _ _ _ h => h), by dsimp only; rw [← he1, List.append_assoc]; rfl, by dsimp only; simp; omega⟩ (by dsimp only; omega)
    · refine CC.skip ?_
      refine CC.block ?_
      refine CC.seq ?_
      refine CC.region ?_
      refine RR.pv (pv_mv rfl) rfl ?_
      refine RR.pv (pv_and1 rfl (by omega)) rfl ?_
      first | refine RR.pv (pv_eql_t rfl rfl (by omega)) rfl ?_ | refine RR.pv (pv_eql_f rfl rfl (by omega)) rfl ?_ | refine RR.pv (pv_eql rfl rfl) rfl ?_
      refine RR.nil ?_
      refine CC.cond_f rfl ?_
      refine CC.seq ?_
      refine CC.region ?_
      refine RR.pv (pv_mv rfl) rfl ?_
      refine RR.push (n := 1) hB1 rfl rfl rfl (by omega) rfl (fun v2 w2 hB2 hT2 => ?_)
      refine RR.pv (pv_as rfl) rfl ?_
      refine RR.nil ?_
      refine CC.region ?_
      refine RR.pv (pv_mv rfl) rfl ?_
      first | refine RR.pv (pv_subN (n := 2) rfl rfl (by omega)) rfl ?_ | refine RR.pv (pv_sub64 rfl rfl (by omega)) rfl ?_
      refine RR.pv (pv_quoN (n := 2) rfl rfl (by omega) (by omega)) rfl ?_
      refine RR.pv (pv_as rfl) rfl ?_
      refine RR.nil ?_
      rw [if_neg hodd] at he1
      refine Nxt.go (v2, (z1 - 2) / 2, xs1 ++ [1]) ⟨rfl, rfl, trivial⟩ ⟨hB2, hT1.trans hT2 (fun _ _ _ h => h) (fun _ _ _ h => h), ?_, by dsimp only; simp; omega⟩ (by dsimp only; omega)
      dsimp only
      rw [← he1, List.append_assoc, show (z1 - 2) / 2 = (z1 - 1) / 2 from by omega]
      rfl
  · have hz0 : z1 = 0 := by omega
    subst hz0
    rw [Sym.zdig_zero, List.append_nil] at he1
    subst he1
    refine CC.seq ?_
    refine CC.seq ?_
    refine CC.region ?_
    refine RR.pv (pv_mv rfl) rfl ?_
    first | refine RR.pv (pv_gtr_t rfl rfl (by omega)) rfl ?_ | refine RR.pv (pv_gtr_f rfl rfl (by omega)) rfl ?_ | refine RR.pv (pv_gtr rfl rfl) rfl ?_
    refine RR.nil ?_
    refine CC.cond_f rfl ?_
    refine CC.exit ?_
    refine CC.seq ?_
    refine CC.region ?_
    refine RR.pv (pv_mv rfl) rfl ?_
    refine RR.pv (pv_as rfl) rfl ?_
    refine RR.nil ?_
    refine CC.ret ?_
    exact EndQ.r1 Try.results34 rfl ⟨hB1, hT1⟩

/-! ### zzc1RunDigits: the same digits -/
theorem runDigits_any (a0 : Option Nat) (L : Nat) (s0 : Nat → Int) (base : Nat) (v : Value) (xs : List Int) (z : Nat) (w : World) (hB : Buf a0 L s0 base w v xs) (hlen : xs.length + z ≤ 1048576) :
    FF 32 #[v, .int .i64 (z : Int)] w (fun v' w' => Buf a0 L s0 base w' v' (xs ++ Sym.zdig z) ∧ Touch (bufS a0 base) w w') := by
  refine FF.of_cc (l := [_, _]) Try.func32 rfl Try.ntmps32 rfl (CC.keep (F := [(0, _), (1, _)]) ⟨rfl, rfl, trivial⟩ ?_)
  refine CC.seq ?_
  refine CC.region ?_
  refine RR.pv (pv_as rfl) rfl ?_
  refine RR.nil ?_
  by_cases hz : z = 0
  · subst hz
    refine CC.seq ?_
    refine CC.seq ?_
    refine CC.region ?_
    refine RR.pv (pv_mv rfl) rfl ?_
    first | refine RR.pv (pv_leq_t rfl rfl (by omega)) rfl ?_ | refine RR.pv (pv_leq_f rfl rfl (by omega)) rfl ?_ | refine RR.pv (pv_leq rfl rfl) rfl ?_
    refine RR.nil ?_
    refine CC.cond_t rfl ?_
    refine CC.seq ?_
    refine CC.region ?_
    refine RR.pv (pv_mv rfl) rfl ?_
    refine RR.pv (pv_as rfl) rfl ?_
    refine RR.nil ?_
    refine CC.ret ?_
    exact EndQ.r1 Try.results32 rfl ⟨by rw [Sym.zdig_zero, List.append_nil]; exact hB, Touch.refl _ _⟩
  · refine CC.seq ?_
    refine CC.seq ?_
    refine CC.region ?_
    refine RR.pv (pv_mv rfl) rfl ?_
    first | refine RR.pv (pv_leq_t rfl rfl (by omega)) rfl ?_ | refine RR.pv (pv_leq_f rfl rfl (by omega)) rfl ?_ | refine RR.pv (pv_leq rfl rfl) rfl ?_
    refine RR.nil ?_
    refine CC.cond_f rfl ?_
    refine CC.skip ?_
    refine CC.seq ?_
    refine CC.region ?_
    refine RR.pv (pv_mv rfl) rfl ?_
    first | refine RR.pv (pv_addN (n := 1) rfl rfl (by omega)) rfl ?_ | refine RR.pv (pv_add64 rfl rfl (by omega)) rfl ?_
    refine RR.pv (pv_as rfl) rfl ?_
    refine RR.nil ?_
    refine CC.seq ?_
    refine CC.block ?_
    refine CC.loop (γ := Value × Nat × List Int) (F := fun g => [(0, g.1), (5, .int .i64 ((g.2.1 + 1 : Nat) : Int))])
      (I := fun g w' => Buf a0 L s0 base w' g.1 g.2.2 ∧ Touch (bufS a0 base) w w' ∧ g.2.2 ++ Sym.zdig g.2.1 = xs ++ Sym.zdig z ∧ g.2.2.length + g.2.1 ≤ 1048576) (μ := fun g => g.2.1) (v, z, xs) ⟨rfl, rfl, trivial⟩ ⟨hB, Touch.refl _ _, rfl, hlen⟩ ?_
    rintro ⟨v1, z1, xs1⟩ w1 ⟨hB1, hT1, he1, hl1⟩
    dsimp only at hB1 he1 hl1 ⊢
    by_cases hz : 0 < z1
    · refine CC.seq ?_
      refine CC.seq ?_
      refine CC.region ?_
      refine RR.pv (pv_mv rfl) rfl ?_
      first | refine RR.pv (pv_gtr_t rfl rfl (by omega)) rfl ?_ | refine RR.pv (pv_gtr_f rfl rfl (by omega)) rfl ?_ | refine RR.pv (pv_gtr rfl rfl) rfl ?_
      refine RR.nil ?_
      refine CC.cond_t rfl ?_
      rw [Sym.zdig_pos hz] at he1
      have hm2 : (z1 + 1) % 2 < 2 := Nat.mod_lt _ (by omega)
      refine CC.skip ?_
      refine CC.block ?_
      refine CC.seq ?_
      refine CC.region ?_
      refine RR.pv (pv_mv rfl) rfl ?_
      refine RR.pv (pv_mv rfl) rfl ?_
      refine RR.pv (pv_and1 rfl (by omega)) rfl ?_
      first | refine RR.pv (pv_c3_21 rfl (by omega)) rfl ?_ | refine RR.pv (pv_c3_21w rfl) rfl ?_
      refine RR.push (n := (((z1 + 1) % 2 : Nat) : Int)) hB1 rfl rfl rfl (by omega) rfl (fun v2 w2 hB2 hT2 => ?_)
      refine RR.pv (pv_as rfl) rfl ?_
      refine RR.nil ?_
      refine CC.region ?_
      refine RR.pv (pv_mv rfl) rfl ?_
      refine RR.pv (pv_shr1 rfl (by omega)) rfl ?_
      refine RR.pv (pv_as rfl) rfl ?_
      refine RR.nil ?_
      have ed : (((z1 + 1) % 2 : Nat) : Int) = if z1 % 2 = 1 then 0 else 1 := by split <;> omega
      have ev : (z1 + 1) / 2 = (z1 - 1) / 2 + 1 := by omega
      rw [ev]
      refine Nxt.go (v2, (z1 - 1) / 2, xs1 ++ [(((z1 + 1) % 2 : Nat) : Int)]) ⟨rfl, rfl, trivial⟩ ⟨hB2, hT1.trans hT2 (fun _ _ _ h => h) (fun _ _ _ h => h), ?_, by dsimp only; simp; omega⟩ (by dsimp only; omega)
      dsimp only
      rw [← he1, List.append_assoc, ed]
      rfl
    · have hz0 : z1 = 0 := by omega
      subst hz0
      rw [Sym.zdig_zero, List.append_nil] at he1
      subst he1
      refine CC.seq ?_
      refine CC.seq ?_
      refine CC.region ?_
      refine RR.pv (pv_mv rfl) rfl ?_
      first | refine RR.pv (pv_gtr_t rfl rfl (by omega)) rfl ?_ | refine RR.pv (pv_gtr_f rfl rfl (by omega)) rfl ?_ | refine RR.pv (pv_gtr rfl rfl) rfl ?_
      refine RR.nil ?_
      refine CC.cond_f rfl ?_
      refine CC.exit ?_
      refine CC.seq ?_
      refine CC.region ?_
      refine RR.pv (pv_mv rfl) rfl ?_
      refine RR.pv (pv_as rfl) rfl ?_
      refine RR.nil ?_
      refine CC.ret ?_
      exact EndQ.r1 Try.results32 rfl ⟨hB1, hT1⟩

/-! ### symbols -/
theorem Buf.start {a0 : Option Nat} {L : Nat} {s0 : Nat → Int} {base : Nat} {w : World} (hnil : a0 = none → L = 0) (hlow : ∀ b0, a0 = some b0 → b0 < base ∧ SI .i32 w b0 0 L s0 ∧ WR w b0 0 L) (hb : base ≤ w.heap.size) :
    Buf a0 L s0 base w (.slice (a0.map fun b => ⟨b, 0, none⟩) 0 L) [] :=
  ⟨hnil, fun b0 h => (hlow b0 h).1, hb, fun b0 h => ⟨(hlow b0 h).2.1.v.congr (fun i _ => by simp), (hlow b0 h).2.2⟩, .inl ⟨Nat.zero_le _, rfl⟩⟩

theorem Buf.base_le {a0 : Option Nat} {L : Nat} {s0 : Nat → Int} {base base' : Nat} {w : World} {v : Value} {xs : List Int} (h : Buf a0 L s0 base w v xs) (hle : base' ≤ base) (hlow : ∀ b0, a0 = some b0 → b0 < base') : Buf a0 L s0 base' w v xs :=
  ⟨h.nil, hlow, Nat.le_trans hle h.bsz, h.room, h.val.imp id (fun ⟨h1, b1, cap, hh, h2, h3, h4, h5⟩ => ⟨h1, b1, cap, hh, h2, h3, Nat.le_trans hle h4, h5⟩)⟩

theorem pv_slh_nil {E : Env} {w : World} {d : Option Nat} {ty : TypeId} {ps : String} {af : Array Edge} {g : Option (Nat × Bool)} {x : Operand} {a : Option Nat} {len cap : Nat} (hx : ev E x = some (.slice (a.map fun b => ⟨b, 0, none⟩) len cap)) :
    PV ⟨d, .slice 28 x none (some (.const (.int .i64 0))) none, ty, ps, af, g⟩ E w (.slice (a.map fun b => ⟨b, 0, none⟩) 0 cap) :=
  ⟨fun ρ _ hρ => by cases a <;> simp [execOp, hρ _ _ hx, hρ (.const (.int .i64 0)) _ rfl, go_sem]⟩

theorem nm34 : (Try.f34.name == "runtime.NumGoroutine") = false := by kernel_rfl
theorem nm31 : (Try.f31.name == "runtime.NumGoroutine") = false := by kernel_rfl

/-- What the last symbol is. -/
def lastSym (nU : Int) : Int := IntKind.i32.wrap (IntKind.i64.wrap (nU + 1))

set_option maxHeartbeats 1000000 in
theorem symbols_any (be : Nat) (a0 : Option Nat) (L : Nat) (s0 : Nat → Int) (ba : Option Addr) (n nc bn on : Nat) (f num : Nat → Nat) (nU : Int) (w : World) (hn : n ≤ 65536) (hnil : a0 = none → L = 0)
    (hroom : ∀ b0, a0 = some b0 → b0 < w.heap.size ∧ SI .i32 w b0 0 L s0 ∧ WR w b0 0 L) (he : w.cell? ⟨be, 0 + 1, none⟩ = some (.slice (a0.map fun b => ⟨b, 0, none⟩) L L)) (hbe : a0 ≠ some be)
    (hread : 0 < n → ∃ bb ob, ba = some ⟨bb, ob, none⟩ ∧ SN .u8 w bb ob n f ∧ a0 ≠ some bb) (hf : ∀ i, f i < 256) (hnum : SN .u8 w bn on 256 num) (hnum' : ∀ i, num i < 256) (hbn : a0 ≠ some bn) :
    FF 31 #[.pointer (some ⟨be, 0, none⟩), .slice ba n nc, .pointer (some ⟨bn, on, none⟩), .int .i64 nU] w
      (fun v' w' => Buf a0 L s0 w.heap.size w' v' (Sym.syms (fun t => num (f t)) n (lastSym nU)) ∧ Touch (bufS a0 w.heap.size) w w') := by
  have hX : ∀ t, (fun t => num (f t)) t < 256 := fun t => hnum' _
  generalize hXe : (fun t => num (f t)) = X at hX ⊢
  have hXt : ∀ t, num (f t) = X t := fun t => by rw [← hXe]
  refine FF.of_cc (l := [_, _, _, _]) Try.func31 rfl Try.ntmps31 rfl (CC.keep (F := [(0, _), (1, _), (2, _), (3, _)]) ⟨rfl, rfl, rfl, rfl, trivial⟩ ?_)
  refine CC.seq ?_
  refine CC.region ?_
  refine RR.pv (pv_as rfl) rfl ?_
  refine RR.nil ?_
  refine CC.seq ?_
  refine CC.region ?_
  refine RR.al40 rfl ?_
  refine RR.nil ?_
  -- the new array
  have hbeL := lt_of_cell he
  have hbnL := hnum.lt (by omega)
  have he1 : (w.alloc (.cells (Array.replicate 256 (.int .u8 0)) 40)).cell? ⟨be, 0 + 1, none⟩ = some (.slice (a0.map fun b => ⟨b, 0, none⟩) L L) := by
    rw [(Touch.alloc (fun _ _ => False) w _).cell be _ hbeL (fun h => h)]; exact he
  have hnum1 := hnum.alloc (.cells (Array.replicate 256 (.int .u8 0)) 40)
  have hread1 : 0 < n → ∃ bb ob, ba = some ⟨bb, ob, none⟩ ∧ SN .u8 (w.alloc (.cells (Array.replicate 256 (.int .u8 0)) 40)) bb ob n f ∧ a0 ≠ some bb ∧ bb < w.heap.size := fun h => by
    obtain ⟨bb, ob, h1, h2, h3⟩ := hread h
    exact ⟨bb, ob, h1, h2.alloc _, h3, h2.lt h⟩
  have hroom1 : ∀ b0, a0 = some b0 → b0 < w.heap.size ∧ SI .i32 (w.alloc (.cells (Array.replicate 256 (.int .u8 0)) 40)) b0 0 L s0 ∧ WR (w.alloc (.cells (Array.replicate 256 (.int .u8 0)) 40)) b0 0 L := fun b0 h => by
    obtain ⟨h1, h2, h3⟩ := hroom b0 h
    exact ⟨h1, h2.alloc _, h3.alloc (fun _ => h1) _⟩
  have ho1 := SN.new0 .u8 w 40 256
  have hw1 := WR.new w (Array.replicate 256 (.int .u8 0)) 40 0 256
  have hT1 : Touch (bufS a0 w.heap.size) w (w.alloc (.cells (Array.replicate 256 (.int .u8 0)) 40)) := Touch.alloc _ _ _
  have hsz1 : (w.alloc (.cells (Array.replicate 256 (.int .u8 0)) 40)).heap.size = w.heap.size + 1 := by simp
  generalize w.alloc (.cells (Array.replicate 256 (.int .u8 0)) 40) = w1 at he1 hnum1 hread1 hroom1 ho1 hw1 hT1 hsz1 ⊢
  generalize hbo : w.heap.size = bo at hbeL hbnL hread1 hroom1 ho1 hw1 hT1 hsz1 ⊢
  have ha0 : a0 ≠ some bo := fun h => by have := (hroom1 bo h).1; omega
  clear he hnum hread hroom hbo
  refine CC.seq ?_
  refine CC.seq ?_
  refine CC.region ?_
  refine RR.pv (pv_mv rfl) rfl ?_
  refine RR.nil ?_
  refine CC.block ?_
  refine CC.loop (γ := Nat × (Nat → Nat)) (F := fun g => [(0, .pointer (some ⟨be, 0, none⟩)), (1, .slice ba n nc), (2, .pointer (some ⟨bn, on, none⟩)), (3, .int .i64 nU), (9, .pointer (some ⟨bo, 0, none⟩)), (18, .int .i64 (g.1 : Int))])
    (I := fun g w' => g.1 ≤ 256 ∧ SN .u8 w' bo 0 256 g.2 ∧ WR w' bo 0 256 ∧ (∀ i, i < g.1 → g.2 i = i) ∧ Touch (fun b o => b = bo) w1 w') (μ := fun g => 256 - g.1) (0, fun _ => 0) ⟨rfl, rfl, rfl, rfl, rfl, rfl, trivial⟩
    ⟨Nat.zero_le _, ho1, hw1, fun i hi => absurd hi (Nat.not_lt_zero _), Touch.refl _ _⟩ ?_
  rintro ⟨i, h⟩ w2 ⟨hi, ho2, hw2, hall, hT2⟩
  dsimp only at hi ho2 hall ⊢
  by_cases hlt : i < 256
  · refine CC.seq ?_
    refine CC.region ?_
    first | refine RR.pv (pv_lss_t rfl rfl (by omega)) rfl ?_ | refine RR.pv (pv_lss_f rfl rfl (by omega)) rfl ?_ | refine RR.pv (pv_lss rfl rfl) rfl ?_
    refine RR.nil ?_
    refine CC.seq ?_
    refine CC.cond_t rfl ?_
    refine CC.skip ?_
    refine CC.seq ?_
    refine CC.block ?_
    refine CC.seq ?_
    refine CC.region ?_
    refine RR.pv (pv_mv rfl) rfl ?_
    refine RR.pv (pv_as rfl) rfl ?_
    refine RR.nil ?_
    refine CC.region ?_
    refine RR.pv (pv_mv rfl) rfl ?_
    refine RR.pv (pv_mv rfl) rfl ?_
    refine RR.pv (pv_c3_5 rfl (by omega)) rfl ?_
    first | refine RR.pv (pv_iaN rfl rfl at40 (by omega)) rfl ?_ | refine RR.pv (pv_iaZ rfl rfl at40 (by omega)) rfl ?_
    refine RR.st rfl rfl ct5 OneV.i (ho2 _ hlt) (hw2 _ hlt) ?_
    refine RR.nil ?_
    refine CC.region ?_
    first | refine RR.pv (pv_addN (n := 1) rfl rfl (by omega)) rfl ?_ | refine RR.pv (pv_add64 rfl rfl (by omega)) rfl ?_
    refine RR.pv (pv_mv rfl) rfl ?_
    refine RR.nil ?_
    refine Nxt.go (i + 1, upd h i i) ⟨rfl, rfl, rfl, rfl, rfl, rfl, trivial⟩ ⟨hlt, ho2.set hlt _, hw2.set, fun j hj => ?_, hT2.trans (Touch.setCell _ _ _ _) (fun _ _ _ h => h) (fun _ _ _ h => h.1)⟩ (by dsimp only; omega)
    dsimp only at hj ⊢
    by_cases e : j = i
    · subst e; rw [upd_same]
    · rw [upd_ne _ _ e]; exact hall j (by omega)
  have hi256 : i = 256 := by omega
  subst hi256
  have he2 : w2.cell? ⟨be, 0 + 1, none⟩ = some (.slice (a0.map fun b => ⟨b, 0, none⟩) L L) := by rw [hT2.cell be _ (by omega) (by omega)]; exact he1
  have hnum2 := hnum1.touch hT2 (fun j _ h => by omega)
  have hread2 : 0 < n → ∃ bb ob, ba = some ⟨bb, ob, none⟩ ∧ SN .u8 w2 bb ob n f ∧ a0 ≠ some bb ∧ bb < bo := fun h => by
    obtain ⟨bb, ob, h1, h2, h3, h4⟩ := hread1 h
    exact ⟨bb, ob, h1, h2.touch hT2 (fun j _ h => by omega), h3, h4⟩
  have hB2 : Buf a0 L s0 (bo + 1) w2 (.slice (a0.map fun b => ⟨b, 0, none⟩) 0 L) (Sym.run X 0).out := Buf.start hnil (fun b0 hb => by
    obtain ⟨h1, h2, h3⟩ := hroom1 b0 hb
    exact ⟨by omega, h2.touch hT2 (fun j _ h => by omega), h3.touch (fun _ => by omega) hT2⟩) (by have := hT2.size; omega)
  clear he1 hnum1 hread1 ho1 hw1
  refine CC.seq ?_
  refine CC.region ?_
  first | refine RR.pv (pv_lss_t rfl rfl (by omega)) rfl ?_ | refine RR.pv (pv_lss_f rfl rfl (by omega)) rfl ?_ | refine RR.pv (pv_lss rfl rfl) rfl ?_
  refine RR.nil ?_
  refine CC.seq ?_
  refine CC.cond_f rfl ?_
  refine CC.exit ?_
  refine CC.seq ?_
  refine CC.region ?_
  refine RR.pv (pv_mv rfl) rfl ?_
  refine RR.pv (pv_nilck rfl) rfl ?_
  refine RR.pv (pv_fa1 rfl) rfl ?_
  refine RR.pv (pv_ld rfl ct28 he2) rfl ?_
  refine RR.pv (pv_slh_nil rfl) rfl ?_
  refine RR.pv (pv_as rfl) rfl ?_
  refine RR.nil ?_
  refine CC.seq ?_
  refine CC.region ?_
  refine RR.pv (pv_as rfl) rfl ?_
  refine RR.nil ?_
  refine CC.seq ?_
  refine CC.seq ?_
  refine CC.region ?_
  refine RR.pv (pv_mv rfl) rfl ?_
  refine RR.pv (pv_len rfl st22) rfl ?_
  refine RR.pv (pv_mv rfl) rfl ?_
  refine RR.nil ?_
  refine CC.block ?_
  refine CC.loop (γ := Nat × Value × (Nat → Nat)) (F := fun g => [(2, .pointer (some ⟨bn, on, none⟩)), (3, .int .i64 nU), (9, .pointer (some ⟨bo, 0, none⟩)), (11, g.2.1), (12, .int .i64 ((Sym.run X g.1).z : Int)), (31, .slice ba n nc), (32, .int .i64 (n : Int)), (33, .int .i64 (g.1 : Int))])
    (I := fun g w' => g.1 ≤ n ∧ Buf a0 L s0 (bo + 1) w' g.2.1 (Sym.run X g.1).out ∧ SN .u8 w' bo 0 256 g.2.2 ∧ WR w' bo 0 256 ∧ (∀ i, i < 256 → g.2.2 i = (Sym.run X g.1).ord i) ∧ Touch (fun b o => bufS a0 (bo + 1) b o ∨ b = bo) w2 w') (μ := fun g => n - g.1)
    (0, .slice (a0.map fun b => ⟨b, 0, none⟩) 0 L, h) ⟨rfl, rfl, rfl, rfl, rfl, rfl, rfl, rfl, trivial⟩ ⟨Nat.zero_le _, hB2, ho2, hw2, hall, Touch.refl _ _⟩ ?_
  rintro ⟨t, v, oh⟩ w3 ⟨ht, hB3, ho3, hw3, hall3, hT3⟩
  dsimp only at ht hB3 ho3 hall3 ⊢
  have hrl := Sym.run_len X t
  have hnum3 := hnum2.touch hT3 (fun j _ hS => by
    rcases hS with (hS | hS) | hS
    · exact hbn hS
    · omega
    · omega)
  by_cases htn : t < n
  · obtain ⟨bb, ob, rfl, hs2, hbb, hbb'⟩ := hread2 (by omega)
    have hs3 := hs2.touch hT3 (fun j _ hS => by
      rcases hS with (hS | hS) | hS
      · exact hbb hS
      · omega
      · omega)
    have hft := hf t
    have hxt := hXt t
    have hxlt := hX t
    have ho30 := hall3 0 (by omega)
    obtain ⟨hpl, hpx, hpr⟩ := Sym.place_lt hX t (hX t)
    refine CC.seq ?_
    refine CC.region ?_
    first | refine RR.pv (pv_lss_t rfl rfl (by omega)) rfl ?_ | refine RR.pv (pv_lss_f rfl rfl (by omega)) rfl ?_ | refine RR.pv (pv_lss rfl rfl) rfl ?_
    refine RR.nil ?_
    refine CC.seq ?_
    refine CC.cond_t rfl ?_
    refine CC.skip ?_
    refine CC.seq ?_
    refine CC.block ?_
    refine CC.seq ?_
    refine CC.region ?_
    first | refine RR.pv (pv_ixN rfl rfl st22 (by omega)) rfl ?_ | refine RR.pv (pv_ixZ rfl rfl st22 (by omega)) rfl ?_
    refine RR.pv (pv_ld rfl ct5 (hs3 _ (by omega))) rfl ?_
    refine RR.pv (pv_as rfl) rfl ?_
    refine RR.nil ?_
    refine CC.seq ?_
    refine CC.region ?_
    refine RR.pv (pv_mv rfl) rfl ?_
    refine RR.pv (pv_mv rfl) rfl ?_
    refine RR.pv (pv_nilck rfl) rfl ?_
    first | refine RR.pv (pv_iaN rfl rfl at40 (by omega)) rfl ?_ | refine RR.pv (pv_iaZ rfl rfl at40 (by omega)) rfl ?_
    refine RR.pv (pv_ld rfl ct5 (hnum3 _ (by omega))) rfl ?_
    refine RR.pv (pv_as rfl) rfl ?_
    refine RR.nil ?_
    rw [hxt]
    by_cases heq : (Sym.run X t).ord 0 = X t
    · have hstep : Sym.run X (t + 1) = { Sym.run X t with z := (Sym.run X t).z + 1 } := by
        show Sym.stp _ _ = _
        unfold Sym.stp
        rw [if_pos heq]
      refine CC.seq ?_
      refine CC.seq ?_
      refine CC.region ?_
      first | refine RR.pv (pv_iaN (i := 0) rfl rfl at40 (by omega)) rfl ?_ | refine RR.pv (pv_iaZ rfl rfl at40 (by omega)) rfl ?_
      refine RR.pv (pv_ld rfl ct5 (ho3 _ (by omega))) rfl ?_
      refine RR.pv (pv_mv rfl) rfl ?_
      first | refine RR.pv (pv_eql_t rfl rfl (by omega)) rfl ?_ | refine RR.pv (pv_eql_f rfl rfl (by omega)) rfl ?_ | refine RR.pv (pv_eql rfl rfl) rfl ?_
      refine RR.nil ?_
      refine CC.cond_t rfl ?_
      refine CC.seq ?_
      refine CC.region ?_
      refine RR.pv (pv_mv rfl) rfl ?_
      first | refine RR.pv (pv_addN (n := 1) rfl rfl (by omega)) rfl ?_ | refine RR.pv (pv_add64 rfl rfl (by omega)) rfl ?_
      refine RR.pv (pv_as rfl) rfl ?_
      refine RR.nil ?_
      refine CC.exit ?_
      refine CC.region ?_
      first | refine RR.pv (pv_addN (n := 1) rfl rfl (by omega)) rfl ?_ | refine RR.pv (pv_add64 rfl rfl (by omega)) rfl ?_
      refine RR.pv (pv_mv rfl) rfl ?_
      refine RR.nil ?_
      refine Nxt.go (t + 1, v, oh) ?_ ⟨htn, by dsimp only; rw [hstep]; exact hB3, ho3, hw3, by dsimp only; rw [hstep]; exact hall3, hT3⟩ (by dsimp only; omega)
      dsimp only
      rw [hstep]
      exact ⟨rfl, rfl, rfl, rfl, rfl, rfl, rfl, rfl, trivial⟩
    · have hstep : Sym.run X (t + 1) = { ord := Sym.mtf (Sym.run X t).ord (Sym.place (Sym.run X t).ord (X t)) (X t), z := 0, out := (Sym.run X t).out ++ Sym.zdig (Sym.run X t).z ++ [((Sym.place (Sym.run X t).ord (X t) : Nat) : Int) + 1] } := by
        show Sym.stp _ _ = _
        unfold Sym.stp
        rw [if_neg heq]
      have hzl := Sym.zdig_len (Sym.run X t).z
      refine CC.seq ?_
      refine CC.seq ?_
      refine CC.region ?_
      first | refine RR.pv (pv_iaN (i := 0) rfl rfl at40 (by omega)) rfl ?_ | refine RR.pv (pv_iaZ rfl rfl at40 (by omega)) rfl ?_
      refine RR.pv (pv_ld rfl ct5 (ho3 _ (by omega))) rfl ?_
      refine RR.pv (pv_mv rfl) rfl ?_
      first | refine RR.pv (pv_eql_t rfl rfl (by omega)) rfl ?_ | refine RR.pv (pv_eql_f rfl rfl (by omega)) rfl ?_ | refine RR.pv (pv_eql rfl rfl) rfl ?_
      refine RR.nil ?_
      refine CC.cond_f rfl ?_
      refine CC.skip ?_
      refine CC.seq ?_
      refine CC.region ?_
      refine RR.pv (pv_mv rfl) rfl ?_
      refine RR.pv (pv_mv rfl) rfl ?_
      refine RR.call Try.func34 nm34 rfl rfl (appendZeros_any a0 L s0 (bo + 1) v _ _ w3 hB3 (by omega)) rfl ?_
      rintro v4 w4 ⟨hB4, hT4⟩
      have ho4 := ho3.touch hT4 (fun j _ hS => by rcases hS with hS | hS; exact ha0 hS; omega)
      have hw4 := hw3.touch (fun _ => ho3.lt (by omega)) hT4
      have hT4' : Touch (fun b o => bufS a0 (bo + 1) b o ∨ b = bo) w2 w4 := hT3.trans hT4 (fun _ _ _ h => h) (fun _ _ _ h => .inl h)
      clear hT3 hT4 ho3 hw3 hB3
      refine RR.pv (pv_as rfl) rfl ?_
      refine RR.nil ?_
      refine CC.seq ?_
      refine CC.region ?_
      refine RR.pv (pv_as rfl) rfl ?_
      refine RR.nil ?_
      refine CC.seq ?_
      refine CC.region ?_
      first | refine RR.pv (pv_iaN (i := 0) rfl rfl at40 (by omega)) rfl ?_ | refine RR.pv (pv_iaZ rfl rfl at40 (by omega)) rfl ?_
      refine RR.pv (pv_ld rfl ct5 (ho4 _ (by omega))) rfl ?_
      refine RR.pv (pv_as rfl) rfl ?_
      refine RR.pv (pv_as rfl) rfl ?_
      refine RR.nil ?_
      refine CC.seq ?_
      refine CC.region ?_
      refine RR.pv (pv_mv rfl) rfl ?_
      first | refine RR.pv (pv_iaN (i := 0) rfl rfl at40 (by omega)) rfl ?_ | refine RR.pv (pv_iaZ rfl rfl at40 (by omega)) rfl ?_
      refine RR.st rfl rfl ct5 OneV.i (ho4 _ (by omega)) (hw4 _ (by omega)) ?_
      refine RR.nil ?_
      have ho5 := ho4.set (i := 0) (by omega) (X t)
      have hw5 : WR (w4.setCell ⟨bo, 0 + 0, none⟩ (.int .u8 ((X t : Nat) : Int))) bo 0 256 := hw4.set
      have hB5 := hB4.set_other (b := bo) (o := 0 + 0) (u := .int .u8 ((X t : Nat) : Int)) (by omega) ha0
      have hT5 : Touch (fun b o => bufS a0 (bo + 1) b o ∨ b = bo) w2 (w4.setCell ⟨bo, 0 + 0, none⟩ (.int .u8 ((X t : Nat) : Int))) := hT4'.trans (Touch.setCell _ _ _ _) (fun _ _ _ h => h) (fun _ _ _ h => .inr h.1)
      have hall5 : ∀ i, i < 256 → upd oh 0 (X t) i = if i = 0 then X t else if i < 1 then (Sym.run X t).ord (i - 1) else (Sym.run X t).ord i := fun i hi => by
        by_cases e : i = 0
        · subst e; rw [upd_same, if_pos rfl]
        · rw [upd_ne _ _ e, if_neg e, if_neg (by omega)]; exact hall3 i hi
      rw [ho30]
      generalize w4.setCell ⟨bo, 0 + 0, none⟩ (.int .u8 ((X t : Nat) : Int)) = w5 at ho5 hw5 hB5 hT5 ⊢
      generalize upd oh 0 (X t) = oh5 at ho5 hall5 ⊢
      clear ho4 hw4 hB4 hT4'
      refine CC.seq ?_
      refine CC.block ?_
      refine CC.loop (γ := Nat × (Nat → Nat)) (F := fun g => [(2, .pointer (some ⟨bn, on, none⟩)), (3, .int .i64 nU), (9, .pointer (some ⟨bo, 0, none⟩)), (11, v4), (12, .int .i64 0), (15, .int .u8 ((X t : Nat) : Int)), (16, .int .u8 (((Sym.run X t).ord (g.1 - 1) : Nat) : Int)), (17, .int .i64 (g.1 : Int)), (31, .slice (some ⟨bb, ob, none⟩) n nc), (32, .int .i64 (n : Int)), (33, .int .i64 (t : Int))])
        (I := fun g w' => 1 ≤ g.1 ∧ g.1 ≤ Sym.place (Sym.run X t).ord (X t) + 1 ∧ Buf a0 L s0 (bo + 1) w' v4 ((Sym.run X t).out ++ Sym.zdig (Sym.run X t).z) ∧ SN .u8 w' bo 0 256 g.2 ∧ WR w' bo 0 256 ∧
          (∀ i, i < 256 → g.2 i = if i = 0 then X t else if i < g.1 then (Sym.run X t).ord (i - 1) else (Sym.run X t).ord i) ∧ Touch (fun b o => bufS a0 (bo + 1) b o ∨ b = bo) w2 w') (μ := fun g => 257 - g.1)
        (1, oh5) ⟨rfl, rfl, rfl, rfl, rfl, rfl, rfl, rfl, rfl, rfl, rfl, trivial⟩ ⟨Nat.le_refl _, by dsimp only; omega, hB5, ho5, hw5, hall5, hT5⟩ ?_
      rintro ⟨j, oj⟩ w6 ⟨hj1, hj2, hB6, ho6, hw6, hall6, hT6⟩
      dsimp only at hj1 hj2 ho6 hall6 ⊢
      by_cases hne : (Sym.run X t).ord (j - 1) = X t
      · -- x has been found
        have hjp : j = Sym.place (Sym.run X t).ord (X t) + 1 := by
          rcases Nat.lt_or_ge (j - 1) (Sym.place (Sym.run X t).ord (X t)) with h | h
          · exact absurd hne (hpr _ h)
          · omega
        refine CC.seq ?_
        refine CC.seq ?_
        refine CC.region ?_
        refine RR.pv (pv_mv rfl) rfl ?_
        refine RR.pv (pv_mv rfl) rfl ?_
        first | refine RR.pv (pv_neq_t rfl rfl (by omega)) rfl ?_ | refine RR.pv (pv_neq_f rfl rfl (by omega)) rfl ?_ | refine RR.pv (pv_neq rfl rfl) rfl ?_
        refine RR.nil ?_
        refine CC.cond_f rfl ?_
        refine CC.exit ?_
        refine CC.region ?_
        refine RR.pv (pv_mv rfl) rfl ?_
        refine RR.pv (pv_mv rfl) rfl ?_
        first | refine RR.pv (pv_c3_21 rfl (by omega)) rfl ?_ | refine RR.pv (pv_c3_21w rfl) rfl ?_
        refine RR.push (n := ((j : Nat) : Int)) hB6 rfl rfl rfl (by simp; omega) rfl (fun v7 w7 hB7 hT7 => ?_)
        refine RR.pv (pv_as rfl) rfl ?_
        refine RR.nil ?_
        refine CC.region ?_
        first | refine RR.pv (pv_addN (n := 1) rfl rfl (by omega)) rfl ?_ | refine RR.pv (pv_add64 rfl rfl (by omega)) rfl ?_
        refine RR.pv (pv_mv rfl) rfl ?_
        refine RR.nil ?_
        have ho7 := ho6.touch hT7 (fun j _ hS => by rcases hS with hS | hS; exact ha0 hS; omega)
        have hw7 := hw6.touch (fun _ => ho6.lt (by omega)) hT7
        refine Nxt.go (t + 1, v7, oj) ?_ ⟨htn, ?_, ho7, hw7, fun i hi => ?_, hT6.trans hT7 (fun _ _ _ h => h) (fun _ _ _ h => .inl h)⟩ (by dsimp only; omega)
        · dsimp only
          rw [hstep]
          exact ⟨rfl, rfl, rfl, rfl, rfl, rfl, rfl, rfl, trivial⟩
        · dsimp only
          rw [hstep]
          rw [hjp] at hB7
          exact hB7
        · dsimp only
          rw [hall6 i hi, hstep]
          simp only [Sym.mtf]
          by_cases e : i = 0
          · rw [if_pos e, if_pos e]
          · rw [if_neg e, if_neg e]
            by_cases e2 : i < j
            · rw [if_pos e2, if_pos (by omega)]
            · rw [if_neg e2, if_neg (by omega)]
      · have hjl : j - 1 < Sym.place (Sym.run X t).ord (X t) := by
          have : j - 1 ≠ Sym.place (Sym.run X t).ord (X t) := fun h => hne (by rw [h]; exact hpx)
          omega
        have hoj := hall6 j (by omega)
        rw [if_neg (by omega), if_neg (by omega)] at hoj
        refine CC.seq ?_
        refine CC.seq ?_
        refine CC.region ?_
        refine RR.pv (pv_mv rfl) rfl ?_
        refine RR.pv (pv_mv rfl) rfl ?_
        first | refine RR.pv (pv_neq_t rfl rfl (by omega)) rfl ?_ | refine RR.pv (pv_neq_f rfl rfl (by omega)) rfl ?_ | refine RR.pv (pv_neq rfl rfl) rfl ?_
        refine RR.nil ?_
        refine CC.cond_t rfl ?_
        refine CC.skip ?_
        refine CC.block ?_
        refine CC.seq ?_
        refine CC.region ?_
        refine RR.pv (pv_mv rfl) rfl ?_
        refine RR.pv (pv_mv rfl) rfl ?_
        first | refine RR.pv (pv_iaN rfl rfl at40 (by omega)) rfl ?_ | refine RR.pv (pv_iaZ rfl rfl at40 (by omega)) rfl ?_
        refine RR.pv (pv_ld rfl ct5 (ho6 _ (by omega))) rfl ?_
        refine RR.pv (pv_mv rfl) rfl ?_
        refine RR.pv (pv_as rfl) rfl ?_
        first | refine RR.pv (pv_iaN rfl rfl at40 (by omega)) rfl ?_ | refine RR.pv (pv_iaZ rfl rfl at40 (by omega)) rfl ?_
        refine RR.st rfl rfl ct5 OneV.i (ho6 _ (by omega)) (hw6 _ (by omega)) ?_
        refine RR.nil ?_
        refine CC.region ?_
        refine RR.pv (pv_mv rfl) rfl ?_
        first | refine RR.pv (pv_addN (n := 1) rfl rfl (by omega)) rfl ?_ | refine RR.pv (pv_add64 rfl rfl (by omega)) rfl ?_
        refine RR.pv (pv_as rfl) rfl ?_
        refine RR.nil ?_
        rw [hoj]
        refine Nxt.go (j + 1, upd oj j ((Sym.run X t).ord (j - 1))) ⟨rfl, rfl, rfl, rfl, rfl, rfl, rfl, rfl, rfl, rfl, rfl, trivial⟩ ⟨by dsimp only; omega, by dsimp only; omega, hB6.set_other (by omega) ha0, ho6.set (by omega) _, hw6.set, fun i hi => ?_, hT6.trans (Touch.setCell _ _ _ _) (fun _ _ _ h => h) (fun _ _ _ h => .inr h.1)⟩ (by dsimp only; omega)
        dsimp only
        by_cases e : i = j
        · subst e
          rw [upd_same, if_neg (by omega), if_pos (by omega)]
        · rw [upd_ne _ _ e, hall6 i hi]
          by_cases e0 : i = 0
          · rw [if_pos e0, if_pos e0]
          · rw [if_neg e0, if_neg e0]
            by_cases e2 : i < j
            · rw [if_pos e2, if_pos (by omega)]
            · rw [if_neg e2, if_neg (by omega)]
  · have htn' : t = n := by omega
    subst htn'
    have hzl := Sym.zdig_len (Sym.run X t).z
    refine CC.seq ?_
    refine CC.region ?_
    first | refine RR.pv (pv_lss_t rfl rfl (by omega)) rfl ?_ | refine RR.pv (pv_lss_f rfl rfl (by omega)) rfl ?_ | refine RR.pv (pv_lss rfl rfl) rfl ?_
    refine RR.nil ?_
    refine CC.seq ?_
    refine CC.cond_f rfl ?_
    refine CC.exit ?_
    refine CC.seq ?_
    refine CC.region ?_
    refine RR.pv (pv_mv rfl) rfl ?_
    refine RR.pv (pv_mv rfl) rfl ?_
    refine RR.call Try.func34 nm34 rfl rfl (appendZeros_any a0 L s0 (bo + 1) v _ _ w3 hB3 (by omega)) rfl ?_
    rintro v4 w4 ⟨hB4, hT4⟩
    refine RR.pv (pv_as rfl) rfl ?_
    refine RR.nil ?_
    refine CC.seq ?_
    refine CC.region ?_
    refine RR.pv (pv_mv rfl) rfl ?_
    refine RR.pv (pv_mv rfl) rfl ?_
    refine RR.pv (pv_add64w rfl rfl) rfl ?_
    refine RR.pv (pv_c3_21w rfl) rfl ?_
    refine RR.push (n := lastSym nU) hB4 rfl rfl rfl (by simp; omega) rfl (fun v5 w5 hB5 hT5 => ?_)
    refine RR.pv (pv_as rfl) rfl ?_
    refine RR.nil ?_
    refine CC.ret ?_
    refine EndQ.r1 Try.results31 rfl ⟨hB5.base_le (by omega) (fun b0 hb => (hroom1 b0 hb).1), ?_⟩
    have hT35 := (hT3.trans hT4 (T := fun b o => bufS a0 (bo + 1) b o ∨ b = bo) (fun _ _ _ h => h) (fun _ _ _ h => .inl h)).trans hT5 (T := fun b o => bufS a0 (bo + 1) b o ∨ b = bo) (fun _ _ _ h => h) (fun _ _ _ h => .inl h)
    have hT25 := hT2.trans hT35 (T := fun b o => bufS a0 (bo + 1) b o ∨ b = bo) (fun _ _ _ h => .inr h) (fun _ _ _ h => h)
    exact hT1.trans hT25 (fun _ _ _ h => h) (fun b o hb h => by
      rcases h with (h | h) | h
      · exact .inl h
      · exact .inr (by omega)
      · exact .inr (by omega))

end Go.Proofs.Qxb6602663a.Vc
