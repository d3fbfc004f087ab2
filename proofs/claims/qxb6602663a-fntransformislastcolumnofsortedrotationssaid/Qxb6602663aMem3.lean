/-
  append over rows; whole arrays loaded and stored; a struct built and boxed.
-/
import Derived.Test.Qxb6602663aMem2
namespace Go.Proofs.Qxb6602663a.Vc
open Go.RowKit
set_option linter.unusedVariables false
set_option linter.unusedSimpArgs false

theorem run_append_room_cells {P : Program} (w : World) (t ty e : TypeId) (i : TypeInfo) (ht : P.underlying t = some (.slice e)) (hi : P.info? e = some i) (hsz : i.size = 1)
    (b off sLen sCap : Nat) (a : Addr) (m c : Nat) (news : List Value) (hl : news.length = m) (hnews : ∀ j u, news[j]? = some u → w.cell? (a.add j) = some u) (h1 : ∀ u ∈ news, u.oneCell' = true)
    (hroom : sLen + m ≤ sCap) (hc : ∀ j, j < m → (w.cell? ⟨b, off + sLen + j, none⟩).isSome = true) (hf : ∀ j, j < m → w.frozen? ⟨b, off + sLen + j, none⟩ = false) :
    (Builtin.append_ #[t, t] ty #[.slice (some ⟨b, off, none⟩) sLen sCap, .slice (some a) m c]).run P w = .ok (.slice (some ⟨b, off, none⟩) (sLen + m) sCap) (w.setCells b (off + sLen) news) := by
  have hff := run_firstCells_some (P := P) w i.size m a m c news (by rw [hsz, hl]; omega) hnews
  have hst := run_storeCells_cells (P := P) b (off + sLen) news 0 w (fun j hj => by simpa using hc j (by omega)) (fun j hj => by simpa using hf j (by omega)) h1
  simp only [Nat.add_zero] at hst
  rw [hsz] at hff
  have ha : (⟨b, off, none⟩ : Addr).add sLen = ⟨b, off + sLen, none⟩ := addr_add b off sLen
  simp [Builtin.append_, run_underlying ht, sizeOf, typeInfo, hi, Builtin.lenOf, hroom, hsz, hff, ha, hst]

theorem run_ap {P : Program} {ρ : Operand → Value} {dst : Option Nat} {x y : Operand} {t ty : TypeId} {ps : String} {af : Array Edge} {g : Option (Nat × Bool)} {w w' : World} {v a b : Value} (hx : ρ x = a) (hy : ρ y = b)
    (h : (Builtin.append_ #[t, t] ty #[a, b]).run P w = .ok v w') :
    (execOp ρ ⟨dst, .call { callee := .builtin .append, args := #[x, y], argTypes := #[t, t] }, ty, ps, af, g⟩).run P w = .ok (.value v) w' := by
  have hm : (#[x, y] : Array Operand).map ρ = #[ρ x, ρ y] := by simp
  have e : execOp ρ ⟨dst, .call { callee := .builtin .append, args := #[x, y], argTypes := #[t, t] }, ty, ps, af, g⟩ = (Builtin.append_ #[t, t] ty ((#[x, y] : Array Operand).map ρ)).bind fun v => .pure (.value v) := rfl
  have h2 : ∀ (s : Sem Value) (k : Value → Sem Next), (s.bind k).run P w = (s.run P w).andThen fun v w => (k v).run P w := fun s k => Sem.run_bind ..
  rw [e, h2, hm, hx, hy, h]
  rfl

section
variable {N : Nat} {ops : Array Oper} {rest : List Oper} {E : Env} {w : World} {K : Env → World → Prop} {d : Nat} {ty t e : TypeId} {ps : String} {af : Array Edge} {x y z : Operand}
variable {α : Type} {mk : α → Value}

/-- append with room. -/
theorem RR.apRoom {b off n cap b' off' m cap' N' : Nat} {f f' : Nat → α} {bytes : Nat} {zv : Value} (hu : Try.prog.underlying t = some (.slice e)) (hinfo : (Try.prog.info? e).map (fun i => (i.zero, i.size, i.bytes)) = some (some zv, 1, bytes)) (hmk : ∀ x, OneV (mk x))
    (hx : ev E x = some (.slice (some ⟨b, off, none⟩) n cap)) (hy : ev E y = some (.slice (some ⟨b', off', none⟩) m cap')) (hd : SV mk w b off N' f) (hw : WR w b off N') (hN' : n + m ≤ N') (hroom : n + m ≤ cap) (hsrc : SV mk w b' off' m f') (hN : Nat.blt d N = true)
    (hk : RR false N ops rest ((d, .slice (some ⟨b, off, none⟩) (n + m) cap) :: E) (w.setCells b (off + n) (cellsL mk f' m)) K) :
    RR false N ops (⟨some d, .call { callee := .builtin .append, args := #[x, y], argTypes := #[t, t] }, ty, ps, af, none⟩ :: rest) E w K :=
  RR.act hN fun ρ q hρ => ⟨.slice (some ⟨b, off, none⟩) (n + m) cap, w.setCells b (off + n) (cellsL mk f' m), q, by
    obtain ⟨i, hi, hzz⟩ := Option.map_eq_some_iff.1 hinfo
    simp only [Prod.mk.injEq] at hzz
    obtain ⟨_, hs, _⟩ := hzz
    have h := run_append_room_cells (P := Try.prog) (w.drewN q) t ty e i hu hi hs b off n cap ⟨b', off', none⟩ m cap' (cellsL mk f' m) (length_cellsL _)
      (hsrc.src (by omega) q) (oneCell_of hmk _ _) hroom (fun j hj => by rw [World.cell?_drewN, Nat.add_assoc, hd (n + j) (by omega)]; rfl) (fun j hj => by rw [World.frozen?_drewN, Nat.add_assoc]; exact hw (n + j) (by omega))
    rw [setCells_drewN'] at h
    exact run_ap (hρ _ _ hx) (hρ _ _ hy) h, hk⟩

/-- append that makes a new array: of which size, the tape says. -/
theorem RR.apGrow {b off n cap b' off' m cap' : Nat} {f f' : Nat → α} {bytes : Nat} {zv : Value} {za : α} (hu : Try.prog.underlying t = some (.slice e)) (hinfo : (Try.prog.info? e).map (fun i => (i.zero, i.size, i.bytes)) = some (some zv, 1, bytes))
    (hz : zv = mk za) (hzc : zv.cells = #[zv])
    (hx : ev E x = some (.slice (some ⟨b, off, none⟩) n cap)) (hy : ev E y = some (.slice (some ⟨b', off', none⟩) m cap')) (hd : SV mk w b off n f) (hgrow : cap < n + m) (hsmall : (n + m) * bytes ≤ 140737488355328) (h63 : n + m ≤ 9223372036854775807) (hsrc : SV mk w b' off' m f') (hN : Nat.blt d N = true)
    (hk : ∀ (c : Nat) (arr : Array Value), n + m ≤ c → (∀ i, i < c → arr[i]? = some (mk (if i < n then f i else if i < n + m then f' (i - n) else za))) →
      RR false N ops rest ((d, .slice (some ⟨w.heap.size, 0, none⟩) (n + m) c) :: E) (w.alloc (.cells arr e)) K) :
    RR false N ops (⟨some d, .call { callee := .builtin .append, args := #[x, y], argTypes := #[t, t] }, ty, ps, af, none⟩ :: rest) E w K :=
  RR.act hN fun ρ q hρ => by
    obtain ⟨i, hi, hzz⟩ := Option.map_eq_some_iff.1 hinfo
    simp only [Prod.mk.injEq] at hzz
    obtain ⟨hz', hs, hby⟩ := hzz
    have h := run_append_grow (P := Try.prog) (w.drewN q) t ty e i zv hu hi hz' ⟨b, off, none⟩ n cap (cellsL mk f n) (by rw [length_cellsL, hs]; omega) (hd.src (by omega) q)
      ⟨b', off', none⟩ m cap' (cellsL mk f' m) (by rw [length_cellsL, hs]; omega) (hsrc.src (by omega) q) hgrow (by omega) (by rw [hby]; exact growslice_fits (by omega) hsmall)
    have hge := grownCap_ge (w.drewN q) (n + m) cap e
    generalize grownCap (w.drewN q) (n + m) cap e = c at h hge
    refine ⟨_, w.alloc (.cells ((cellsL mk f n).toArray ++ (cellsL mk f' m).toArray ++ Builtin.zeroCells zv.cells (c - (n + m))) e), q + 1, ?_, hk c _ hge ?_⟩
    · exact run_ap (hρ _ _ hx) (hρ _ _ hy) h
    · intro j hj
      rw [hzc]
      by_cases h1 : j < n
      · rw [Array.getElem?_append_left (by simp [length_cellsL]; omega), Array.getElem?_append_left (by simp [length_cellsL]; omega)]
        simp [get_cellsL h1, h1]
      · by_cases h2 : j < n + m
        · rw [Array.getElem?_append_left (by simp [length_cellsL]; omega), Array.getElem?_append_right (by simp [length_cellsL]; omega)]
          simp [length_cellsL, h1, h2, get_cellsL (show j - n < m by omega)]
        · rw [Array.getElem?_append_right (by simp [length_cellsL]; omega)]
          simp [length_cellsL, h1, h2, Builtin.zeroCells, Nat.mod_one]
          exact ⟨⟨j - (n + m), by rw [Array.getElem?_eq_getElem (by simp; omega)]; simp⟩, hz⟩

theorem RR.apNil {b' off' m cap' : Nat} {f' : Nat → α} {bytes : Nat} {zv : Value} {za : α} (hu : Try.prog.underlying t = some (.slice e)) (hinfo : (Try.prog.info? e).map (fun i => (i.zero, i.size, i.bytes)) = some (some zv, 1, bytes))
    (hz : zv = mk za) (hzc : zv.cells = #[zv])
    (hx : ev E x = some (.slice none 0 0)) (hy : ev E y = some (.slice (some ⟨b', off', none⟩) m cap')) (hgrow : 0 < m) (hsmall : m * bytes ≤ 140737488355328) (h63 : m ≤ 9223372036854775807) (hsrc : SV mk w b' off' m f') (hN : Nat.blt d N = true)
    (hk : ∀ (c : Nat) (arr : Array Value), m ≤ c → (∀ i, i < c → arr[i]? = some (mk (if i < m then f' i else za))) →
      RR false N ops rest ((d, .slice (some ⟨w.heap.size, 0, none⟩) m c) :: E) (w.alloc (.cells arr e)) K) :
    RR false N ops (⟨some d, .call { callee := .builtin .append, args := #[x, y], argTypes := #[t, t] }, ty, ps, af, none⟩ :: rest) E w K :=
  RR.act hN fun ρ q hρ => by
    obtain ⟨i, hi, hzz⟩ := Option.map_eq_some_iff.1 hinfo
    simp only [Prod.mk.injEq] at hzz
    obtain ⟨hz', hs, hby⟩ := hzz
    have h := run_append_nil (P := Try.prog) (w.drewN q) t ty e i zv hu hi hz' ⟨b', off', none⟩ m cap' (cellsL mk f' m) (by rw [length_cellsL, hs]; omega) (hsrc.src (by omega) q) hgrow (by omega) (by rw [hby]; omega)
    have hge := grownCap_ge (w.drewN q) m 0 e
    generalize grownCap (w.drewN q) m 0 e = c at h hge
    refine ⟨_, w.alloc (.cells ((cellsL mk f' m).toArray ++ Builtin.zeroCells zv.cells (c - m)) e), q + 1, ?_, hk c _ hge ?_⟩
    · exact run_ap (hρ _ _ hx) (hρ _ _ hy) h
    · intro j hj
      rw [hzc]
      by_cases h2 : j < m
      · rw [Array.getElem?_append_left (by simp [length_cellsL]; omega)]
        simp [h2, get_cellsL h2]
      · rw [Array.getElem?_append_right (by simp [length_cellsL]; omega)]
        simp [length_cellsL, h2, Builtin.zeroCells, Nat.mod_one]
        exact ⟨⟨j - m, by rw [Array.getElem?_eq_getElem (by simp; omega)]; simp⟩, hz⟩
end

/-! ### a struct built and boxed; whole arrays -/
section
variable {E : Env} {w : World} {d : Option Nat} {ty t t' : TypeId} {ps : String} {af : Array Edge} {g : Option (Nat × Bool)} {x y z : Operand}
theorem pv_build1 {a : Option Addr} {n c : Nat} (hx : ev E x = some (.slice a n c)) : PV ⟨d, .build 50 #[(1, x)], ty, ps, af, g⟩ E w (.agg #[.slice none 0 0, .slice a n c, .slice none 0 0, .int .u64 0, .int .u64 0]) :=
  ⟨fun ρ _ hρ => by simp [execOp, hρ _ _ hx, go_sem]⟩
theorem pv_build01 {a : Option Addr} {n c : Nat} {a' : Option Addr} {n' c' : Nat} (hx : ev E x = some (.slice a n c)) (hy : ev E y = some (.slice a' n' c')) :
    PV ⟨d, .build 50 #[(0, x), (1, y)], ty, ps, af, g⟩ E w (.agg #[.slice a n c, .slice a' n' c', .slice none 0 0, .int .u64 0, .int .u64 0]) :=
  ⟨fun ρ _ hρ => by simp [execOp, hρ _ _ hx, hρ _ _ hy, go_sem]⟩

theorem info40 : (Try.prog.info? 40).map (·.size) = some 256 := by kernel_rfl

theorem pv_ld40 {b off : Nat} {f : Nat → Nat} (hx : ev E x = some (.pointer (some ⟨b, off, none⟩))) (hs : SN .u8 w b off 256 f) :
    PV ⟨d, .load 40 x, ty, ps, af, g⟩ E w (.agg (cellsL (fun m : Nat => Value.int .u8 (m : Int)) f 256).toArray) :=
  ⟨fun ρ q hρ => by
    have hl := run_loadCells_list (P := Try.prog) (w.drewN q) ⟨b, off, none⟩ (cellsL (fun m : Nat => Value.int .u8 (m : Int)) f 256) (hs.v.src (Nat.le_refl _) q)
    rw [length_cellsL] at hl
    have hu := Try.underlying40
    have hagg : (isAgg 40).run Try.prog (w.drewN q) = .ok true (w.drewN q) := by
      unfold isAgg
      rw [Sem.run_bind, run_underlying hu]
      rfl
    obtain ⟨i, hi, hz⟩ := Option.map_eq_some_iff.1 info40
    have h : (loadVar 40 ⟨b, off, none⟩).run Try.prog (w.drewN q) = .ok (.agg (cellsL (fun m : Nat => Value.int .u8 (m : Int)) f 256).toArray) (w.drewN q) := by
      simp [loadVar, Sem.run_bind, hagg, sizeOf, typeInfo, hi, hz, hl]
    have e : execOp ρ ⟨d, .load 40 x, ty, ps, af, g⟩ = (Instr.loadAt 40 (ρ x)).bind fun v => .pure (.value v) := rfl
    have h2 : ∀ (s : Sem Value) (k : Value → Sem Next) (w : World), (s.bind k).run Try.prog w = (s.run Try.prog w).andThen fun v w => (k v).run Try.prog w := fun s k w => Sem.run_bind ..
    have h3 : (Instr.loadAt 40 (.pointer (some ⟨b, off, none⟩))).run Try.prog (w.drewN q) = .ok (.agg (cellsL (fun m : Nat => Value.int .u8 (m : Int)) f 256).toArray) (w.drewN q) := h
    rw [e, h2, hρ _ _ hx, h3]
    rfl⟩
end

section
variable {N : Nat} {ops : Array Oper} {rest : List Oper} {E : Env} {w : World} {K : Env → World → Prop} {d : Nat} {ty t e : TypeId} {ps : String} {af : Array Edge} {x y z : Operand}

theorem RR.box50 {cs : Array Value} (hx : ev E x = some (.agg cs)) (hN : Nat.blt d N = true)
    (hk : RR false N ops rest ((d, .pointer (some ⟨w.heap.size, 0, none⟩)) :: E) (w.alloc (.cells cs 50)) K) :
    RR false N ops (⟨some d, .box 50 x, ty, ps, af, none⟩ :: rest) E w K :=
  RR.act hN fun ρ m hρ => ⟨_, _, m, by simp [execOp, hρ _ _ hx, go_sem]; rfl, hk⟩

theorem RR.st40 {b off : Nat} {f f' : Nat → Nat} (hx : ev E x = some (.pointer (some ⟨b, off, none⟩))) (hy : ev E y = some (.agg (cellsL (fun m : Nat => Value.int .u8 (m : Int)) f' 256).toArray)) (hs : SN .u8 w b off 256 f) (hw : WR w b off 256)
    (hk : RR false N ops rest E (w.setCells b off (cellsL (fun m : Nat => Value.int .u8 (m : Int)) f' 256)) K) :
    RR false N ops (⟨none, .store 40 x y, ty, ps, af, none⟩ :: rest) E w K := by
  refine RR.actS (w' := w.setCells b off (cellsL (fun m : Nat => Value.int .u8 (m : Int)) f' 256)) (fun ρ q hρ => ?_) hk
  have hst := run_storeCells_cells (P := Try.prog) b off (cellsL (fun m : Nat => Value.int .u8 (m : Int)) f' 256) 0 (w.drewN q)
    (fun j hj => by rw [length_cellsL] at hj; rw [World.cell?_drewN, Nat.add_zero, hs j hj]; rfl) (fun j hj => by rw [length_cellsL] at hj; rw [World.frozen?_drewN, Nat.add_zero]; exact hw j hj) (oneCell_of (fun _ => OneV.i) _ _)
  rw [Nat.add_zero, setCells_drewN'] at hst
  obtain ⟨i, hi, hz⟩ := Option.map_eq_some_iff.1 info40
  have h3 : (storeVar 40 ⟨b, off, none⟩ (.agg (cellsL (fun m : Nat => Value.int .u8 (m : Int)) f' 256).toArray)).run Try.prog (w.drewN q) = .ok () ((w.setCells b off (cellsL (fun m : Nat => Value.int .u8 (m : Int)) f' 256)).drewN q) := by
    simp [storeVar, Sem.run_bind, sizeOf, typeInfo, hi, hz, Value.cells, length_cellsL, hst]
  have e : execOp ρ ⟨none, .store 40 x y, ty, ps, af, none⟩ = (Instr.storeAt 40 (ρ x) (ρ y)).bind fun _ => .pure .skip := rfl
  have h2 : ∀ (s : Sem Unit) (k : Unit → Sem Next) (w : World), (s.bind k).run Try.prog w = (s.run Try.prog w).andThen fun v w => (k v).run Try.prog w := fun s k w => Sem.run_bind ..
  have h4 : (Instr.storeAt 40 (.pointer (some ⟨b, off, none⟩)) (.agg (cellsL (fun m : Nat => Value.int .u8 (m : Int)) f' 256).toArray)).run Try.prog (w.drewN q) = .ok () ((w.setCells b off (cellsL (fun m : Nat => Value.int .u8 (m : Int)) f' 256)).drewN q) := h3
  rw [e, h2, hρ _ _ hx, hρ _ _ hy, h4]
  rfl
end

/-! ### a slice of int32 that is appended to: in the room that came in, then beyond it -/
theorem one_i32 : ∀ x : Int, OneV (Value.int .i32 x) := fun _ => OneV.i

/-- 'v' holds 'xs'; the room 'a0' (L cells, content s0 before) holds the first of xs, as far as it reaches. Blocks from 'base' on are the call's own. -/
structure Buf (a0 : Option Nat) (L : Nat) (s0 : Nat → Int) (base : Nat) (w : World) (v : Value) (xs : List Int) : Prop where
  nil : a0 = none → L = 0
  low : ∀ b0, a0 = some b0 → b0 < base
  bsz : base ≤ w.heap.size
  room : ∀ b0, a0 = some b0 → SI .i32 w b0 0 L (fun i => if i < xs.length then xs.getD i 0 else s0 i) ∧ WR w b0 0 L
  val : (xs.length ≤ L ∧ v = .slice (a0.map fun b => ⟨b, 0, none⟩) xs.length L) ∨
    (L < xs.length ∧ ∃ b1 cap h, v = .slice (some ⟨b1, 0, none⟩) xs.length cap ∧ xs.length ≤ cap ∧ base ≤ b1 ∧ SI .i32 w b1 0 cap h ∧ WR w b1 0 cap ∧ ∀ i, i < xs.length → h i = xs.getD i 0)

/-- What such a slice may touch. -/
def bufS (a0 : Option Nat) (base : Nat) : Nat → Nat → Prop := fun b o => a0 = some b ∨ base ≤ b

theorem Buf.touch {a0 : Option Nat} {L : Nat} {s0 : Nat → Int} {base : Nat} {w w' : World} {v : Value} {xs : List Int} {S : Nat → Nat → Prop} (h : Buf a0 L s0 base w v xs) (ht : Touch S w w')
    (h0 : ∀ b0 o, a0 = some b0 → ¬ S b0 o) (h1 : ∀ b n c, v = .slice (some ⟨b, 0, none⟩) n c → ∀ o, ¬ S b o) : Buf a0 L s0 base w' v xs := by
  refine ⟨h.nil, h.low, Nat.le_trans h.bsz ht.size, fun b0 hb => ?_, ?_⟩
  · obtain ⟨r1, r2⟩ := h.room b0 hb
    exact ⟨r1.touch ht (fun i _ => h0 b0 _ hb), r2.touch (fun hL => r1.lt hL) ht⟩
  · rcases h.val with h2 | ⟨h2, b1, cap, hh, rfl, h3, h4, h5, h6, h7⟩
    · exact .inl h2
    · exact .inr ⟨h2, b1, cap, hh, rfl, h3, h4, h5.touch ht (fun i _ => h1 b1 _ _ rfl _), h6.touch (fun hL => h5.lt hL) ht, h7⟩

/-- A new block elsewhere. -/
theorem Buf.alloc {a0 : Option Nat} {L : Nat} {s0 : Nat → Int} {base : Nat} {w : World} {v : Value} {xs : List Int} (h : Buf a0 L s0 base w v xs) (o : Obj) : Buf a0 L s0 base (w.alloc o) v xs :=
  h.touch (Touch.alloc (fun _ _ => False) w o) (fun _ _ _ h => h) (fun _ _ _ _ _ h => h)

theorem Buf.set_other {a0 : Option Nat} {L : Nat} {s0 : Nat → Int} {base : Nat} {w : World} {v : Value} {xs : List Int} (h : Buf a0 L s0 base w v xs) {b o : Nat} {u : Value} (hb : b < base) (h0 : a0 ≠ some b) : Buf a0 L s0 base (w.setCell ⟨b, o, none⟩ u) v xs := by
  refine h.touch (Touch.setCell w b o u) (fun b0 o' hb0 hs => h0 (by rw [hb0, hs.1])) (fun b1 n c hv o' hs => ?_)
  rcases h.val with ⟨h2, h3⟩ | ⟨h2, b2, cap, hh, h3, h4, h5, _⟩
  · rw [h3] at hv
    cases ha : a0 with
    | none => rw [ha] at hv; simp at hv
    | some b3 =>
      rw [ha] at hv
      simp at hv
      exact h0 (by rw [ha, hv.1, hs.1])
  · rw [h3] at hv
    injection hv with hv1 hv2
    injection hv1 with hv1
    injection hv1 with hv1
    have := hs.1
    omega

theorem getD_snoc (xs : List Int) (n : Int) (i : Nat) : (xs ++ [n]).getD i 0 = if i < xs.length then xs.getD i 0 else if i = xs.length then n else 0 := by
  by_cases h : i < xs.length
  · simp [h, List.getElem?_append_left h]
  · by_cases e : i = xs.length
    · subst e; simp
    · have h2 : (xs ++ [n])[i]? = none := List.getElem?_eq_none (by simp; omega)
      simp [h, e, h2]

section
variable {N : Nat} {ops : Array Oper} {rest : List Oper} {E : Env} {w : World} {K : Env → World → Prop} {d : Nat} {ty t e : TypeId} {ps : String} {af : Array Edge} {x y z : Operand}

/-- 'append(syms, n)'. -/
theorem RR.apBuf {a0 : Option Nat} {L : Nat} {s0 : Nat → Int} {base : Nat} {v : Value} {xs : List Int} {k : Nat} {n : Int} (hB : Buf a0 L s0 base w v xs) (hx : ev E x = some v) (hy : ev E y = some (.slice (some ⟨k, 0, none⟩) 1 1))
    (hk : w.cell? ⟨k, 0, none⟩ = some (.int .i32 n)) (hlen : xs.length + 1 ≤ 1048576) (hN : Nat.blt d N = true)
    (hK : ∀ v' w', Buf a0 L s0 base w' v' (xs ++ [n]) → Touch (bufS a0 base) w w' → RR false N ops rest ((d, v') :: E) w' K) :
    RR false N ops (⟨some d, .call { callee := .builtin .append, args := #[x, y], argTypes := #[28, 28] }, ty, ps, af, none⟩ :: rest) E w K := by
  have hsrc : SV (Value.int .i32) w k 0 1 (fun _ => n) := by
    intro i hi
    have : i = 0 := by omega
    subst this
    exact hk
  have hl : (xs ++ [n]).length = xs.length + 1 := by simp
  -- a new array
  have grown : ∀ (c : Nat) (arr : Array Value), xs.length + 1 ≤ c → L < xs.length + 1 → (∀ i, i < c → arr[i]? = some (Value.int .i32 ((xs ++ [n]).getD i 0))) →
      Buf a0 L s0 base (w.alloc (.cells arr 21)) (.slice (some ⟨w.heap.size, 0, none⟩) (xs.length + 1) c) (xs ++ [n]) := by
    intro c arr hc hL harr
    refine ⟨hB.nil, hB.low, by simp; have := hB.bsz; omega, fun b0 hb => ?_, .inr ⟨by rw [hl]; omega, w.heap.size, c, fun i => (xs ++ [n]).getD i 0, by rw [hl], by rw [hl]; omega, hB.bsz, ?_, WR.new w arr 21 0 c, fun i _ => rfl⟩⟩
    · obtain ⟨r1, r2⟩ := hB.room b0 hb
      refine ⟨?_, r2.alloc (fun hL => r1.lt hL) _⟩
      refine (r1.v.alloc _).congr (fun i hi => ?_)
      have h1 : i < xs.length := by omega
      simp only [hl, getD_snoc]
      rw [if_pos h1, if_pos (by omega), if_pos h1]
    · exact (SV.new w arr 21 harr).ii
  have touchNew : ∀ arr : Array Value, Touch (bufS a0 base) w (w.alloc (.cells arr 21)) := fun arr => Touch.alloc _ _ _
  -- the content of a new array, from append's law
  have hcont : ∀ (f : Nat → Int), (∀ i, i < xs.length → f i = xs.getD i 0) → ∀ i, (if i < xs.length then f i else if i < xs.length + 1 then n else 0) = (xs ++ [n]).getD i 0 := by
    intro f hf i
    rw [getD_snoc]
    by_cases h1 : i < xs.length
    · rw [if_pos h1, if_pos h1, hf i h1]
    · rw [if_neg h1, if_neg h1]
      by_cases h2 : i = xs.length
      · rw [if_pos (by omega), if_pos h2]
      · rw [if_neg (by omega), if_neg h2]
  rcases hB.val with ⟨hle, hv⟩ | ⟨hgt, b1, cap, h, hv, hcap, hb1, hs1, hw1, hh⟩
  · cases ha : a0 with
    | none =>
      have hL := hB.nil ha
      have hx0 : xs = [] := List.eq_nil_of_length_eq_zero (by omega)
      rw [ha] at hv
      have hv' : v = .slice none 0 0 := by rw [hv, hx0, hL]; rfl
      rw [hv'] at hx
      refine RR.apNil (mk := Value.int .i32) (za := (0 : Int)) Try.underlying28 info21 rfl rfl hx hy (by omega) (by omega) (by omega) hsrc hN (fun c arr hc harr => ?_)
      subst hx0
      have := grown c arr (by simpa using hc) (by rw [hL]; simp) (fun i hi => by
        rw [harr i hi]
        have := hcont (fun _ => 0) (fun i hi => absurd hi (by simp)) i
        simp only [List.length_nil, Nat.not_lt_zero, if_false, Nat.zero_add] at this
        rw [this])
      rw [ha] at this touchNew hK
      exact hK _ _ this (touchNew arr)
    | some b0 =>
      rw [ha] at hv
      simp only [Option.map_some] at hv
      obtain ⟨r1, r2⟩ := hB.room b0 ha
      rw [hv] at hx
      by_cases hroom : xs.length + 1 ≤ L
      · refine RR.apRoom (mk := Value.int .i32) (N' := L) Try.underlying28 info21 one_i32 hx hy r1 r2 hroom hroom hsrc hN ?_
        refine hK _ _ ⟨hB.nil, hB.low, by rw [size_setCells']; exact hB.bsz, fun b0' hb => ?_, .inl ⟨by rw [hl]; exact hroom, by rw [hl, ha]; rfl⟩⟩ ?_
        · have : b0' = b0 := by rw [ha] at hb; injection hb with hb; exact hb.symm
          subst this
          refine ⟨?_, r2.setCells⟩
          refine (r1.v.setCells (p := xs.length) (m := 1) (f' := fun _ => n) hroom).congr (fun i hi => ?_)
          simp only [hl, getD_snoc]
          by_cases h1 : i < xs.length
          · rw [if_neg (by omega), if_pos h1, if_pos (by omega), if_pos h1]
          · by_cases h2 : i = xs.length
            · rw [if_pos (by omega), if_pos (by omega), if_neg h1, if_pos h2]
            · rw [if_neg (by omega), if_neg h1, if_neg (by omega)]
        · exact (Touch.setCells _ _ _ _).mono (fun b' o' _ hS => .inl (by rw [hS.1, ha]))
      · have hL : L = xs.length := by omega
        refine RR.apGrow (mk := Value.int .i32) (za := (0 : Int)) (f := fun i => if i < xs.length then xs.getD i 0 else s0 i) Try.underlying28 info21 rfl rfl hx hy (r1.v.take (by omega)) (by omega) (by omega) (by omega) hsrc hN (fun c arr hc harr => ?_)
        have := grown c arr hc (by omega) (fun i hi => by
          rw [harr i hi]
          have := hcont (fun i => if i < xs.length then xs.getD i 0 else s0 i) (fun i hi => by simp only [if_pos hi]) i
          rw [← this])
        rw [ha] at this touchNew hK
        exact hK _ _ this (touchNew arr)
  · rw [hv] at hx
    by_cases hroom : xs.length + 1 ≤ cap
    · refine RR.apRoom (mk := Value.int .i32) (N' := cap) Try.underlying28 info21 one_i32 hx hy hs1 hw1 hroom hroom hsrc hN ?_
      refine hK _ _ ⟨hB.nil, hB.low, by rw [size_setCells']; exact hB.bsz, fun b0 hb => ?_, .inr ⟨by rw [hl]; omega, b1, cap, fun i => if xs.length ≤ i ∧ i < xs.length + 1 then n else h i, by rw [hl], by rw [hl]; omega, hb1, (hs1.v.setCells (p := xs.length) (m := 1) (f' := fun _ => n) hroom).ii, hw1.setCells, fun i hi => ?_⟩⟩ ?_
      · obtain ⟨r1, r2⟩ := hB.room b0 hb
        have hlow := hB.low b0 hb
        refine ⟨?_, r2.setCells⟩
        refine (r1.v.setCells_ne (fun i _ hS => by have := hS.1; omega)).congr (fun i hi => ?_)
        simp only [hl, getD_snoc]
        rw [if_pos (by omega), if_pos (by omega), if_pos (by omega)]
      · rw [hl] at hi
        rw [getD_snoc]
        show (if xs.length ≤ i ∧ i < xs.length + 1 then n else h i) = _
        by_cases h1 : i < xs.length
        · rw [if_pos h1, if_neg (by omega)]
          exact hh i h1
        · have h2 : i = xs.length := by omega
          rw [if_neg h1, if_pos h2, if_pos (by omega)]
      · exact (Touch.setCells _ _ _ _).mono (fun b' o' _ hS => .inr (by rw [hS.1]; exact hb1))
    · refine RR.apGrow (mk := Value.int .i32) (za := (0 : Int)) (f := h) Try.underlying28 info21 rfl rfl hx hy (hs1.v.take (by omega)) (by omega) (by omega) (by omega) hsrc hN (fun c arr hc harr => ?_)
      exact hK _ _ (grown c arr hc (by omega) (fun i hi => by
        rw [harr i hi]
        have := hcont h hh i
        rw [← this])) (touchNew arr)
end

end Go.Proofs.Qxb6602663a.Vc
