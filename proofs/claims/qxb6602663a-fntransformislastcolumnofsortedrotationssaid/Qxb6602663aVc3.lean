/-
  A region that draws its order and ends in operations that come last (a store).
-/
import Derived.Test.Qxb6602663aVc2
import Derived.StillTail
namespace Go.Proofs.Qxb6602663a.Vc
open Go.RowKit
set_option linter.unusedVariables false
set_option linter.unusedSimpArgs false

/-- The first operations, all pure, in a region that draws; the rest comes behind them. -/
structure RS (N : Nat) (ops : Array Oper) (k : Nat) (rest : List Oper) (E : Env) (w : World) (K : List Oper → Env → Prop) : Prop where
  out : ∀ (a : Act) (n : Nat), Has N a E → wpStill Try.prog ops (w.drewN n) (fun a' => ∃ E', Has N a' E' ∧ K (rest.drop k) E') (rest.take k) a

section
variable {N : Nat} {ops : Array Oper} {k : Nat} {rest : List Oper} {E : Env} {w : World} {K : List Oper → Env → Prop}

theorem RS.nil (h : K rest E) : RS N ops 0 rest E w K :=
  ⟨fun a n ha => by
    show wpStill Try.prog ops (w.drewN n) _ [] a
    exact wpStill_nil ⟨E, ha, h⟩⟩

theorem RS.step {o : Oper} {d : Nat} {v : Value} (hdst : o.dst = some d) (hN : d < N)
    (hw : ∀ a, Has N a E → Region.wanted o (yielded ops a.tmps) = true) (hp : PV o E w v) (hk : RS N ops k rest ((d, v) :: E) w K) : RS N ops (k + 1) (o :: rest) E w K := by
  constructor
  intro a n ha
  show wpStill Try.prog ops (w.drewN n) _ (o :: rest.take k) a
  have hr := hp.run a.eval n (fun x u hx => ha.ev hx)
  refine wpStill_step fun K' hK' => ?_
  rw [if_pos (hw a ha)]
  unfold Oper.still
  rw [hr]
  refine ⟨rfl, hK' _ ?_⟩
  rw [hdst]
  exact hk.out _ n (ha.put hN v)

theorem RS.pv {op : Op} {ty : TypeId} {ps : String} {af : Array Edge} {d : Nat} {v : Value} (hp : PV ⟨some d, op, ty, ps, af, none⟩ E w v) (hN : Nat.blt d N = true)
    (hk : RS N ops k rest ((d, v) :: E) w K) : RS N ops (k + 1) (⟨some d, op, ty, ps, af, none⟩ :: rest) E w K :=
  RS.step rfl (Nat.le_of_ble_eq_true hN) (fun a ha => by simp [Region.wanted]) hp hk

theorem RS.gy {op : Op} {ty : TypeId} {ps : String} {af : Array Edge} {d j t : Nat} {want : Bool} {v : Value} (hj : (ops[j]?).bind (·.dst) = some t) (hl : look E t = some (.bool want))
    (hp : PV ⟨some d, op, ty, ps, af, some (j, want)⟩ E w v) (hN : Nat.blt d N = true)
    (hk : RS N ops k rest ((d, v) :: E) w K) : RS N ops (k + 1) (⟨some d, op, ty, ps, af, some (j, want)⟩ :: rest) E w K :=
  RS.step rfl (Nat.le_of_ble_eq_true hN) (fun a ha => by rw [wanted_of ha hj hl]; simp) hp hk

theorem RS.skip {o : Oper} {d : Nat} (hdst : o.dst = some d) (hN : d < N) (hw : ∀ a, Has N a E → Region.wanted o (yielded ops a.tmps) = false)
    (hk : RS N ops k rest ((d, undef) :: E) w K) : RS N ops (k + 1) (o :: rest) E w K := by
  constructor
  intro a n ha
  show wpStill Try.prog ops (w.drewN n) _ (o :: rest.take k) a
  refine wpStill_step fun K' hK' => ?_
  rw [if_neg (by rw [hw a ha]; simp)]
  refine hK' _ ?_
  rw [hdst]
  exact hk.out _ n (ha.put hN _)

theorem RS.gn {op : Op} {ty : TypeId} {ps : String} {af : Array Edge} {d j t : Nat} {want b : Bool} (hj : (ops[j]?).bind (·.dst) = some t) (hl : look E t = some (.bool b)) (hne : (b == want) = false)
    (hN : Nat.blt d N = true) (hk : RS N ops k rest ((d, undef) :: E) w K) : RS N ops (k + 1) (⟨some d, op, ty, ps, af, some (j, want)⟩ :: rest) E w K :=
  RS.skip rfl (Nat.le_of_ble_eq_true hN) (fun a ha => by rw [wanted_of ha hj hl]; exact hne) hk
end

/-- A guard that was itself passed over. -/
theorem wanted_undef {N : Nat} {ops : Array Oper} {E : Env} {j : Nat} {want : Bool} {op : Op} {ty : TypeId} {ps : String} {af : Array Edge} {dst : Option Nat} {t : Nat} {a : Act} (ha : Has N a E)
    (hj : (ops[j]?).bind (·.dst) = some t) (hl : look E t = some undef) :
    Region.wanted ⟨dst, op, ty, ps, af, some (j, want)⟩ (yielded ops a.tmps) = false := by
  obtain ⟨h1, h2⟩ := ha.val t _ hl
  have h3 : a.tmps[t]? = some undef := by
    rw [← ha.size] at h1
    rw [Array.getElem?_eq_getElem h1]
    simp [h1] at h2
    rw [h2]
  simp [Region.wanted, yielded, hj, h3, undef]

theorem RS.gu {N : Nat} {ops : Array Oper} {k : Nat} {rest : List Oper} {E : Env} {w : World} {K : List Oper → Env → Prop} {op : Op} {ty : TypeId} {ps : String} {af : Array Edge} {d j t : Nat} {want : Bool} (hj : (ops[j]?).bind (·.dst) = some t) (hl : look E t = some undef)
    (hN : Nat.blt d N = true) (hk : RS N ops k rest ((d, undef) :: E) w K) : RS N ops (k + 1) (⟨some d, op, ty, ps, af, some (j, want)⟩ :: rest) E w K :=
  RS.skip rfl (Nat.le_of_ble_eq_true hN) (fun a ha => wanted_undef ha hj hl) hk
theorem RR.gu {q : Bool} {N : Nat} {ops : Array Oper} {rest : List Oper} {E : Env} {w : World} {K : Env → World → Prop} {op : Op} {ty : TypeId} {ps : String} {af : Array Edge} {d j t : Nat} {want : Bool} (hj : (ops[j]?).bind (·.dst) = some t) (hl : look E t = some undef)
    (hN : Nat.blt d N = true) (hk : RR q N ops rest ((d, undef) :: E) w K) : RR q N ops (⟨some d, op, ty, ps, af, some (j, want)⟩ :: rest) E w K :=
  RR.skip rfl (Nat.le_of_ble_eq_true hN) (fun a ha => wanted_undef ha hj hl) hk

theorem CC.regionT {N : Nat} {E : Env} {w : World} {Q : Exit → Env → World → Prop} {id : Nat} {l : List Oper} (k : Nat) (hB : Region.lexTailB .any l.toArray k = true)
    (h : RS N l.toArray k l E w (fun rest E' => RR false N l.toArray rest E' w (fun E'' w'' => Q .normal E'' w''))) : CC N (.region id l.toArray true) E w Q := by
  constructor
  intro a n ha
  refine wp_region_still_tail k follows_mixed hB ?_
  have h1 := h.out a (n + 1) ha
  have mono : ∀ (l : List Oper) (a : Act) (ops : Array Oper) (w : World) (R R' : Act → Prop), (∀ a, R a → R' a) → wpStill Try.prog ops w R l a → wpStill Try.prog ops w R' l a := by
    intro l
    induction l with
    | nil => intro a ops w R R' hR h; exact hR _ h
    | cons o l ih =>
      intro a ops w R R' hR h
      unfold wpStill at h ⊢
      split
      · rename_i hw
        rw [if_pos hw] at h
        exact Oper.still_mono (fun a h => ih a ops w R R' hR h) h
      · rename_i hw
        rw [if_neg hw] at h
        exact ih _ ops w R R' hR h
  refine mono _ a l.toArray _ _ _ ?_ h1
  rintro a' ⟨E', h2, h3⟩
  exact h3.out a' (n + 1) _ h2 (fun a'' E'' w'' m h4 h5 => ⟨E'', w'', m, h4, rfl, h5⟩)

end Go.Proofs.Qxb6602663a.Vc
