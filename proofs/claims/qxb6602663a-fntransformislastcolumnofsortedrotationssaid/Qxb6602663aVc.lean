/-
  A small proof frame over the kit's 'Code.wp' for the program of this seat: the frame's slots as an association list (newest first), worlds up to draws, one rule an operation.
-/
import Derived.Test.Qxb6602663aRows
import Derived.WalkKit
import Derived.WalkSpells
import Derived.WalkLawsBesides
import Derived.Deep.Quiet
import Derived.Deep.LoopGhost
namespace Go.Proofs.Qxb6602663a.Vc
open Go.RowKit
set_option linter.unusedVariables false
set_option linter.unusedSimpArgs false

/-! ### Slots -/
abbrev Env := List (Nat × Value)

def look : Env → Nat → Option Value
  | [], _ => none
  | (s, v) :: r, t => bif Nat.beq s t then some v else look r t

def ev (E : Env) : Operand → Option Value
  | .tmp t => look E t
  | .const v => some v
  | .global g => some (.pointer (some ⟨g, 0, none⟩))
  | .func f => some (.func (.func f) #[] #[])

def evL (E : Env) : List Operand → Option (List Value)
  | [] => some []
  | x :: r => match ev E x, evL E r with
    | some v, some vs => some (v :: vs)
    | _, _ => none

structure Has (N : Nat) (a : Act) (E : Env) : Prop where
  size : a.tmps.size = N
  defers : a.defers = []
  val : ∀ s v, look E s = some v → s < N ∧ a.tmps.getD s undef = v

theorem Has.ev {N : Nat} {a : Act} {E : Env} (h : Has N a E) {x : Operand} {v : Value} (hx : Vc.ev E x = some v) : a.eval x = v := by
  cases x with
  | tmp t => exact (h.val t v hx).2
  | const u => simpa [Vc.ev, Act.eval] using hx
  | global g => simpa [Vc.ev, Act.eval] using hx
  | func f => simpa [Vc.ev, Act.eval] using hx

theorem Has.put {N : Nat} {a : Act} {E : Env} (h : Has N a E) {d : Nat} (hd : d < N) (v : Value) : Has N (a.put (some d) v) ((d, v) :: E) := by
  refine ⟨by simp [Act.put, h.size], by simp [Act.put, h.defers], fun s u hs => ?_⟩
  simp only [look] at hs
  by_cases e : d = s
  · subst e
    simp at hs
    subst hs
    refine ⟨hd, ?_⟩
    simp [Act.put, h.size, hd]
  · have e' : Nat.beq d s = false := by
      cases hb : Nat.beq d s with
      | false => rfl
      | true => exact absurd (Nat.eq_of_beq_eq_true hb) e
    simp only [e', cond_false] at hs
    refine ⟨(h.val s u hs).1, ?_⟩
    rw [← (h.val s u hs).2]
    simp [Act.put, Array.getD_eq_getD_getElem?, Array.getElem?_setIfInBounds, e]

theorem Has.put_none {N : Nat} {a : Act} {E : Env} (h : Has N a E) (v : Value) : Has N (a.put none v) E := h

/-- Every binding of F holds in E. -/
def Sub (E : Env) : Env → Prop
  | [] => True
  | (s, v) :: r => look E s = some v ∧ Sub E r

theorem Sub.look {E F : Env} (h : Sub E F) : ∀ s v, look F s = some v → Vc.look E s = some v := by
  induction F with
  | nil => intro s v hs; simp [Vc.look] at hs
  | cons p r ih =>
    intro s v hs
    obtain ⟨p1, p2⟩ := p
    simp only [Vc.look] at hs
    cases hb : Nat.beq p1 s with
    | true =>
      rw [hb] at hs
      simp at hs
      have := Nat.eq_of_beq_eq_true hb
      rw [← this, ← hs]
      exact h.1
    | false =>
      rw [hb] at hs
      exact ih h.2 s v hs

theorem Has.sub {N : Nat} {a : Act} {E F : Env} (h : Has N a E) (hs : Sub E F) : Has N a F :=
  ⟨h.size, h.defers, fun s v hv => h.val s v (hs.look s v hv)⟩

/-! ### One operation that only computes -/
structure PV (o : Oper) (E : Env) (w : World) (v : Value) : Prop where
  run : ∀ (ρ : Operand → Value) (n : Nat), (∀ x u, ev E x = some u → ρ x = u) → (execOp ρ o).run Try.prog (w.drewN n) = .ok (.value v) (w.drewN n)

/-! ### The operations of a region that are left: 'q': a region that draws its order -/
def RRD (q : Bool) (N : Nat) (ops : Array Oper) (rest : List Oper) (E : Env) (w : World) (K : Env → World → Prop) : Prop :=
  bif q then
    ∀ (a : Act), Has N a E → wpQuiet Try.prog ops (fun w' => ∃ m, w' = w.drewN m) (fun a' => ∃ E', Has N a' E' ∧ K E' w) rest a
  else
    ∀ (a : Act) (n : Nat) (Q : Exit → Act → World → Prop), Has N a E → (∀ a' E' w' m, Has N a' E' → K E' w' → Q .normal a' (w'.drewN m)) → wpList Try.prog ops Q rest a (w.drewN n)

structure RR (q : Bool) (N : Nat) (ops : Array Oper) (rest : List Oper) (E : Env) (w : World) (K : Env → World → Prop) : Prop where
  out : RRD q N ops rest E w K

section
variable {q : Bool} {N : Nat} {ops : Array Oper} {rest : List Oper} {E : Env} {w : World} {K : Env → World → Prop}

theorem RR.nil (h : K E w) : RR q N ops [] E w K := by
  constructor
  cases q
  · intro a n Q ha hQ
    exact wpList_nil (hQ a E w n ha h)
  · intro a ha
    exact wpQuiet_nil ⟨E, ha, h⟩

theorem RR.mono {K' : Env → World → Prop} (h : RR q N ops rest E w K) (hk : ∀ E' w', K E' w' → K' E' w') : RR q N ops rest E w K' := by
  constructor
  cases q
  · intro a n Q ha hQ
    exact h.out a n Q ha (fun a' E' w' m ha' hK => hQ a' E' w' m ha' (hk _ _ hK))
  · intro a ha
    have h1 := h.out a ha
    have mono : ∀ (l : List Oper) (a : Act) (R R' : Act → Prop), (∀ a, R a → R' a) → wpQuiet Try.prog ops (fun w' => ∃ m, w' = w.drewN m) R l a → wpQuiet Try.prog ops (fun w' => ∃ m, w' = w.drewN m) R' l a := by
      intro l
      induction l with
      | nil => intro a R R' hR h; exact hR _ h
      | cons o l ih =>
        intro a R R' hR h
        unfold wpQuiet at h ⊢
        split
        · rename_i hw
          rw [if_pos hw] at h
          exact Oper.quiet_mono (fun a h => ih a R R' hR h) h
        · rename_i hw
          rw [if_neg hw] at h
          exact ih _ R R' hR h
    exact mono rest a _ _ (fun a' ⟨E', h1, h2⟩ => ⟨E', h1, hk _ _ h2⟩) h1

theorem wanted_of {j : Nat} {want : Bool} {op : Op} {ty : TypeId} {ps : String} {af : Array Edge} {dst : Option Nat} {t : Nat} {b : Bool} {a : Act} (ha : Has N a E)
    (hj : (ops[j]?).bind (·.dst) = some t) (hl : look E t = some (.bool b)) :
    Region.wanted ⟨dst, op, ty, ps, af, some (j, want)⟩ (yielded ops a.tmps) = (b == want) := by
  obtain ⟨h1, h2⟩ := ha.val t _ hl
  have h3 : a.tmps[t]? = some (.bool b) := by
    rw [← ha.size] at h1
    rw [Array.getElem?_eq_getElem h1]
    simp [h1] at h2
    rw [h2]
  simp [Region.wanted, yielded, hj, h3]

/-- The step law behind all pure operations. -/
theorem RR.step {o : Oper} {d : Nat} {v : Value} (hdst : o.dst = some d) (hN : d < N)
    (hw : ∀ a, Has N a E → Region.wanted o (yielded ops a.tmps) = true) (hp : PV o E w v) (hk : RR q N ops rest ((d, v) :: E) w K) : RR q N ops (o :: rest) E w K := by
  constructor
  cases q
  · intro a n Q ha hQ
    have hr := hp.run a.eval n (fun x u hx => ha.ev hx)
    refine wpList_step fun K' hK' => ?_
    rw [if_pos (hw a ha)]
    unfold Oper.wp
    rw [hr]
    show K' (a.put o.dst v) _
    refine hK' _ _ ?_
    rw [hdst]
    exact hk.out _ n Q (ha.put hN v) hQ
  · intro a ha
    refine wpQuiet_step fun K' hK' => ?_
    rw [if_pos (hw a ha)]
    refine ⟨v, ?_, hK' _ ?_⟩
    · rintro w1 ⟨m, rfl⟩
      have hr := hp.run a.eval m (fun x u hx => ha.ev hx)
      unfold Oper.quietAt
      rw [hr]
      exact ⟨rfl, rfl⟩
    · rw [hdst]
      exact hk.out _ (ha.put hN v)

theorem RR.pv {op : Op} {ty : TypeId} {ps : String} {af : Array Edge} {d : Nat} {v : Value} (hp : PV ⟨some d, op, ty, ps, af, none⟩ E w v) (hN : Nat.blt d N = true)
    (hk : RR q N ops rest ((d, v) :: E) w K) : RR q N ops (⟨some d, op, ty, ps, af, none⟩ :: rest) E w K :=
  RR.step rfl (Nat.le_of_ble_eq_true hN) (fun a ha => by simp [Region.wanted]) hp hk

theorem RR.gy {op : Op} {ty : TypeId} {ps : String} {af : Array Edge} {d j t : Nat} {want : Bool} {v : Value} (hj : (ops[j]?).bind (·.dst) = some t) (hl : look E t = some (.bool want))
    (hp : PV ⟨some d, op, ty, ps, af, some (j, want)⟩ E w v) (hN : Nat.blt d N = true)
    (hk : RR q N ops rest ((d, v) :: E) w K) : RR q N ops (⟨some d, op, ty, ps, af, some (j, want)⟩ :: rest) E w K :=
  RR.step rfl (Nat.le_of_ble_eq_true hN) (fun a ha => by rw [wanted_of ha hj hl]; simp) hp hk

theorem RR.skip {o : Oper} {d : Nat} (hdst : o.dst = some d) (hN : d < N) (hw : ∀ a, Has N a E → Region.wanted o (yielded ops a.tmps) = false)
    (hk : RR q N ops rest ((d, undef) :: E) w K) : RR q N ops (o :: rest) E w K := by
  constructor
  cases q
  · intro a n Q ha hQ
    refine wpList_step fun K' hK' => ?_
    rw [if_neg (by rw [hw a ha]; simp)]
    refine hK' _ _ ?_
    rw [hdst]
    exact hk.out _ n Q (ha.put hN _) hQ
  · intro a ha
    refine wpQuiet_step fun K' hK' => ?_
    rw [if_neg (by rw [hw a ha]; simp)]
    refine hK' _ ?_
    rw [hdst]
    exact hk.out _ (ha.put hN _)

theorem RR.gn {op : Op} {ty : TypeId} {ps : String} {af : Array Edge} {d j t : Nat} {want b : Bool} (hj : (ops[j]?).bind (·.dst) = some t) (hl : look E t = some (.bool b)) (hne : (b == want) = false)
    (hN : Nat.blt d N = true) (hk : RR q N ops rest ((d, undef) :: E) w K) : RR q N ops (⟨some d, op, ty, ps, af, some (j, want)⟩ :: rest) E w K :=
  RR.skip rfl (Nat.le_of_ble_eq_true hN) (fun a ha => by rw [wanted_of ha hj hl]; exact hne) hk

/-- Forget bindings. -/
theorem RR.keep {F : Env} (hs : Sub E F) (h : RR q N ops rest F w K) : RR q N ops rest E w K := by
  constructor
  cases q
  · intro a n Q ha hQ
    exact h.out a n Q (ha.sub hs) hQ
  · intro a ha
    exact h.out a (ha.sub hs)

/-- An operation that turns the world: the result of the run as given. -/
theorem RR.act {op : Op} {ty : TypeId} {ps : String} {af : Array Edge} {d : Nat} (hN : Nat.blt d N = true)
    (h : ∀ (ρ : Operand → Value) (n : Nat), (∀ x u, ev E x = some u → ρ x = u) →
      ∃ v w' m, (execOp ρ ⟨some d, op, ty, ps, af, none⟩).run Try.prog (w.drewN n) = .ok (.value v) (w'.drewN m) ∧ RR false N ops rest ((d, v) :: E) w' K) :
    RR false N ops (⟨some d, op, ty, ps, af, none⟩ :: rest) E w K := by
  constructor
  intro a n Q ha hQ
  obtain ⟨v, w', m, hr, hk⟩ := h a.eval n (fun x u hx => ha.ev hx)
  refine wpList_step fun K' hK' => ?_
  rw [if_pos (by simp [Region.wanted])]
  unfold Oper.wp
  rw [hr]
  show K' (a.put (some d) v) _
  refine hK' _ _ ?_
  exact hk.out _ m Q (ha.put (Nat.le_of_ble_eq_true hN) v) hQ

/-- A store. -/
theorem RR.actS {op : Op} {ty : TypeId} {ps : String} {af : Array Edge} {w' : World}
    (h : ∀ (ρ : Operand → Value) (n : Nat), (∀ x u, ev E x = some u → ρ x = u) → (execOp ρ ⟨none, op, ty, ps, af, none⟩).run Try.prog (w.drewN n) = .ok .skip (w'.drewN n))
    (hk : RR false N ops rest E w' K) :
    RR false N ops (⟨none, op, ty, ps, af, none⟩ :: rest) E w K := by
  constructor
  intro a n Q ha hQ
  have hr := h a.eval n (fun x u hx => ha.ev hx)
  refine wpList_step fun K' hK' => ?_
  rw [if_pos (by simp [Region.wanted])]
  unfold Oper.wp
  rw [hr]
  show K' (a.put none undef) _
  refine hK' _ _ ?_
  exact hk.out _ n Q (ha.put_none undef) hQ
end

/-! ### Calls -/
structure FF (f : FuncId) (args : Array Value) (w : World) (Post : Value → World → Prop) : Prop where
  out : ∀ n, Calls Try.prog f args (w.drewN n) (fun e w' => ∃ v w1 m, e = .returned v ∧ w' = w1.drewN m ∧ Post v w1)

theorem FF.mono {f : FuncId} {args : Array Value} {w : World} {Post Post' : Value → World → Prop} (h : FF f args w Post) (hp : ∀ v w', Post v w' → Post' v w') : FF f args w Post' :=
  ⟨fun n => (h.out n).mono fun e w' ⟨v, w1, m, h1, h2, h3⟩ => ⟨v, w1, m, h1, h2, hp _ _ h3⟩⟩

/-- The result of the run of a call. -/
theorem evL_map {E : Env} {ρ : Operand → Value} (hρ : ∀ x u, ev E x = some u → ρ x = u) : ∀ (l : List Operand) (vs : List Value), evL E l = some vs → l.map ρ = vs
  | [], vs, h => by simp [evL] at h; simp [h]
  | x :: r, vs, h => by
    simp only [evL] at h
    cases hx : ev E x with
    | none => rw [hx] at h; simp at h
    | some v =>
      cases hr : evL E r with
      | none => rw [hx, hr] at h; simp at h
      | some us =>
        rw [hx, hr] at h
        simp at h
        subst h
        simp [hρ x v hx, evL_map hρ r us hr]

theorem run_call {ρ : Operand → Value} {dst : Option Nat} {f : FuncId} {fn : Func} {l : List Operand} {at_ : Array TypeId} {ty : TypeId} {ps : String} {af : Array Edge} {g : Option (Nat × Bool)} {vs : List Value} {w : World}
    (hf : Try.prog.funcs[f]? = some fn) (hname : (fn.name == "runtime.NumGoroutine") = false) (hbody : fn.body.isNone = false)
    (hfun : ρ (.func f) = .func (.func f) #[] #[]) (hl : l.map ρ = vs) :
    (execOp ρ ⟨dst, .call { callee := .value (.func f), args := l.toArray, argTypes := at_ }, ty, ps, af, g⟩).run Try.prog w = .ok (.enter f vs.toArray) w := by
  have h1 : (callFunc f vs.toArray).run Try.prog w = .ok (.enter f vs.toArray) w := by
    have hn' : ¬ fn.name = "runtime.NumGoroutine" := by simpa using hname
    have hb' : ¬ fn.body = none := by
      intro e
      rw [e] at hbody
      simp at hbody
    simp [callFunc, go_sem, hf, hn', hb']
  have h2 : execOp ρ ⟨dst, .call { callee := .value (.func f), args := l.toArray, argTypes := at_ }, ty, ps, af, g⟩ = callFunc f vs.toArray := by
    simp only [execOp, resolve, hfun, Deferred.ofValue]
    show callFunc f (((#[] : Array Value) ++ (l.toArray.map ρ)) ++ #[]) = _
    simp [hl]
  rw [h2, h1]

section
variable {N : Nat} {ops : Array Oper} {rest : List Oper} {E : Env} {w : World} {K : Env → World → Prop}

theorem RR.call {f : FuncId} {fn : Func} {l : List Operand} {at_ : Array TypeId} {ty : TypeId} {ps : String} {af : Array Edge} {d : Nat} {vs : List Value} {Post : Value → World → Prop}
    (hf : Try.prog.funcs[f]? = some fn) (hname : (fn.name == "runtime.NumGoroutine") = false) (hbody : fn.body.isNone = false)
    (hl : evL E l = some vs) (hF : FF f vs.toArray w Post) (hN : Nat.blt d N = true)
    (hk : ∀ v w', Post v w' → RR false N ops rest ((d, v) :: E) w' K) :
    RR false N ops (⟨some d, .call { callee := .value (.func f), args := l.toArray, argTypes := at_ }, ty, ps, af, none⟩ :: rest) E w K := by
  constructor
  intro a n Q ha hQ
  have hr := run_call (ρ := a.eval) (dst := some d) (at_ := at_) (ty := ty) (ps := ps) (af := af) (g := none) (w := w.drewN n) hf hname hbody rfl (evL_map (fun x u hx => ha.ev hx) l vs hl)
  refine wpList_step fun K' hK' => ?_
  rw [if_pos (by simp [Region.wanted])]
  unfold Oper.wp
  rw [hr]
  show Calls Try.prog f vs.toArray (w.drewN n) _
  refine (hF.out n).mono ?_
  rintro e w' ⟨v, w1, m, rfl, rfl, hP⟩
  refine hK' _ _ ?_
  exact (hk v w1 hP).out _ m Q (ha.put (Nat.le_of_ble_eq_true hN) v) hQ

theorem RR.callN {f : FuncId} {fn : Func} {l : List Operand} {at_ : Array TypeId} {ty : TypeId} {ps : String} {af : Array Edge} {vs : List Value} {Post : Value → World → Prop}
    (hf : Try.prog.funcs[f]? = some fn) (hname : (fn.name == "runtime.NumGoroutine") = false) (hbody : fn.body.isNone = false)
    (hl : evL E l = some vs) (hF : FF f vs.toArray w Post)
    (hk : ∀ v w', Post v w' → RR false N ops rest E w' K) :
    RR false N ops (⟨none, .call { callee := .value (.func f), args := l.toArray, argTypes := at_ }, ty, ps, af, none⟩ :: rest) E w K := by
  constructor
  intro a n Q ha hQ
  have hr := run_call (ρ := a.eval) (dst := none) (at_ := at_) (ty := ty) (ps := ps) (af := af) (g := none) (w := w.drewN n) hf hname hbody rfl (evL_map (fun x u hx => ha.ev hx) l vs hl)
  refine wpList_step fun K' hK' => ?_
  rw [if_pos (by simp [Region.wanted])]
  unfold Oper.wp
  rw [hr]
  show Calls Try.prog f vs.toArray (w.drewN n) _
  refine (hF.out n).mono ?_
  rintro e w' ⟨v, w1, m, rfl, rfl, hP⟩
  refine hK' _ _ ?_
  exact (hk v w1 hP).out _ m Q (ha.put_none v) hQ

/-- A call that only reads, in a region that draws or not, guarded or not. -/
theorem RR.callQ {q : Bool} {f : FuncId} {fn : Func} {l : List Operand} {at_ : Array TypeId} {ty : TypeId} {ps : String} {af : Array Edge} {d : Nat} {g : Option (Nat × Bool)} {vs : List Value} {v : Value}
    (hw : ∀ a, Has N a E → Region.wanted ⟨some d, .call { callee := .value (.func f), args := l.toArray, argTypes := at_ }, ty, ps, af, g⟩ (yielded ops a.tmps) = true)
    (hf : Try.prog.funcs[f]? = some fn) (hname : (fn.name == "runtime.NumGoroutine") = false) (hbody : fn.body.isNone = false)
    (hl : evL E l = some vs) (hF : FF f vs.toArray w (fun v' w' => v' = v ∧ w' = w)) (hN : Nat.blt d N = true)
    (hk : RR q N ops rest ((d, v) :: E) w K) :
    RR q N ops (⟨some d, .call { callee := .value (.func f), args := l.toArray, argTypes := at_ }, ty, ps, af, g⟩ :: rest) E w K := by
  constructor
  cases q
  · intro a n Q ha hQ
    have hr := run_call (ρ := a.eval) (dst := some d) (at_ := at_) (ty := ty) (ps := ps) (af := af) (g := g) (w := w.drewN n) hf hname hbody rfl (evL_map (fun x u hx => ha.ev hx) l vs hl)
    refine wpList_step fun K' hK' => ?_
    rw [if_pos (hw a ha)]
    unfold Oper.wp
    rw [hr]
    show Calls Try.prog f vs.toArray (w.drewN n) _
    refine (hF.out n).mono ?_
    rintro e w' ⟨v', w1, m, rfl, rfl, rfl, rfl⟩
    refine hK' _ _ ?_
    exact hk.out _ m Q (ha.put (Nat.le_of_ble_eq_true hN) v') hQ
  · intro a ha
    refine wpQuiet_step fun K' hK' => ?_
    rw [if_pos (hw a ha)]
    refine ⟨v, ?_, hK' _ ?_⟩
    · rintro w1 ⟨m, rfl⟩
      have hr := run_call (ρ := a.eval) (dst := some d) (at_ := at_) (ty := ty) (ps := ps) (af := af) (g := g) (w := w.drewN m) hf hname hbody rfl (evL_map (fun x u hx => ha.ev hx) l vs hl)
      unfold Oper.quietAt
      rw [hr]
      refine ⟨rfl, ?_⟩
      refine (hF.out m).mono ?_
      rintro e w' ⟨v', w1, m', rfl, rfl, rfl, rfl⟩
      exact ⟨rfl, m', rfl⟩
    · exact hk.out _ (ha.put (Nat.le_of_ble_eq_true hN) v)

theorem RR.callG {q : Bool} {f : FuncId} {fn : Func} {l : List Operand} {at_ : Array TypeId} {ty : TypeId} {ps : String} {af : Array Edge} {d j t : Nat} {want : Bool} {vs : List Value} {v : Value}
    (hj : (ops[j]?).bind (·.dst) = some t) (hl' : look E t = some (.bool want))
    (hf : Try.prog.funcs[f]? = some fn) (hname : (fn.name == "runtime.NumGoroutine") = false) (hbody : fn.body.isNone = false)
    (hl : evL E l = some vs) (hF : FF f vs.toArray w (fun v' w' => v' = v ∧ w' = w)) (hN : Nat.blt d N = true)
    (hk : RR q N ops rest ((d, v) :: E) w K) :
    RR q N ops (⟨some d, .call { callee := .value (.func f), args := l.toArray, argTypes := at_ }, ty, ps, af, some (j, want)⟩ :: rest) E w K :=
  RR.callQ (fun a ha => by rw [wanted_of ha hj hl']; simp) hf hname hbody hl hF hN hk

theorem RR.callP {q : Bool} {f : FuncId} {fn : Func} {l : List Operand} {at_ : Array TypeId} {ty : TypeId} {ps : String} {af : Array Edge} {d : Nat} {vs : List Value} {v : Value}
    (hf : Try.prog.funcs[f]? = some fn) (hname : (fn.name == "runtime.NumGoroutine") = false) (hbody : fn.body.isNone = false)
    (hl : evL E l = some vs) (hF : FF f vs.toArray w (fun v' w' => v' = v ∧ w' = w)) (hN : Nat.blt d N = true)
    (hk : RR q N ops rest ((d, v) :: E) w K) :
    RR q N ops (⟨some d, .call { callee := .value (.func f), args := l.toArray, argTypes := at_ }, ty, ps, af, none⟩ :: rest) E w K :=
  RR.callQ (fun a ha => by simp [Region.wanted]) hf hname hbody hl hF hN hk
end

/-! ### Code -/
structure CC (N : Nat) (c : Code) (E : Env) (w : World) (Q : Exit → Env → World → Prop) : Prop where
  out : ∀ (a : Act) (n : Nat), Has N a E → c.wp Try.prog (fun e a' w' => ∃ E' w1 m, Has N a' E' ∧ w' = World.drewN w1 m ∧ Q e E' w1) a (w.drewN n)

def thenQ (next : Env → World → Prop) (Q : Exit → Env → World → Prop) : Exit → Env → World → Prop
  | .normal, E, w => next E w
  | .exit i, E, w => Q (.exit i) E w
  | .goto i, E, w => Q (.goto i) E w
  | .ret, E, w => Q .ret E w
  | .panic c, E, w => Q (.panic c) E w
  | .outgrown, E, w => Q .outgrown E w

def blockQ (id : Nat) (Q : Exit → Env → World → Prop) : Exit → Env → World → Prop
  | .normal, E, w => Q .normal E w
  | .exit i, E, w => bif Nat.beq i id then Q .normal E w else Q (.exit i) E w
  | .goto i, E, w => Q (.goto i) E w
  | .ret, E, w => Q .ret E w
  | .panic c, E, w => Q (.panic c) E w
  | .outgrown, E, w => Q .outgrown E w

theorem follows_mixed : Try.prog.follows .mixedOrders = true := by kernel_rfl

section
variable {N : Nat} {E : Env} {w : World} {Q : Exit → Env → World → Prop}

theorem CC.mono {c : Code} {Q' : Exit → Env → World → Prop} (h : CC N c E w Q) (hq : ∀ e E' w', Q e E' w' → Q' e E' w') : CC N c E w Q' :=
  ⟨fun a n ha => wp_mono (h.out a n ha) fun e a' w' ⟨E', w1, m, h1, h2, h3⟩ => ⟨E', w1, m, h1, h2, hq _ _ _ h3⟩⟩

theorem CC.keep {c : Code} {F : Env} (hs : Sub E F) (h : CC N c F w Q) : CC N c E w Q := ⟨fun a n ha => h.out a n (ha.sub hs)⟩

theorem CC.skip (h : Q .normal E w) : CC N .skip E w Q := ⟨fun a n ha => wp_skip ⟨E, w, n, ha, rfl, h⟩⟩
theorem CC.label {l : Nat} (h : Q .normal E w) : CC N (.label l) E w Q := ⟨fun a n ha => wp_label ⟨E, w, n, ha, rfl, h⟩⟩
theorem CC.exit {id : Nat} (h : Q (.exit id) E w) : CC N (.exit id) E w Q := ⟨fun a n ha => wp_exit ⟨E, w, n, ha, rfl, h⟩⟩
theorem CC.ret (h : Q .ret E w) : CC N .ret E w Q := ⟨fun a n ha => wp_ret ⟨E, w, n, ha, rfl, h⟩⟩

theorem CC.seq {x y : Code} (h : CC N x E w (thenQ (fun E' w' => CC N y E' w' Q) Q)) : CC N (.seq x y) E w Q := by
  constructor
  intro a n ha
  refine wp_seq (wp_mono (h.out a n ha) ?_)
  rintro e a' w' ⟨E', w1, m, h1, rfl, h3⟩
  cases e with
  | normal => exact h3.out a' m h1
  | exit i => exact ⟨E', w1, m, h1, rfl, h3⟩
  | goto i => exact ⟨E', w1, m, h1, rfl, h3⟩
  | ret => exact ⟨E', w1, m, h1, rfl, h3⟩
  | panic c => exact ⟨E', w1, m, h1, rfl, h3⟩
  | outgrown => exact ⟨E', w1, m, h1, rfl, h3⟩

theorem CC.region {id : Nat} {l : List Oper} (h : RR false N l.toArray l E w (fun E' w' => Q .normal E' w')) : CC N (.region id l.toArray false) E w Q := by
  constructor
  intro a n ha
  exact wp_region_lit (h.out a n _ ha (fun a' E' w' m h1 h2 => ⟨E', w', m, h1, rfl, h2⟩))

theorem CC.regionQ {id : Nat} {l : List Oper} (hB : Region.lexB .any l.toArray = true) (h : RR true N l.toArray l E w (fun E' w' => Q .normal E' w')) : CC N (.region id l.toArray true) E w Q := by
  constructor
  intro a n ha
  refine wp_region_quiet (C := fun w' => ∃ m, w' = w.drewN m) follows_mixed hB ⟨n + 1, rfl⟩ ?_
  have h1 := h.out a ha
  have mono : ∀ (l : List Oper) (a : Act) (ops : Array Oper) (C : World → Prop) (R R' : Act → Prop), (∀ a, R a → R' a) → wpQuiet Try.prog ops C R l a → wpQuiet Try.prog ops C R' l a := by
    intro l
    induction l with
    | nil => intro a ops C R R' hR h; exact hR _ h
    | cons o l ih =>
      intro a ops C R R' hR h
      unfold wpQuiet at h ⊢
      split
      · rename_i hw
        rw [if_pos hw] at h
        exact Oper.quiet_mono (fun a h => ih a ops C R R' hR h) h
      · rename_i hw
        rw [if_neg hw] at h
        exact ih _ ops C R R' hR h
  refine mono l a l.toArray _ _ _ ?_ (by simpa using h1)
  rintro a' ⟨E', h2, h3⟩ w' ⟨m, rfl⟩
  exact ⟨E', w, m, h2, rfl, h3⟩

/-- A region and what follows it. -/
theorem CC.seqR {id : Nat} {l : List Oper} {y : Code} (h : RR false N l.toArray l E w (fun E' w' => CC N y E' w' Q)) : CC N (.seq (.region id l.toArray false) y) E w Q :=
  CC.seq (CC.region h)
theorem CC.seqRQ {id : Nat} {l : List Oper} {y : Code} (hB : Region.lexB .any l.toArray = true) (h : RR true N l.toArray l E w (fun E' w' => CC N y E' w' Q)) : CC N (.seq (.region id l.toArray true) y) E w Q :=
  CC.seq (CC.regionQ hB h)

theorem CC.cond_t {c : Operand} {x y : Code} (hc : ev E c = some (.bool true)) (h : CC N x E w Q) : CC N (.cond c x y) E w Q :=
  ⟨fun a n ha => wp_cond_true (ha.ev hc) (h.out a n ha)⟩
theorem CC.cond_f {c : Operand} {x y : Code} (hc : ev E c = some (.bool false)) (h : CC N y E w Q) : CC N (.cond c x y) E w Q :=
  ⟨fun a n ha => wp_cond_false (ha.ev hc) (h.out a n ha)⟩
theorem CC.cond_b {c : Operand} {x y : Code} {b : Bool} (hc : ev E c = some (.bool b)) (ht : b = true → CC N x E w Q) (hf : b = false → CC N y E w Q) : CC N (.cond c x y) E w Q := by
  cases b
  · exact CC.cond_f hc (hf rfl)
  · exact CC.cond_t hc (ht rfl)
theorem CC.cond_d {c : Operand} {x y : Code} {p : Prop} {inst : Decidable p} (hc : ev E c = some (.bool (decide p))) (ht : p → CC N x E w Q) (hf : ¬ p → CC N y E w Q) : CC N (.cond c x y) E w Q :=
  CC.cond_b hc (fun h => ht (of_decide_eq_true h)) (fun h => hf (of_decide_eq_false h))

theorem CC.block {id : Nat} {c : Code} (h : CC N c E w (blockQ id Q)) : CC N (.block id c) E w Q := by
  constructor
  intro a n ha
  refine wp_block (wp_mono (h.out a n ha) ?_)
  rintro e a' w' ⟨E', w1, m, h1, rfl, h3⟩
  cases e with
  | normal => exact ⟨E', w1, m, h1, rfl, h3⟩
  | exit i =>
    simp only [Exit.inBlock]
    simp only [blockQ] at h3
    split
    · rename_i e
      subst e
      simp at h3
      exact ⟨E', w1, m, h1, rfl, h3⟩
    · rename_i e
      have e' : Nat.beq i id = false := by
        cases hb : Nat.beq i id with
        | false => rfl
        | true => exact absurd (Nat.eq_of_beq_eq_true hb) e
      rw [e'] at h3
      exact ⟨E', w1, m, h1, rfl, h3⟩
  | goto i => exact ⟨E', w1, m, h1, rfl, h3⟩
  | ret => exact ⟨E', w1, m, h1, rfl, h3⟩
  | panic c => exact ⟨E', w1, m, h1, rfl, h3⟩
  | outgrown => exact ⟨E', w1, m, h1, rfl, h3⟩

/-- The round's end. -/
structure Nxt {γ : Type} (F : γ → Env) (I : γ → World → Prop) (μ : γ → Nat) (g : γ) (E : Env) (w : World) : Prop where
  out : ∃ g', Sub E (F g') ∧ I g' w ∧ μ g' < μ g

theorem Nxt.go {γ : Type} {F : γ → Env} {I : γ → World → Prop} {μ : γ → Nat} {g : γ} {E : Env} {w : World} (g' : γ) (hs : Sub E (F g')) (hI : I g' w) (hμ : μ g' < μ g) : Nxt F I μ g E w := ⟨g', hs, hI, hμ⟩

/-- A loop: 'F g': the slots at a round's head, 'I g w': the invariant, 'μ g': the measure. -/
theorem CC.loop {c : Code} {γ : Type} (F : γ → Env) (I : γ → World → Prop) (μ : γ → Nat) (g0 : γ) (hs : Sub E (F g0)) (h0 : I g0 w)
    (round : ∀ g w, I g w → CC N c (F g) w (thenQ (fun E' w' => Nxt F I μ g E' w') Q)) : CC N (.loop c) E w Q := by
  constructor
  intro a n ha
  refine wp_loop_ghost (I := fun k a w' => ∃ g w1 m, w' = World.drewN w1 m ∧ I g w1 ∧ Has N a (F g) ∧ μ g = k) (μ g0) ⟨g0, w, n, rfl, h0, ha.sub hs, rfl⟩ ?_
  rintro k a w' ⟨g, w1, m, rfl, hI, ha', rfl⟩
  refine wp_mono ((round g w1 hI).out a m ha') ?_
  rintro e a' w' ⟨E', w2, m', h1, rfl, h3⟩
  cases e with
  | normal =>
    obtain ⟨g', hs', hI', hlt⟩ := Nxt.out h3
    exact ⟨μ g', hlt, g', w2, m', rfl, hI', h1.sub hs', rfl⟩
  | exit i => exact ⟨E', w2, m', h1, rfl, h3⟩
  | goto i => exact ⟨E', w2, m', h1, rfl, h3⟩
  | ret => exact ⟨E', w2, m', h1, rfl, h3⟩
  | panic c => exact ⟨E', w2, m', h1, rfl, h3⟩
  | outgrown => exact ⟨E', w2, m', h1, rfl, h3⟩
end

/-! ### A function's body -/
def argEnv : Nat → List Value → Env
  | _, [] => []
  | k, v :: r => (k, v) :: argEnv (k + 1) r

theorem look_argEnv (l : List Value) : ∀ (k s : Nat) (v : Value), look (argEnv k l) s = some v → k ≤ s ∧ l[s - k]? = some v := by
  induction l with
  | nil => intro k s v h; simp [argEnv, look] at h
  | cons x r ih =>
    intro k s v h
    simp only [argEnv, look] at h
    cases hb : Nat.beq k s with
    | true =>
      have e := Nat.eq_of_beq_eq_true hb
      subst e
      simp at h
      simp [h]
    | false =>
      rw [hb] at h
      obtain ⟨h1, h2⟩ := ih (k + 1) s v h
      refine ⟨by omega, ?_⟩
      have : s - k = (s - (k + 1)) + 1 := by omega
      rw [this]
      simpa using h2

/-- What is asked at the end of a body. -/
structure EndQ (fn : Func) (Post : Value → World → Prop) (E : Env) (w : World) : Prop where
  out : ∃ v, (∀ (N : Nat) (a : Act) (n : Nat), Has N a E → (results fn a.tmps).run Try.prog (w.drewN n) = .ok v (w.drewN n)) ∧ Post v w

def endQ (fn : Func) (Post : Value → World → Prop) : Exit → Env → World → Prop
  | .normal, E, w => EndQ fn Post E w
  | .ret, E, w => EndQ fn Post E w
  | _, _, _ => False

theorem EndQ.r1 {fn : Func} {Post : Value → World → Prop} {E : Env} {w : World} {t : Nat} {v : Value} (hr : fn.results = #[.tmp t]) (hl : look E t = some v) (h : Post v w) : EndQ fn Post E w :=
  ⟨v, fun N a n ha => by rw [results_tmp hr, (ha.val t v hl).2], h⟩
theorem EndQ.r0 {fn : Func} {Post : Value → World → Prop} {E : Env} {w : World} (hr : fn.results = #[]) (h : Post (.tuple #[]) w) : EndQ fn Post E w :=
  ⟨.tuple #[], fun N a n ha => by simp [results, hr], h⟩
theorem EndQ.r2 {fn : Func} {Post : Value → World → Prop} {E : Env} {w : World} {t t' : Nat} {v v' : Value} (hr : fn.results = #[.tmp t, .tmp t']) (hl : look E t = some v) (hl' : look E t' = some v') (h : Post (.tuple #[v, v']) w) : EndQ fn Post E w :=
  ⟨.tuple #[v, v'], fun N a n ha => by rw [results_tmp2 hr, (ha.val t v hl).2, (ha.val t' v' hl').2], h⟩

def bodyOf (fn : Func) : Code := match fn.body with | some c => c | none => .skip

theorem FF.of_cc {f : FuncId} {fn : Func} {N : Nat} {l : List Value} {w : World} {Post : Value → World → Prop} (hf : Try.prog.funcs[f]? = some fn) (hb : fn.body.isNone = false) (hN : fn.ntmps = N)
    (hl : Nat.ble l.length N = true) (h : CC N (bodyOf fn) (argEnv 0 l) w (endQ fn Post)) : FF f l.toArray w Post := by
  constructor
  intro n
  cases hbd : fn.body with
  | none => rw [hbd] at hb; simp at hb
  | some c =>
    have e : bodyOf fn = c := by simp [bodyOf, hbd]
    rw [e] at h
    refine calls_of_wp hf hbd ?_
    have hle := Nat.le_of_ble_eq_true hl
    refine wp_mono (h.out _ n ⟨by simp [hN]; omega, rfl, fun s v hs => ?_⟩) ?_
    · obtain ⟨_, h2⟩ := look_argEnv l 0 s v hs
      simp only [Nat.sub_zero] at h2
      have h3 : s < l.length := by
        rcases Nat.lt_or_ge s l.length with h | h
        · exact h
        · rw [List.getElem?_eq_none h] at h2; cases h2
      refine ⟨by omega, ?_⟩
      rw [Array.getD_eq_getD_getElem?, Array.getElem?_append_left (by simpa using h3)]
      simp [h2]
    · rintro e a' w' ⟨E', w1, m, h1, rfl, h3⟩
      cases e with
      | normal =>
        obtain ⟨v, h4, h5⟩ := EndQ.out h3
        exact ⟨h1.defers, v, h4 N a' m h1, v, w1, m, rfl, rfl, h5⟩
      | ret =>
        obtain ⟨v, h4, h5⟩ := EndQ.out h3
        exact ⟨h1.defers, v, h4 N a' m h1, v, w1, m, rfl, rfl, h5⟩
      | exit i => exact h3.elim
      | goto i => exact h3.elim
      | panic c => exact h3.elim
      | outgrown => exact h3.elim

end Go.Proofs.Qxb6602663a.Vc
