/-
  From the shell's reading of an argument to rows; from 'FF' to what the shell's hole asks.
-/
import Derived.Test.Qxb6602663aMem2
import Derived.OpenShut
namespace Go.Proofs.Qxb6602663a.Vc
open Go.RowKit
set_option linter.unusedVariables false
set_option linter.unusedSimpArgs false

theorem FF.law {f : FuncId} {args : Array Value} {w : World} (h : FF f args w (fun v w' => v = .bool true ∧ Touch (fun _ _ => False) w w')) :
    Calls Try.prog f args w (fun e w' => e = .returned (.bool true) ∧ Below w.heap.size w w') := by
  refine (h.out 0).mono ?_
  rintro e w' ⟨v, w1, m, rfl, rfl, rfl, ht⟩
  have hb := ht.below (fun _ _ h => h.elim)
  exact ⟨rfl, hb.os, hb.tape, hb.output, hb.size, hb.block⟩

theorem FF.same_law {f : FuncId} {args : Array Value} {w : World} (h : FF f args w (fun v w' => v = .bool true ∧ w' = w)) :
    FF f args w (fun v w' => v = .bool true ∧ Touch (fun _ _ => False) w w') :=
  h.mono fun v w' ⟨h1, h2⟩ => ⟨h1, h2 ▸ Touch.refl _ _⟩

theorem bounds_wf_u8 {n : Int} (h : (Lit.int .u8 n).wf = true) : 0 ≤ n ∧ n ≤ 255 := by
  exact bounds_u8 h

/-- Bytes that came in: no elements, or a row of naturals below 256. -/
theorem bytes_in {w : World} {a : Option Addr} {len cap : Nat} {zs : List Int}
    (h : (a = none ∧ len = 0 ∧ cap = 0 ∧ zs = []) ∨
      ∃ x, a = some x ∧ len ≤ cap ∧ cap ≤ maxLen ∧ zs.length = cap ∧ (∀ i, i < zs.length → w.cell? (x.add i) = some (.int .u8 (zs.getD i 0))) ∧ ∀ n ∈ zs, (Lit.int .u8 n).wf = true) :
    len = 0 ∨ ∃ b off f, a = some ⟨b, off, none⟩ ∧ SN .u8 w b off len f ∧ ∀ i, f i < 256 := by
  rcases h with ⟨_, h, _⟩ | ⟨x, rfl, hle, _, hz, hc, hw⟩
  · exact .inl h
  · rcases Nat.eq_zero_or_pos len with e | e
    · exact .inl e
    · refine .inr ?_
      obtain ⟨b, off, spot⟩ := x
      have hs : spot = none := by
        have := World.cell?_spot (hc 0 (by omega))
        simpa [Addr.add] using this
      subst hs
      have bd : ∀ i, 0 ≤ zs.getD i 0 ∧ zs.getD i 0 ≤ 255 := by
        intro i
        rcases Nat.lt_or_ge i zs.length with h | h
        · have : zs.getD i 0 ∈ zs := by
            rw [List.getD_eq_getElem?_getD, List.getElem?_eq_getElem h]
            exact List.getElem_mem h
          exact bounds_wf_u8 (hw _ this)
        · rw [List.getD_eq_getElem?_getD, List.getElem?_eq_none h]
          simp
      refine ⟨b, off, fun i => (zs.getD i 0).toNat, rfl, fun i hi => ?_, fun i => by have := bd i; show (zs.getD i 0).toNat < 256; omega⟩
      have h1 := hc i (by omega)
      rw [addr_add] at h1
      rw [h1]
      have h2 := (bd i).1
      show some (Value.int .u8 (zs.getD i 0)) = some (Value.int .u8 (((zs.getD i 0).toNat : Nat) : Int))
      rw [Int.toNat_of_nonneg h2]

end Go.Proofs.Qxb6602663a.Vc
