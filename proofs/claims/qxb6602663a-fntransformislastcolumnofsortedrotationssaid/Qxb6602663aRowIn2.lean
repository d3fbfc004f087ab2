/-
  From the reading of the arguments to rows: int32 slices, byte slices, the table behind a pointer.
-/
import Derived.Test.Qxb6602663aRowIn
import Derived.Test.Qxb6602663aLaw9
import Derived.ProofKit
namespace Go.Proofs.Qxb6602663a.Vc
open Go.ChangeShapes Go.WideShapes Go.ChangeAt Go.RowKit
set_option linter.unusedVariables false
set_option linter.unusedSimpArgs false

theorem ints_in {w : World} {a : Option Addr} {len cap : Nat} {zs : List Int}
    (h : (a = none ∧ len = 0 ∧ cap = 0 ∧ zs = []) ∨
      ∃ x, a = some x ∧ len ≤ cap ∧ cap ≤ maxLen ∧ zs.length = cap ∧ (∀ i, i < zs.length → w.cell? (x.add i) = some (.int .i32 (zs.getD i 0))) ∧ ∀ n ∈ zs, (Lit.int .i32 n).wf = true) :
    InI w a len cap (fun i => zs.getD i 0) := by
  rcases h with ⟨h1, h2, h3, _⟩ | ⟨x, rfl, hle, _, hz, hc, hw⟩
  · exact .inl ⟨h1, h2, h3⟩
  · refine .inr ⟨x, rfl, fun e => ?_⟩
    obtain ⟨b, off, spot⟩ := x
    have hs : spot = none := by
      have := World.cell?_spot (hc 0 (by omega))
      simpa [Addr.add] using this
    subst hs
    refine ⟨b, off, rfl, fun i hi => ?_⟩
    have h1 := hc i (by omega)
    rw [addr_add] at h1
    exact h1

theorem bytes_inN {w : World} {a : Option Addr} {len cap : Nat} {zs : List Int}
    (h : (a = none ∧ len = 0 ∧ cap = 0 ∧ zs = []) ∨
      ∃ x, a = some x ∧ len ≤ cap ∧ cap ≤ maxLen ∧ zs.length = cap ∧ (∀ i, i < zs.length → w.cell? (x.add i) = some (.int .u8 (zs.getD i 0))) ∧ ∀ n ∈ zs, (Lit.int .u8 n).wf = true) :
    ∃ f, InN w a len cap f ∧ ∀ i, f i < 256 := by
  rcases bytes_in h with e | ⟨b, off, f, rfl, hs, hf⟩
  · refine ⟨fun _ => 0, ?_, fun _ => (by decide : 0 < 256)⟩
    rcases h with ⟨h1, h2, h3, _⟩ | ⟨x, rfl, _⟩
    · exact .inl ⟨h1, h2, h3⟩
    · exact .inr ⟨x, rfl, fun h' => by omega⟩
  · exact ⟨f, .inr ⟨_, rfl, fun _ => ⟨b, off, rfl, hs⟩⟩, hf⟩

theorem cells40' : Try.prog.cellsOf 40 = 256 := by kernel_rfl
theorem cells5' : Try.prog.cellsOf 5 = 1 := by kernel_rfl

theorem table_in {H : Type} {enc : TypeId × Value → H} {W : World} {r : Reach} {b0 base : Nat} {spare : Nat → Bool} {held : Bool} {p : Option Addr} {d : DataW H} {ps : List MemPlace} (hval : Value.okWide Try.prog W r b0 38 (.pointer p))
    (h : DataW.Trod enc Try.prog W base spare held 38 (.pointer p) d ps) : ∃ num, InT W p num ∧ ∀ i, num i < 256 := by
  rcases open_ptr Try.underlying38 (by rw [cells40']; omega) hval h with ⟨hv, _, _⟩ | ⟨b, off, cs, y, fuel, hv, _, _, hlen, hcell, hy⟩
  · injection hv with hv
    subst hv
    exact ⟨fun _ => 0, fun q hq => (by cases hq), fun _ => (by decide : 0 < 256)⟩
  · injection hv with hv
    subst hv
    obtain ⟨xs, m, _, _, hl, hx, hall⟩ := DataW.trod_array Try.underlying40 hy
    rw [cells40'] at hlen hcell
    have key : ∀ i, i < 256 → ∃ n : Int, cs[i]? = some (.int .u8 n) ∧ 0 ≤ n ∧ n ≤ 255 := by
      intro i hi
      have h1 := hall i hi
      rw [cells5', Nat.mul_one, List.getElem?_eq_getElem (by omega)] at h1
      obtain ⟨n, h2, _, h3⟩ := DataW.trod_int Try.underlying5 h1
      refine ⟨n, ?_, bounds_wf_u8 h3⟩
      have h4 : ((cs.drop i).take 1)[0]? = some (.int .u8 n) := by rw [h2]; rfl
      simpa using h4
    refine ⟨fun i => match cs[i]? with | some (.int _ n) => if n.toNat < 256 then n.toNat else 0 | _ => 0, fun q hq => ?_, fun i => ?_⟩
    · injection hq with hq
      subst hq
      refine ⟨b, off, rfl, fun i hi => ?_⟩
      obtain ⟨n, h1, h2, h3⟩ := key i hi
      rw [hcell i hi, h1]
      simp only [h1]
      rw [if_pos (by omega), Int.toNat_of_nonneg h2]
    · dsimp only
      split
      · split <;> omega
      · omega

end Go.Proofs.Qxb6602663a.Vc
