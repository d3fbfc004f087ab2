/-
  The law FnSymbolsDecodeToNumberedBytes.
-/
import Derived.Test.Qxb6602663aLaw9
namespace Go.Proofs.Qxb6602663a.Vc
open Go.RowKit
set_option linter.unusedVariables false
set_option linter.unusedSimpArgs false
set_option maxRecDepth 10000

theorem syms_body {X : Nat → Nat} {n : Nat} {u : Int} {body : List Int} (hb : (Sym.run X n).out ++ Sym.zdig (Sym.run X n).z = body) : Sym.syms X n u = body ++ [u] := by rw [← hb]; rfl

set_option maxHeartbeats 2000000 in
theorem law8_any (sa : Option Addr) (L Lc : Nat) (s0 : Nat → Int) (ba : Option Addr) (n nc : Nat) (f : Nat → Nat) (pn : Option Addr) (num : Nat → Nat) (nU : Int) (w : World)
    (hsa : InI w sa L Lc s0) (hba : InN w ba n nc f) (hf : ∀ i, f i < 256) (hpn : InT w pn num) (hnum' : ∀ i, num i < 256) (hU : -9223372036854775808 ≤ nU ∧ nU ≤ 9223372036854775807) :
    FF 8 #[.slice sa L Lc, .slice ba n nc, .pointer pn, .int .i64 nU] w (fun v w' => v = .bool true ∧ Touch (fun _ _ => False) w w') := by
  refine FF.of_cc (l := [_, _, _, _]) Try.func8 rfl Try.ntmps8 rfl (CC.keep (F := [(0, _), (1, _), (2, _), (3, _)]) ⟨rfl, rfl, rfl, rfl, trivial⟩ ?_)
  refine CC.seq ?_
  refine CC.region ?_
  refine RR.pv (pv_as rfl) rfl ?_
  refine RR.nil ?_
  by_cases hzz : 1048576 < L + n
  · refine CC.seq ?_
    refine CC.seq ?_
    refine CC.region ?_
    refine RR.pv (pv_mv rfl) rfl ?_
    refine RR.pv (pv_mv rfl) rfl ?_
    refine RR.pv (pv_mv rfl) rfl ?_
    refine RR.pv (pv_mv rfl) rfl ?_
    refine RR.call Try.func25 nm25 rfl rfl (zz25_no sa L Lc ba n nc _ _ w hzz) rfl ?_
    rintro v w' ⟨rfl, rfl⟩
    first | refine RR.pv (pv_not_t rfl) rfl ?_ | refine RR.pv (pv_not_f rfl) rfl ?_ | refine RR.pv (pv_not rfl) rfl ?_
    refine RR.nil ?_
    refine CC.cond_t rfl ?_
    refine CC.seq ?_
    refine CC.region ?_
    refine RR.pv (pv_as rfl) rfl ?_
    refine RR.nil ?_
    refine CC.ret ?_
    exact EndQ.r1 Try.results8 rfl ⟨rfl, Touch.refl _ _⟩
  refine CC.seq ?_
  refine CC.seq ?_
  refine CC.region ?_
  refine RR.pv (pv_mv rfl) rfl ?_
  refine RR.pv (pv_mv rfl) rfl ?_
  refine RR.pv (pv_mv rfl) rfl ?_
  refine RR.pv (pv_mv rfl) rfl ?_
  refine RR.call Try.func25 nm25 rfl rfl (zz25 sa L Lc ba n nc _ _ w (by omega)) rfl ?_
  rintro v w1 ⟨rfl, rfl⟩
  first | refine RR.pv (pv_not_t rfl) rfl ?_ | refine RR.pv (pv_not_f rfl) rfl ?_ | refine RR.pv (pv_not rfl) rfl ?_
  refine RR.nil ?_
  refine CC.cond_f rfl ?_
  by_cases hL : 65536 < L
  · refine CC.skip ?_
    refine CC.seq ?_
    refine CC.seq ?_
    refine CC.region ?_
    refine RR.pv (pv_mv rfl) rfl ?_
    refine RR.pv (pv_len rfl st28) rfl ?_
    first | refine RR.pv (pv_gtr_t rfl rfl (by omega)) rfl ?_ | refine RR.pv (pv_gtr_f rfl rfl (by omega)) rfl ?_ | refine RR.pv (pv_gtr rfl rfl) rfl ?_
    refine RR.nil ?_
    refine CC.cond_t rfl ?_
    refine CC.seq ?_
    refine CC.region ?_
    refine RR.pv (pv_as rfl) rfl ?_
    refine RR.nil ?_
    refine CC.ret ?_
    exact EndQ.r1 Try.results8 rfl ⟨rfl, Touch.refl _ _⟩
  refine CC.skip ?_
  refine CC.seq ?_
  refine CC.seq ?_
  refine CC.region ?_
  refine RR.pv (pv_mv rfl) rfl ?_
  refine RR.pv (pv_len rfl st28) rfl ?_
  first | refine RR.pv (pv_gtr_t rfl rfl (by omega)) rfl ?_ | refine RR.pv (pv_gtr_f rfl rfl (by omega)) rfl ?_ | refine RR.pv (pv_gtr rfl rfl) rfl ?_
  refine RR.nil ?_
  refine CC.cond_f rfl ?_
  by_cases hn : 65536 < n
  · refine CC.skip ?_
    refine CC.seq ?_
    refine CC.seq ?_
    refine CC.region ?_
    refine RR.pv (pv_mv rfl) rfl ?_
    refine RR.pv (pv_len rfl st22) rfl ?_
    first | refine RR.pv (pv_gtr_t rfl rfl (by omega)) rfl ?_ | refine RR.pv (pv_gtr_f rfl rfl (by omega)) rfl ?_ | refine RR.pv (pv_gtr rfl rfl) rfl ?_
    refine RR.nil ?_
    refine CC.cond_t rfl ?_
    refine CC.seq ?_
    refine CC.region ?_
    refine RR.pv (pv_as rfl) rfl ?_
    refine RR.nil ?_
    refine CC.ret ?_
    exact EndQ.r1 Try.results8 rfl ⟨rfl, Touch.refl _ _⟩
  refine CC.skip ?_
  refine CC.seq ?_
  refine CC.seq ?_
  refine CC.region ?_
  refine RR.pv (pv_mv rfl) rfl ?_
  refine RR.pv (pv_len rfl st22) rfl ?_
  first | refine RR.pv (pv_gtr_t rfl rfl (by omega)) rfl ?_ | refine RR.pv (pv_gtr_f rfl rfl (by omega)) rfl ?_ | refine RR.pv (pv_gtr rfl rfl) rfl ?_
  refine RR.nil ?_
  refine CC.cond_f rfl ?_
  cases pn with
  | none =>
    refine CC.skip ?_
    refine CC.seq ?_
    refine CC.seq ?_
    refine CC.region ?_
    refine RR.pv (pv_mv rfl) rfl ?_
    refine RR.pv (pv_eqnilp rfl) rfl ?_
    refine RR.nil ?_
    refine CC.cond_t rfl ?_
    refine CC.seq ?_
    refine CC.region ?_
    refine RR.pv (pv_as rfl) rfl ?_
    refine RR.nil ?_
    refine CC.ret ?_
    exact EndQ.r1 Try.results8 rfl ⟨rfl, Touch.refl _ _⟩
  | some q =>
  obtain ⟨bn, on, rfl, hnum⟩ := hpn q rfl
  refine CC.skip ?_
  refine CC.seq ?_
  refine CC.seq ?_
  refine CC.region ?_
  refine RR.pv (pv_mv rfl) rfl ?_
  refine RR.pv (pv_eqnilp rfl) rfl ?_
  refine RR.nil ?_
  refine CC.cond_f rfl ?_
  refine CC.skip ?_
  refine CC.seq ?_
  refine CC.region ?_
  refine RR.pv (pv_mv rfl) rfl ?_
  refine RR.call Try.func17 nm17 rfl rfl (cloneInts_gen sa L Lc s0 w1 (by omega) hsa) rfl ?_
  rintro v w2 ⟨a0, rfl, hnil, hroom2, hT2⟩
  have hba2 := hba.touch hT2
  have hnum2 := hnum.touch hT2 (fun _ _ h => h)
  have hbnL := hnum.lt (by omega)
  refine RR.pv (pv_as rfl) rfl ?_
  refine RR.nil ?_
  refine CC.seq ?_
  refine CC.region ?_
  refine RR.pv (pv_mv rfl) rfl ?_
  refine RR.call Try.func12 nm12' rfl rfl (cloneBytes_gen ba n nc f w2 (by omega) hba2) rfl ?_
  rintro v w3 ⟨ab, rfl, hbnil, hb3, hT3⟩
  have hnum3 := hnum2.touch hT3 (fun _ _ h => h)
  refine RR.pv (pv_as rfl) rfl ?_
  refine RR.nil ?_
  refine CC.seq ?_
  refine CC.region ?_
  refine RR.pv (pv_mv rfl) rfl ?_
  refine RR.pv (pv_nilck rfl) rfl ?_
  refine RR.pv (pv_ld40 rfl hnum3) rfl ?_
  refine RR.al40 rfl ?_
  have hs4 := SN.new0 .u8 w3 40 256
  have hw4 := WR.new w3 (Array.replicate 256 (.int .u8 0)) 40 0 256
  have hT4 : Touch (fun _ _ => False) w3 (w3.alloc (.cells (Array.replicate 256 (.int .u8 0)) 40)) := Touch.alloc _ _ _
  have hsz4 : (w3.alloc (.cells (Array.replicate 256 (.int .u8 0)) 40)).heap.size = w3.heap.size + 1 := by simp
  refine RR.st40 (f' := num) rfl rfl hs4 hw4 ?_
  refine RR.nil ?_
  have hs5 := (hs4.v.setCells (p := 0) (m := 256) (f' := num) (Nat.le_refl _)).congr (g := num) (fun i hi => by rw [if_pos (by omega)]; rfl)
  have hT5 : Touch (fun _ _ => False) w3 ((w3.alloc (.cells (Array.replicate 256 (.int .u8 0)) 40)).setCells w3.heap.size 0 (cellsL (fun m : Nat => Value.int .u8 (m : Int)) num 256)) :=
    hT4.trans (Touch.setCells _ _ _ _) (fun _ _ _ h => h) (fun b o hb h => by have := h.1; omega)
  have hsz5 : ((w3.alloc (.cells (Array.replicate 256 (.int .u8 0)) 40)).setCells w3.heap.size 0 (cellsL (fun m : Nat => Value.int .u8 (m : Int)) num 256)).heap.size = w3.heap.size + 1 := by rw [size_setCells', hsz4]
  rw [Nat.add_zero] at hs5
  generalize (w3.alloc (.cells (Array.replicate 256 (.int .u8 0)) 40)).setCells w3.heap.size 0 (cellsL (fun m : Nat => Value.int .u8 (m : Int)) num 256) = w5 at hs5 hT5 hsz5 ⊢
  refine CC.seq ?_
  refine CC.region ?_
  refine RR.pv (pv_as rfl) rfl ?_
  refine RR.nil ?_
  have hT25 := hT3.trans hT5 (T := fun _ _ => False) (fun _ _ _ h => h) (fun _ _ _ h => h)
  have hread5 : 0 < n → ∃ bb ob, (ab.map fun b => (⟨b, 0, none⟩ : Addr)) = some ⟨bb, ob, none⟩ ∧ SN .u8 w5 bb ob n f ∧ a0 ≠ some bb := fun h => by
    cases hab : ab with
    | none => have := hbnil hab; omega
    | some bb =>
      obtain ⟨h1, h2, h3, h4⟩ := hb3 bb hab
      refine ⟨bb, 0, rfl, h3.touch hT5 (fun _ _ h => h), fun e => ?_⟩
      have := (hroom2 bb e).2.1
      omega
  refine CC.seq ?_
  refine CC.region ?_
  refine RR.pv (pv_mv rfl) rfl ?_
  refine RR.pv (pv_mv rfl) rfl ?_
  refine RR.pv (pv_mv rfl) rfl ?_
  refine RR.pv (pv_mv rfl) rfl ?_
  refine RR.call Try.func23 nm23 rfl rfl (zzSymbols_any a0 L s0 (ab.map fun b => ⟨b, 0, none⟩) n n w3.heap.size 0 f num nU w5 (by omega) hnil (fun b0 hb => ?_) hread5 hf hs5 hnum' ?_) rfl ?_
  · obtain ⟨h1, h2, h3, h4⟩ := hroom2 b0 hb
    have := hT3.size
    exact ⟨by omega, h3.touch hT25 (fun _ _ h => h), h4.touch (fun _ => h2) hT25⟩
  · intro e
    have := (hroom2 _ e).2.1
    have := hT3.size
    omega
  rintro v w6 ⟨hB, hT6⟩
  have hX : ∀ t, (fun t => num (f t)) t < 256 := fun t => hnum' _
  obtain ⟨sd, hpath, hso, hsr⟩ := Sym.dpath_syms hX n
  have hlen := Sym.syms_len (fun t => num (f t)) n (lastSym nU)
  have hlast := syms_last (fun t => num (f t)) n (lastSym nU)
  obtain ⟨body, hbody⟩ : ∃ body, (Sym.run (fun t => num (f t)) n).out ++ Sym.zdig (Sym.run (fun t => num (f t)) n).z = body := ⟨_, rfl⟩
  rw [hbody] at hpath
  rw [syms_body hbody] at hB hlen hlast
  have hblen : (body ++ [lastSym nU]).length = body.length + 1 := by simp
  obtain ⟨bg, cg, gx, rfl, hsg, hgx⟩ := hB.read hlen.2
  rw [← hgx] at hlast
  have hgb : ∀ i (h : i < body.length), gx i = body[i] := fun i h => by
    rw [hgx, List.getD_eq_getElem?_getD, List.getElem?_append_left h, List.getElem?_eq_getElem h]
    rfl
  rw [hblen] at hlen hlast hsg
  have hTall : Touch (fun _ _ => False) w1 w6 := by
    refine (hT2.trans hT25 (T := fun _ _ => False) (fun _ _ _ h => h) (fun _ _ _ h => h)).trans hT6 (fun _ _ _ h => h) (fun b o hb h => ?_)
    rcases h with h | h
    · have := (hroom2 b h).1; omega
    · have := hT2.size; have := hT3.size; omega
  -- what is read from here on
  have hread6 : 0 < n → ∃ bb ob, (ab.map fun b => (⟨b, 0, none⟩ : Addr)) = some ⟨bb, ob, none⟩ ∧ SN .u8 w6 bb ob n f := fun h => by
    obtain ⟨bb, ob, h1, h2, h3⟩ := hread5 h
    refine ⟨bb, ob, h1, h2.touch hT6 (fun i _ hS => ?_)⟩
    rcases hS with hS | hS
    · exact h3 hS
    · have := h2.lt h; omega
  have hnum6 : SN .u8 w6 w3.heap.size 0 256 num := by
    refine SN.touch hs5 hT6 (fun i _ hS => ?_)
    rcases hS with hS | hS
    · have := (hroom2 _ hS).2.1; have := hT3.size; omega
    · omega
  have hbgL := hsg.lt (by omega)
  have hbt : w3.heap.size < w6.heap.size := hnum6.lt (by omega)
  have hw1s : w1.heap.size ≤ w6.heap.size := hTall.size
  generalize w3.heap.size = bt at hnum6 hbt ⊢
  clear hB hT6 hroom2 hread5 hs5 hT25 hT5 hsz5 hT4 hsz4 hs4 hw4 hnum3 hnum2 hnum hb3 hbnil hba2 hba hsa hpn hT2 hT3
  rw [hblen]
  refine RR.pv (pv_as rfl) rfl ?_
  refine RR.nil ?_
  refine CC.seq ?_
  refine CC.seq ?_
  refine CC.region ?_
  refine RR.pv (pv_mv rfl) rfl ?_
  refine RR.pv (pv_len rfl st28) rfl ?_
  first | refine RR.pv (pv_eql_t rfl rfl (by omega)) rfl ?_ | refine RR.pv (pv_eql_f rfl rfl (by omega)) rfl ?_ | refine RR.pv (pv_eql rfl rfl) rfl ?_
  refine RR.pv (pv_mv rfl) rfl ?_
  first | refine RR.gy rfl rfl (pv_mv rfl) rfl ?_ | refine RR.gn rfl rfl rfl rfl ?_
  first | refine RR.gy rfl rfl (pv_len rfl st28) rfl ?_ | refine RR.gn rfl rfl rfl rfl ?_
  first | refine RR.gy rfl rfl (pv_mv rfl) rfl ?_ | refine RR.gn rfl rfl rfl rfl ?_
  first | refine RR.gy rfl rfl (pv_len rfl st22) rfl ?_ | refine RR.gn rfl rfl rfl rfl ?_
  first | refine RR.gy rfl rfl (pv_addN (n := 1) rfl rfl (by omega)) rfl ?_ | refine RR.gy rfl rfl (pv_add64 rfl rfl (by omega)) rfl ?_ | refine RR.gn rfl rfl rfl rfl ?_
  first | refine RR.gy rfl rfl (pv_gtr_t rfl rfl (by omega)) rfl ?_ | refine RR.gy rfl rfl (pv_gtr_f rfl rfl (by omega)) rfl ?_ | refine RR.gy rfl rfl (pv_gtr rfl rfl) rfl ?_ | refine RR.gn rfl rfl rfl rfl ?_
  first | refine RR.pv (pv_pick_t rfl rfl) rfl ?_ | refine RR.pv (pv_pick_f rfl rfl) rfl ?_
  refine RR.nil ?_
  refine CC.cond_f rfl ?_
  unfold lastSym at hlast
  refine CC.skip ?_
  refine CC.seq ?_
  refine CC.seq ?_
  refine CC.region ?_
  refine RR.pv (pv_mv rfl) rfl ?_
  refine RR.pv (pv_mv rfl) rfl ?_
  refine RR.pv (pv_len rfl st28) rfl ?_
  first | refine RR.pv (pv_subN (n := 1) rfl rfl (by omega)) rfl ?_ | refine RR.pv (pv_sub64 rfl rfl (by omega)) rfl ?_
  first | refine RR.pv (pv_ixN rfl rfl st28 (by omega)) rfl ?_ | refine RR.pv (pv_ixZ rfl rfl st28 (by omega)) rfl ?_
  refine RR.pv (pv_ld rfl ct21 (hsg _ (by omega))) rfl ?_
  refine RR.pv (pv_mv rfl) rfl ?_
  refine RR.pv (pv_add64w rfl rfl) rfl ?_
  refine RR.pv (pv_c3_21w rfl) rfl ?_
  first | refine RR.pv (pv_neq_t rfl rfl (by omega)) rfl ?_ | refine RR.pv (pv_neq_f rfl rfl (by omega)) rfl ?_ | refine RR.pv (pv_neq rfl rfl) rfl ?_
  refine RR.nil ?_
  refine CC.cond_f rfl ?_
  refine CC.skip ?_
  refine CC.seq ?_
  refine CC.region ?_
  refine RR.al37 rfl ?_
  refine RR.nil ?_
  refine CC.seq ?_
  refine CC.seq ?_
  refine CC.region ?_
  refine RR.pv (pv_as rfl) rfl ?_
  refine RR.nil ?_
  have hl7 := SN.new0 .i64 w6 37 256
  have hw7 := WR.new w6 (Array.replicate 256 (.int .i64 0)) 37 0 256
  have hT7 : Touch (fun _ _ => False) w6 (w6.alloc (.cells (Array.replicate 256 (.int .i64 0)) 37)) := Touch.alloc _ _ _
  generalize w6.alloc (.cells (Array.replicate 256 (.int .i64 0)) 37) = w7 at hl7 hw7 hT7 ⊢
  generalize hbl : w6.heap.size = bl at hl7 hw7 hbgL hbt hw1s ⊢
  refine CC.block ?_
  refine CC.loop (γ := Nat × (Nat → Nat)) (F := fun g => [(1, own ab n), (2, .pointer (some ⟨bt, 0, none⟩)), (10, .slice (some ⟨bg, 0, none⟩) (body.length + 1) cg), (11, .pointer (some ⟨bl, 0, none⟩)), (12, .int .i64 (g.1 : Int))])
    (I := fun g w' => g.1 ≤ 256 ∧ SN .i64 w' bl 0 256 g.2 ∧ WR w' bl 0 256 ∧ (∀ i, i < g.1 → g.2 i = i) ∧ Touch (fun b o => b = bl) w7 w') (μ := fun g => 256 - g.1) (0, fun _ => 0) ⟨rfl, rfl, rfl, rfl, rfl, trivial⟩
    ⟨Nat.zero_le _, hl7, hw7, fun i hi => absurd hi (Nat.not_lt_zero _), Touch.refl _ _⟩ ?_
  rintro ⟨i, h⟩ w8 ⟨hi, hl8, hw8, hall, hT8⟩
  dsimp only at hi hl8 hall ⊢
  by_cases hlt : i < 256
  · refine CC.seq ?_
    refine CC.seq ?_
    refine CC.region ?_
    refine RR.pv (pv_mv rfl) rfl ?_
    first | refine RR.pv (pv_lss_t rfl rfl (by omega)) rfl ?_ | refine RR.pv (pv_lss_f rfl rfl (by omega)) rfl ?_ | refine RR.pv (pv_lss rfl rfl) rfl ?_
    refine RR.nil ?_
    refine CC.cond_t rfl ?_
    refine CC.skip ?_
    refine CC.seq ?_
    refine CC.block ?_
    refine CC.region ?_
    refine RR.pv (pv_mv rfl) rfl ?_
    refine RR.pv (pv_mv rfl) rfl ?_
    first | refine RR.pv (pv_iaN rfl rfl at37 (by omega)) rfl ?_ | refine RR.pv (pv_iaZ rfl rfl at37 (by omega)) rfl ?_
    refine RR.st rfl rfl ct3 OneV.i (hl8 _ hlt) (hw8 _ hlt) ?_
    refine RR.nil ?_
    refine CC.region ?_
    refine RR.pv (pv_mv rfl) rfl ?_
    first | refine RR.pv (pv_addN (n := 1) rfl rfl (by omega)) rfl ?_ | refine RR.pv (pv_add64 rfl rfl (by omega)) rfl ?_
    refine RR.pv (pv_as rfl) rfl ?_
    refine RR.nil ?_
    refine Nxt.go (i + 1, upd h i i) ⟨rfl, rfl, rfl, rfl, rfl, trivial⟩ ⟨hlt, hl8.set hlt _, hw8.set, fun j hj => ?_, hT8.trans (Touch.setCell _ _ _ _) (fun _ _ _ h => h) (fun _ _ _ h => h.1)⟩ (by dsimp only; omega)
    dsimp only at hj ⊢
    by_cases e : j = i
    · subst e; rw [upd_same]
    · rw [upd_ne _ _ e]; exact hall j (by omega)
  have hi256 : i = 256 := by omega
  subst hi256
  have hT68 : Touch (fun b o => b = bl) w6 w8 := hT7.trans hT8 (fun _ _ _ h => h.elim) (fun _ _ _ h => h)
  refine CC.seq ?_
  refine CC.seq ?_
  refine CC.region ?_
  refine RR.pv (pv_mv rfl) rfl ?_
  first | refine RR.pv (pv_lss_t rfl rfl (by omega)) rfl ?_ | refine RR.pv (pv_lss_f rfl rfl (by omega)) rfl ?_ | refine RR.pv (pv_lss rfl rfl) rfl ?_
  refine RR.nil ?_
  refine CC.cond_f rfl ?_
  refine CC.exit ?_
  refine CC.seq ?_
  refine CC.region ?_
  refine RR.pv (pv_as rfl) rfl ?_
  refine RR.nil ?_
  refine CC.seq ?_
  refine CC.region ?_
  refine RR.pv (pv_as rfl) rfl ?_
  refine RR.nil ?_
  refine CC.seq ?_
  refine CC.region ?_
  refine RR.pv (pv_as rfl) rfl ?_
  refine RR.nil ?_
  refine CC.seq ?_
  refine CC.seq ?_
  refine CC.region ?_
  refine RR.pv (pv_as rfl) rfl ?_
  refine RR.nil ?_
  refine CC.block ?_
  refine CC.loop (γ := Nat × Sym.DS × (Nat → Nat)) (F := fun g => [(1, own ab n), (2, .pointer (some ⟨bt, 0, none⟩)), (10, .slice (some ⟨bg, 0, none⟩) (body.length + 1) cg), (11, .pointer (some ⟨bl, 0, none⟩)),
      (13, .int .i64 (g.2.1.o : Int)), (14, .int .i64 (g.2.1.r : Int)), (15, .int .i64 (g.2.1.wt : Int)), (16, .int .i64 (g.1 : Int))])
    (I := fun g w' => g.1 ≤ body.length ∧ Sym.DPath (fun t => num (f t)) n g.2.1 (body.drop g.1) sd ∧ SN .i64 w' bl 0 256 g.2.2 ∧ WR w' bl 0 256 ∧ (∀ i, i < 256 → g.2.2 i = g.2.1.list i) ∧ Touch (fun b o => b = bl) w6 w') (μ := fun g => body.length - g.1)
    (0, ⟨fun i => i, 0, 0, 1⟩, h) ⟨rfl, rfl, rfl, rfl, rfl, rfl, rfl, rfl, trivial⟩ ⟨Nat.zero_le _, by rw [List.drop_zero]; exact hpath, hl8, hw8, hall, hT68⟩ ?_
  clear hl7 hw7 hT7 hl8 hw8 hall hT8 hT68 hpath
  rintro ⟨i, s, lh⟩ w9 ⟨hib, hpath, hl9, hw9, hall, hT9⟩
  dsimp only at hib hpath hl9 hall ⊢
  have hsg9 := hsg.touch hT9 (fun _ _ h => by omega)
  have hnum9 := hnum6.touch hT9 (fun _ _ h => by omega)
  have hread9 : 0 < n → ∃ bb ob, (ab.map fun b => (⟨b, 0, none⟩ : Addr)) = some ⟨bb, ob, none⟩ ∧ SN .u8 w9 bb ob n f := fun h => by
    obtain ⟨bb, ob, h1, h2⟩ := hread6 h
    exact ⟨bb, ob, h1, h2.touch hT9 (fun j hj he => by have := h2.lt h; omega)⟩
  have hl0 := hall 0 (by omega)
  by_cases hlt : i < body.length
  · rw [List.drop_eq_getElem_cons hlt] at hpath
    obtain ⟨m, hstep, hrest⟩ := hpath
    rw [← hgb i hlt] at hstep
    refine CC.seq ?_
    refine CC.seq ?_
    refine CC.region ?_
    refine RR.pv (pv_mv rfl) rfl ?_
    refine RR.pv (pv_mv rfl) rfl ?_
    refine RR.pv (pv_len rfl st28) rfl ?_
    first | refine RR.pv (pv_subN (n := 1) rfl rfl (by omega)) rfl ?_ | refine RR.pv (pv_sub64 rfl rfl (by omega)) rfl ?_
    first | refine RR.pv (pv_lss_t rfl rfl (by omega)) rfl ?_ | refine RR.pv (pv_lss_f rfl rfl (by omega)) rfl ?_ | refine RR.pv (pv_lss rfl rfl) rfl ?_
    refine RR.nil ?_
    refine CC.cond_t rfl ?_
    rcases hstep with ⟨hc, rfl, hle, hwt0, hwtn⟩ | ⟨p, hp1, hp2, hc, hon, hrun, hxp, rfl⟩
    · -- a digit
      dsimp only at hle
      rcases hc with hc | hc
      · rw [hc] at hle hrest
        rw [show ((0 : Int) + 1).toNat * s.wt = s.wt from by simp] at hle hrest
        refine CC.skip ?_
        refine CC.seq ?_
        refine CC.block ?_
        refine CC.seq ?_
        refine CC.region ?_
        refine RR.pv (pv_mv rfl) rfl ?_
        refine RR.pv (pv_mv rfl) rfl ?_
        first | refine RR.pv (pv_ixN rfl rfl st28 (by omega)) rfl ?_ | refine RR.pv (pv_ixZ rfl rfl st28 (by omega)) rfl ?_
        refine RR.pv (pv_ld rfl ct21 (hsg9 _ (by omega))) rfl ?_
        refine RR.pv (pv_as rfl) rfl ?_
        refine RR.nil ?_
        rw [hc]
        refine CC.seq ?_
        refine CC.seq ?_
        refine CC.region ?_
        refine RR.pv (pv_mv rfl) rfl ?_
        first | refine RR.pv (pv_lss_t rfl rfl (by omega)) rfl ?_ | refine RR.pv (pv_lss_f rfl rfl (by omega)) rfl ?_ | refine RR.pv (pv_lss rfl rfl) rfl ?_
        refine RR.pv (pv_mv rfl) rfl ?_
        first | refine RR.gy rfl rfl (pv_mv rfl) rfl ?_ | refine RR.gn rfl rfl rfl rfl ?_
        first | refine RR.gy rfl rfl (pv_gtr_t rfl rfl (by omega)) rfl ?_ | refine RR.gy rfl rfl (pv_gtr_f rfl rfl (by omega)) rfl ?_ | refine RR.gy rfl rfl (pv_gtr rfl rfl) rfl ?_ | refine RR.gn rfl rfl rfl rfl ?_
        first | refine RR.pv (pv_pick_t rfl rfl) rfl ?_ | refine RR.pv (pv_pick_f rfl rfl) rfl ?_
        refine RR.nil ?_
        refine CC.cond_f rfl ?_
        refine CC.skip ?_
        refine CC.seq ?_
        refine CC.seq ?_
        refine CC.region ?_
        refine RR.pv (pv_mv rfl) rfl ?_
        first | refine RR.pv (pv_leq_t rfl rfl (by omega)) rfl ?_ | refine RR.pv (pv_leq_f rfl rfl (by omega)) rfl ?_ | refine RR.pv (pv_leq rfl rfl) rfl ?_
        refine RR.nil ?_
        refine CC.cond_t rfl ?_
        refine CC.seq ?_
        refine CC.region ?_
        refine RR.pv (pv_mv rfl) rfl ?_
        refine RR.pv (pv_mv rfl) rfl ?_
        refine RR.pv (pv_add32 rfl rfl (by omega)) rfl ?_
        refine RR.pv (pv_c21_3 rfl (by omega)) rfl ?_
        refine RR.pv (pv_mv rfl) rfl ?_
        first | refine RR.pv (pv_mulN rfl rfl (by omega)) rfl ?_ | refine RR.pv (pv_mul64 rfl rfl (by omega)) rfl ?_
        first | refine RR.pv (pv_addN rfl rfl (by omega)) rfl ?_ | refine RR.pv (pv_add64 rfl rfl (by omega)) rfl ?_
        refine RR.pv (pv_as rfl) rfl ?_
        refine RR.nil ?_
        rw [show (s.r : Int) + (0 + 1) * (s.wt : Int) = ((s.r + s.wt : Nat) : Int) from by omega]
        refine CC.seq ?_
        refine CC.region ?_
        refine RR.pv (pv_mv rfl) rfl ?_
        first | refine RR.pv (pv_mulN (n := 2) rfl rfl (by omega)) rfl ?_ | refine RR.pv (pv_mul64 rfl rfl (by omega)) rfl ?_
        refine RR.pv (pv_as rfl) rfl ?_
        refine RR.nil ?_
        refine CC.seq ?_
        refine CC.seq ?_
        refine CC.region ?_
        refine RR.pv (pv_mv rfl) rfl ?_
        refine RR.pv (pv_mv rfl) rfl ?_
        refine RR.pv (pv_len rfl st22) rfl ?_
        first | refine RR.pv (pv_gtr_t rfl rfl (by omega)) rfl ?_ | refine RR.pv (pv_gtr_f rfl rfl (by omega)) rfl ?_ | refine RR.pv (pv_gtr rfl rfl) rfl ?_
        refine RR.nil ?_
        refine CC.cond_f rfl ?_
        refine CC.skip ?_
        refine CC.exit ?_
        refine CC.region ?_
        refine RR.pv (pv_mv rfl) rfl ?_
        first | refine RR.pv (pv_addN (n := 1) rfl rfl (by omega)) rfl ?_ | refine RR.pv (pv_add64 rfl rfl (by omega)) rfl ?_
        refine RR.pv (pv_as rfl) rfl ?_
        refine RR.nil ?_
        exact Nxt.go (i + 1, ⟨s.list, s.o, s.r + s.wt, s.wt * 2⟩, lh) ⟨rfl, rfl, rfl, rfl, rfl, rfl, rfl, rfl, trivial⟩ ⟨hlt, hrest, hl9, hw9, hall, hT9⟩ (by dsimp only; omega)
      · rw [hc] at hle hrest
        rw [show ((1 : Int) + 1).toNat * s.wt = 2 * s.wt from by simp] at hle hrest
        refine CC.skip ?_
        refine CC.seq ?_
        refine CC.block ?_
        refine CC.seq ?_
        refine CC.region ?_
        refine RR.pv (pv_mv rfl) rfl ?_
        refine RR.pv (pv_mv rfl) rfl ?_
        first | refine RR.pv (pv_ixN rfl rfl st28 (by omega)) rfl ?_ | refine RR.pv (pv_ixZ rfl rfl st28 (by omega)) rfl ?_
        refine RR.pv (pv_ld rfl ct21 (hsg9 _ (by omega))) rfl ?_
        refine RR.pv (pv_as rfl) rfl ?_
        refine RR.nil ?_
        rw [hc]
        refine CC.seq ?_
        refine CC.seq ?_
        refine CC.region ?_
        refine RR.pv (pv_mv rfl) rfl ?_
        first | refine RR.pv (pv_lss_t rfl rfl (by omega)) rfl ?_ | refine RR.pv (pv_lss_f rfl rfl (by omega)) rfl ?_ | refine RR.pv (pv_lss rfl rfl) rfl ?_
        refine RR.pv (pv_mv rfl) rfl ?_
        first | refine RR.gy rfl rfl (pv_mv rfl) rfl ?_ | refine RR.gn rfl rfl rfl rfl ?_
        first | refine RR.gy rfl rfl (pv_gtr_t rfl rfl (by omega)) rfl ?_ | refine RR.gy rfl rfl (pv_gtr_f rfl rfl (by omega)) rfl ?_ | refine RR.gy rfl rfl (pv_gtr rfl rfl) rfl ?_ | refine RR.gn rfl rfl rfl rfl ?_
        first | refine RR.pv (pv_pick_t rfl rfl) rfl ?_ | refine RR.pv (pv_pick_f rfl rfl) rfl ?_
        refine RR.nil ?_
        refine CC.cond_f rfl ?_
        refine CC.skip ?_
        refine CC.seq ?_
        refine CC.seq ?_
        refine CC.region ?_
        refine RR.pv (pv_mv rfl) rfl ?_
        first | refine RR.pv (pv_leq_t rfl rfl (by omega)) rfl ?_ | refine RR.pv (pv_leq_f rfl rfl (by omega)) rfl ?_ | refine RR.pv (pv_leq rfl rfl) rfl ?_
        refine RR.nil ?_
        refine CC.cond_t rfl ?_
        refine CC.seq ?_
        refine CC.region ?_
        refine RR.pv (pv_mv rfl) rfl ?_
        refine RR.pv (pv_mv rfl) rfl ?_
        refine RR.pv (pv_add32 rfl rfl (by omega)) rfl ?_
        refine RR.pv (pv_c21_3 rfl (by omega)) rfl ?_
        refine RR.pv (pv_mv rfl) rfl ?_
        first | refine RR.pv (pv_mulN rfl rfl (by omega)) rfl ?_ | refine RR.pv (pv_mul64 rfl rfl (by omega)) rfl ?_
        first | refine RR.pv (pv_addN rfl rfl (by omega)) rfl ?_ | refine RR.pv (pv_add64 rfl rfl (by omega)) rfl ?_
        refine RR.pv (pv_as rfl) rfl ?_
        refine RR.nil ?_
        rw [show (s.r : Int) + (1 + 1) * (s.wt : Int) = ((s.r + 2 * s.wt : Nat) : Int) from by omega]
        refine CC.seq ?_
        refine CC.region ?_
        refine RR.pv (pv_mv rfl) rfl ?_
        first | refine RR.pv (pv_mulN (n := 2) rfl rfl (by omega)) rfl ?_ | refine RR.pv (pv_mul64 rfl rfl (by omega)) rfl ?_
        refine RR.pv (pv_as rfl) rfl ?_
        refine RR.nil ?_
        refine CC.seq ?_
        refine CC.seq ?_
        refine CC.region ?_
        refine RR.pv (pv_mv rfl) rfl ?_
        refine RR.pv (pv_mv rfl) rfl ?_
        refine RR.pv (pv_len rfl st22) rfl ?_
        first | refine RR.pv (pv_gtr_t rfl rfl (by omega)) rfl ?_ | refine RR.pv (pv_gtr_f rfl rfl (by omega)) rfl ?_ | refine RR.pv (pv_gtr rfl rfl) rfl ?_
        refine RR.nil ?_
        refine CC.cond_f rfl ?_
        refine CC.skip ?_
        refine CC.exit ?_
        refine CC.region ?_
        refine RR.pv (pv_mv rfl) rfl ?_
        first | refine RR.pv (pv_addN (n := 1) rfl rfl (by omega)) rfl ?_ | refine RR.pv (pv_add64 rfl rfl (by omega)) rfl ?_
        refine RR.pv (pv_as rfl) rfl ?_
        refine RR.nil ?_
        exact Nxt.go (i + 1, ⟨s.list, s.o, s.r + 2 * s.wt, s.wt * 2⟩, lh) ⟨rfl, rfl, rfl, rfl, rfl, rfl, rfl, rfl, trivial⟩ ⟨hlt, hrest, hl9, hw9, hall, hT9⟩ (by dsimp only; omega)
    · -- a symbol
      have hc' : gx i = ((p + 1 : Nat) : Int) := by omega
      have hlp := hall p (by omega)
      refine CC.skip ?_
      refine CC.seq ?_
      refine CC.block ?_
      refine CC.seq ?_
      refine CC.region ?_
      refine RR.pv (pv_mv rfl) rfl ?_
      refine RR.pv (pv_mv rfl) rfl ?_
      first | refine RR.pv (pv_ixN rfl rfl st28 (by omega)) rfl ?_ | refine RR.pv (pv_ixZ rfl rfl st28 (by omega)) rfl ?_
      refine RR.pv (pv_ld rfl ct21 (hsg9 _ (by omega))) rfl ?_
      refine RR.pv (pv_as rfl) rfl ?_
      refine RR.nil ?_
      rw [hc']
      refine CC.seq ?_
      refine CC.seq ?_
      refine CC.region ?_
      refine RR.pv (pv_mv rfl) rfl ?_
      first | refine RR.pv (pv_lss_t rfl rfl (by omega)) rfl ?_ | refine RR.pv (pv_lss_f rfl rfl (by omega)) rfl ?_ | refine RR.pv (pv_lss rfl rfl) rfl ?_
      refine RR.pv (pv_mv rfl) rfl ?_
      first | refine RR.gy rfl rfl (pv_mv rfl) rfl ?_ | refine RR.gn rfl rfl rfl rfl ?_
      first | refine RR.gy rfl rfl (pv_gtr_t rfl rfl (by omega)) rfl ?_ | refine RR.gy rfl rfl (pv_gtr_f rfl rfl (by omega)) rfl ?_ | refine RR.gy rfl rfl (pv_gtr rfl rfl) rfl ?_ | refine RR.gn rfl rfl rfl rfl ?_
      first | refine RR.pv (pv_pick_t rfl rfl) rfl ?_ | refine RR.pv (pv_pick_f rfl rfl) rfl ?_
      refine RR.nil ?_
      refine CC.cond_f rfl ?_
      refine CC.skip ?_
      refine CC.seq ?_
      refine CC.seq ?_
      refine CC.region ?_
      refine RR.pv (pv_mv rfl) rfl ?_
      first | refine RR.pv (pv_leq_t rfl rfl (by omega)) rfl ?_ | refine RR.pv (pv_leq_f rfl rfl (by omega)) rfl ?_ | refine RR.pv (pv_leq rfl rfl) rfl ?_
      refine RR.nil ?_
      refine CC.cond_f rfl ?_
      refine CC.skip ?_
      refine CC.seq ?_
      refine CC.seq ?_
      refine CC.region ?_
      refine RR.pv (pv_mv rfl) rfl ?_
      refine RR.pv (pv_mv rfl) rfl ?_
      first | refine RR.pv (pv_iaN (i := 0) rfl rfl at37 (by omega)) rfl ?_ | refine RR.pv (pv_iaZ rfl rfl at37 (by omega)) rfl ?_
      refine RR.pv (pv_ld rfl ct3 (hl9 _ (by omega))) rfl ?_
      refine RR.pv (pv_mv rfl) rfl ?_
      refine RR.pv (pv_mv rfl) rfl ?_
      refine RR.call Try.func26 nm26 rfl rfl (emitRun_true (ab.map fun b => ⟨b, 0, none⟩) n n bt 0 s.o s.r (lh 0) f num w9 (by omega) hread9 hf hnum9 hnum' (by omega) (fun k hk => by rw [hl0]; exact hrun k hk)) rfl ?_
      rintro v w10 ⟨rfl, rfl⟩
      first | refine RR.pv (pv_not_t rfl) rfl ?_ | refine RR.pv (pv_not_f rfl) rfl ?_ | refine RR.pv (pv_not rfl) rfl ?_
      refine RR.nil ?_
      refine CC.cond_f rfl ?_
      refine CC.skip ?_
      refine CC.seq ?_
      refine CC.region ?_
      refine RR.pv (pv_mv rfl) rfl ?_
      refine RR.pv (pv_mv rfl) rfl ?_
      first | refine RR.pv (pv_addN rfl rfl (by omega)) rfl ?_ | refine RR.pv (pv_add64 rfl rfl (by omega)) rfl ?_
      refine RR.pv (pv_as rfl) rfl ?_
      refine RR.nil ?_
      refine CC.seq ?_
      refine CC.region ?_
      refine RR.pv (pv_as rfl) rfl ?_
      refine RR.nil ?_
      refine CC.seq ?_
      refine CC.region ?_
      refine RR.pv (pv_as rfl) rfl ?_
      refine RR.nil ?_
      refine CC.seq ?_
      refine CC.region ?_
      refine RR.pv (pv_mv rfl) rfl ?_
      refine RR.pv (pv_c21_3 rfl (by omega)) rfl ?_
      first | refine RR.pv (pv_subN (n := 1) rfl rfl (by omega)) rfl ?_ | refine RR.pv (pv_sub64 rfl rfl (by omega)) rfl ?_
      refine RR.pv (pv_as rfl) rfl ?_
      refine RR.nil ?_
      rw [Nat.add_sub_cancel]
      refine CC.seq ?_
      refine CC.region ?_
      refine RR.pv (pv_mv rfl) rfl ?_
      first | refine RR.pv (pv_iaN rfl rfl at37 (by omega)) rfl ?_ | refine RR.pv (pv_iaZ rfl rfl at37 (by omega)) rfl ?_
      refine RR.pv (pv_ld rfl ct3 (hl9 _ (by omega))) rfl ?_
      refine RR.pv (pv_as rfl) rfl ?_
      refine RR.nil ?_
      refine CC.seq ?_
      refine CC.seq ?_
      refine CC.region ?_
      refine RR.pv (pv_mv rfl) rfl ?_
      refine RR.pv (pv_as rfl) rfl ?_
      refine RR.nil ?_
      refine CC.block ?_
      refine CC.loop (γ := Nat × (Nat → Nat)) (F := fun g => [(1, own ab n), (2, .pointer (some ⟨bt, 0, none⟩)), (10, .slice (some ⟨bg, 0, none⟩) (body.length + 1) cg), (11, .pointer (some ⟨bl, 0, none⟩)),
          (13, .int .i64 ((s.o + s.r : Nat) : Int)), (14, .int .i64 0), (15, .int .i64 1), (16, .int .i64 (i : Int)), (19, .int .i64 ((lh p : Nat) : Int)), (20, .int .i64 (g.1 : Int))])
        (I := fun g w' => g.1 ≤ p ∧ SN .i64 w' bl 0 256 g.2 ∧ WR w' bl 0 256 ∧ (∀ k, k < 256 → g.2 k = if g.1 < k ∧ k ≤ p then s.list (k - 1) else s.list k) ∧ Touch (fun b o => b = bl) w6 w') (μ := fun g => g.1)
        (p, lh) ⟨rfl, rfl, rfl, rfl, rfl, rfl, rfl, rfl, rfl, rfl, trivial⟩ ⟨Nat.le_refl _, hl9, hw9, fun k hk => by dsimp only; rw [if_neg (by omega)]; exact hall k hk, hT9⟩ ?_
      rintro ⟨j, lj⟩ w11 ⟨hj, hl11, hw11, hall11, hT11⟩
      dsimp only at hj hl11 hall11 ⊢
      by_cases hj0 : 0 < j
      · refine CC.seq ?_
        refine CC.seq ?_
        refine CC.region ?_
        refine RR.pv (pv_mv rfl) rfl ?_
        first | refine RR.pv (pv_gtr_t rfl rfl (by omega)) rfl ?_ | refine RR.pv (pv_gtr_f rfl rfl (by omega)) rfl ?_ | refine RR.pv (pv_gtr rfl rfl) rfl ?_
        refine RR.nil ?_
        refine CC.cond_t rfl ?_
        refine CC.skip ?_
        refine CC.seq ?_
        refine CC.block ?_
        refine CC.region ?_
        refine RR.pv (pv_mv rfl) rfl ?_
        refine RR.pv (pv_mv rfl) rfl ?_
        first | refine RR.pv (pv_subN (n := 1) rfl rfl (by omega)) rfl ?_ | refine RR.pv (pv_sub64 rfl rfl (by omega)) rfl ?_
        first | refine RR.pv (pv_iaN rfl rfl at37 (by omega)) rfl ?_ | refine RR.pv (pv_iaZ rfl rfl at37 (by omega)) rfl ?_
        refine RR.pv (pv_ld rfl ct3 (hl11 _ (by omega))) rfl ?_
        first | refine RR.pv (pv_iaN rfl rfl at37 (by omega)) rfl ?_ | refine RR.pv (pv_iaZ rfl rfl at37 (by omega)) rfl ?_
        refine RR.st rfl rfl ct3 OneV.i (hl11 _ (by omega)) (hw11 _ (by omega)) ?_
        refine RR.nil ?_
        refine CC.region ?_
        refine RR.pv (pv_mv rfl) rfl ?_
        first | refine RR.pv (pv_subN (n := 1) rfl rfl (by omega)) rfl ?_ | refine RR.pv (pv_sub64 rfl rfl (by omega)) rfl ?_
        refine RR.pv (pv_as rfl) rfl ?_
        refine RR.nil ?_
        refine Nxt.go (j - 1, upd lj j (lj (j - 1))) ⟨rfl, rfl, rfl, rfl, rfl, rfl, rfl, rfl, rfl, rfl, trivial⟩ ⟨by dsimp only; omega, hl11.set (by omega) _, hw11.set, fun k hk => ?_, hT11.trans (Touch.setCell _ _ _ _) (fun _ _ _ h => h) (fun _ _ _ h => h.1)⟩ (by dsimp only; omega)
        dsimp only
        by_cases e : k = j
        · subst e
          rw [upd_same, if_pos (by omega), hall11 (k - 1) (by omega), if_neg (by omega)]
        · rw [upd_ne _ _ e, hall11 k hk]
          by_cases e2 : j < k ∧ k ≤ p
          · rw [if_pos e2, if_pos (by omega)]
          · rw [if_neg e2, if_neg (by omega)]
      have hjz : j = 0 := by omega
      subst hjz
      have hsg11 := hsg.touch hT11 (fun _ _ h => by omega)
      refine CC.seq ?_
      refine CC.seq ?_
      refine CC.region ?_
      refine RR.pv (pv_mv rfl) rfl ?_
      first | refine RR.pv (pv_gtr_t rfl rfl (by omega)) rfl ?_ | refine RR.pv (pv_gtr_f rfl rfl (by omega)) rfl ?_ | refine RR.pv (pv_gtr rfl rfl) rfl ?_
      refine RR.nil ?_
      refine CC.cond_f rfl ?_
      refine CC.exit ?_
      refine CC.seq ?_
      refine CC.region ?_
      refine RR.pv (pv_mv rfl) rfl ?_
      first | refine RR.pv (pv_iaN (i := 0) rfl rfl at37 (by omega)) rfl ?_ | refine RR.pv (pv_iaZ rfl rfl at37 (by omega)) rfl ?_
      refine RR.st rfl rfl ct3 OneV.i (hl11 _ (by omega)) (hw11 _ (by omega)) ?_
      refine RR.nil ?_
      have hl12 := hl11.set (i := 0) (by omega) (lh p)
      have hw12 : WR (w11.setCell ⟨bl, 0 + 0, none⟩ (.int .i64 ((lh p : Nat) : Int))) bl 0 256 := hw11.set
      have hT12 : Touch (fun b o => b = bl) w6 (w11.setCell ⟨bl, 0 + 0, none⟩ (.int .i64 ((lh p : Nat) : Int))) := hT11.trans (Touch.setCell _ _ _ _) (fun _ _ _ h => h) (fun _ _ _ h => h.1)
      generalize w11.setCell ⟨bl, 0 + 0, none⟩ (.int .i64 ((lh p : Nat) : Int)) = w12 at hl12 hw12 hT12 ⊢
      have hnum12 := hnum6.touch hT12 (fun _ _ h => by omega)
      obtain ⟨bb, ob, hab, hs6⟩ := hread6 (by omega)
      have hs12 := hs6.touch hT12 (fun k hk he => by have := hs6.lt (by omega); omega)
      have hfo := hf (s.o + s.r)
      have hno := hnum' (f (s.o + s.r))
      have hxp' : num (f (s.o + s.r)) = lh p := by rw [hlp]; exact hxp
      unfold own
      rw [hab]
      refine CC.seq ?_
      refine CC.seq ?_
      refine CC.regionQ (by decide +kernel) ?_
      refine RR.pv (pv_mv rfl) rfl ?_
      refine RR.pv (pv_mv rfl) rfl ?_
      refine RR.pv (pv_len rfl st22) rfl ?_
      first | refine RR.pv (pv_geq_t rfl rfl (by omega)) rfl ?_ | refine RR.pv (pv_geq_f rfl rfl (by omega)) rfl ?_ | refine RR.pv (pv_geq rfl rfl) rfl ?_
      refine RR.pv (pv_mv rfl) rfl ?_
      first | refine RR.gy rfl rfl (pv_mv rfl) rfl ?_ | refine RR.gn rfl rfl rfl rfl ?_
      first | refine RR.gy rfl rfl (pv_mv rfl) rfl ?_ | refine RR.gn rfl rfl rfl rfl ?_
      first | refine RR.gy rfl rfl (pv_mv rfl) rfl ?_ | refine RR.gn rfl rfl rfl rfl ?_
      first | refine RR.gy rfl rfl (pv_ixN rfl rfl st22 (by omega)) rfl ?_ | refine RR.gy rfl rfl (pv_ixZ rfl rfl st22 (by omega)) rfl ?_ | refine RR.gn rfl rfl rfl rfl ?_
      first | refine RR.gy rfl rfl (pv_ld rfl ct5 (hs12 _ (by omega))) rfl ?_ | refine RR.gn rfl rfl rfl rfl ?_
      first | refine RR.gy rfl rfl (pv_nilck rfl) rfl ?_ | refine RR.gn rfl rfl rfl rfl ?_
      first | refine RR.gy rfl rfl (pv_iaN rfl rfl at40 (by omega)) rfl ?_ | refine RR.gy rfl rfl (pv_iaZ rfl rfl at40 (by omega)) rfl ?_ | refine RR.gn rfl rfl rfl rfl ?_
      first | refine RR.gy rfl rfl (pv_ld rfl ct5 (hnum12 _ (by omega))) rfl ?_ | refine RR.gn rfl rfl rfl rfl ?_
      first | refine RR.gy rfl rfl (pv_c5_3 rfl (by omega)) rfl ?_ | refine RR.gn rfl rfl rfl rfl ?_
      first | refine RR.gy rfl rfl (pv_mv rfl) rfl ?_ | refine RR.gn rfl rfl rfl rfl ?_
      first | refine RR.gy rfl rfl (pv_neq_t rfl rfl (by omega)) rfl ?_ | refine RR.gy rfl rfl (pv_neq_f rfl rfl (by omega)) rfl ?_ | refine RR.gy rfl rfl (pv_neq rfl rfl) rfl ?_ | refine RR.gn rfl rfl rfl rfl ?_
      first | refine RR.pv (pv_pick_t rfl rfl) rfl ?_ | refine RR.pv (pv_pick_f rfl rfl) rfl ?_
      refine RR.nil ?_
      refine CC.cond_f rfl ?_
      refine CC.skip ?_
      refine CC.region ?_
      refine RR.pv (pv_mv rfl) rfl ?_
      first | refine RR.pv (pv_addN (n := 1) rfl rfl (by omega)) rfl ?_ | refine RR.pv (pv_add64 rfl rfl (by omega)) rfl ?_
      refine RR.pv (pv_as rfl) rfl ?_
      refine RR.nil ?_
      refine CC.region ?_
      refine RR.pv (pv_mv rfl) rfl ?_
      first | refine RR.pv (pv_addN (n := 1) rfl rfl (by omega)) rfl ?_ | refine RR.pv (pv_add64 rfl rfl (by omega)) rfl ?_
      refine RR.pv (pv_as rfl) rfl ?_
      refine RR.nil ?_
      refine Nxt.go (i + 1, ⟨Sym.mtf s.list p (s.list p), s.o + s.r + 1, 0, 1⟩, upd lj 0 (lh p)) ?_ ⟨hlt, hrest, hl12, hw12, fun k hk => ?_, hT12⟩ (by dsimp only; omega)
      · exact ⟨rfl, rfl, rfl, rfl, rfl, rfl, rfl, rfl, trivial⟩
      · dsimp only
        simp only [Sym.mtf]
        by_cases e : k = 0
        · subst e
          rw [upd_same, if_pos rfl, hlp]
        · rw [upd_ne _ _ e, if_neg e, hall11 k hk]
          by_cases e2 : k ≤ p
          · rw [if_pos e2, if_pos (by omega)]
          · rw [if_neg e2, if_neg (by omega)]
  · have hib' : i = body.length := by omega
    rw [hib', List.drop_length] at hpath
    have hpath' : s = sd := hpath
    subst hpath'
    refine CC.seq ?_
    refine CC.seq ?_
    refine CC.region ?_
    refine RR.pv (pv_mv rfl) rfl ?_
    refine RR.pv (pv_mv rfl) rfl ?_
    refine RR.pv (pv_len rfl st28) rfl ?_
    first | refine RR.pv (pv_subN (n := 1) rfl rfl (by omega)) rfl ?_ | refine RR.pv (pv_sub64 rfl rfl (by omega)) rfl ?_
    first | refine RR.pv (pv_lss_t rfl rfl (by omega)) rfl ?_ | refine RR.pv (pv_lss_f rfl rfl (by omega)) rfl ?_ | refine RR.pv (pv_lss rfl rfl) rfl ?_
    refine RR.nil ?_
    refine CC.cond_f rfl ?_
    refine CC.exit ?_
    refine CC.seq ?_
    refine CC.seq ?_
    refine CC.region ?_
    refine RR.pv (pv_mv rfl) rfl ?_
    refine RR.pv (pv_mv rfl) rfl ?_
    first | refine RR.pv (pv_iaN (i := 0) rfl rfl at37 (by omega)) rfl ?_ | refine RR.pv (pv_iaZ rfl rfl at37 (by omega)) rfl ?_
    refine RR.pv (pv_ld rfl ct3 (hl9 _ (by omega))) rfl ?_
    refine RR.pv (pv_mv rfl) rfl ?_
    refine RR.pv (pv_mv rfl) rfl ?_
    refine RR.call Try.func26 nm26 rfl rfl (emitRun_true (ab.map fun b => ⟨b, 0, none⟩) n n bt 0 s.o s.r (lh 0) f num w9 (by omega) hread9 hf hnum9 hnum' (by omega) (fun k hk => by rw [hl0]; exact hsr k hk)) rfl ?_
    rintro v w10 ⟨rfl, rfl⟩
    first | refine RR.pv (pv_not_t rfl) rfl ?_ | refine RR.pv (pv_not_f rfl) rfl ?_ | refine RR.pv (pv_not rfl) rfl ?_
    refine RR.nil ?_
    refine CC.cond_f rfl ?_
    refine CC.skip ?_
    refine CC.seq ?_
    refine CC.region ?_
    refine RR.pv (pv_mv rfl) rfl ?_
    refine RR.pv (pv_mv rfl) rfl ?_
    first | refine RR.pv (pv_addN rfl rfl (by omega)) rfl ?_ | refine RR.pv (pv_add64 rfl rfl (by omega)) rfl ?_
    refine RR.pv (pv_mv rfl) rfl ?_
    refine RR.pv (pv_len rfl st22) rfl ?_
    first | refine RR.pv (pv_eql_t rfl rfl (by omega)) rfl ?_ | refine RR.pv (pv_eql_f rfl rfl (by omega)) rfl ?_ | refine RR.pv (pv_eql rfl rfl) rfl ?_
    refine RR.pv (pv_as rfl) rfl ?_
    refine RR.nil ?_
    refine CC.ret ?_
    refine EndQ.r1 Try.results8 rfl ⟨rfl, hTall.trans hT9 (fun _ _ _ h => h) (fun b o hb h => by omega)⟩

end Go.Proofs.Qxb6602663a.Vc
