/- The count-table law: the row, and the tied card. -/
import Derived.Test.Qxb6003329aDoorOpen
import Derived.Test.Qxb6003329aDoorTie
import Derived.Test.Qxb6003329aDoorCards
import Derived.Lay
import Derived.LaidLaws
import Derived.SevenTiedAt
namespace Go.Proofs.Qxb6003329aDoor.fnCountTableScriptKeepsRowsAndTotals
open Go.ChangeShapes Go.WideShapes Go.ChangeAt Go.RowKit
open Go.Proofs.Qxb6003329aDoor.Op
open Go.Proofs.Qxb6003329aDoor.Fm

/-- What the row lists. -/
abbrev L : List (String × DataW Unit) := Rows.fnCountTableScriptKeepsRowsAndTotalsRow.laid

theorem pow_at : Tryd.prog.globalNamed Tryd.powName = some 0 := by kernel_rfl
theorem pow_type : (Tryd.prog.globals[0]?).map (·.type) = some 51 := by kernel_rfl
theorem cells39 : Tryd.prog.cellsOf 39 = 1 := by kernel_rfl
theorem cells51 : Tryd.prog.cellsOf 51 = 20 := by kernel_rfl
theorem plainL : (L.all fun x => x.2.handleName?.isNone) = true := by kernel_rfl
theorem listed : L = (L.head?.getD ("", .nil)) :: (L.tail.head?.getD ("", .nil)) :: [(Tryd.powName, Lib.tabData .u64 Lib.pow10Tab)] := by kernel_rfl

/-- The formatter's table, off the row's own condition. -/
theorem tab_of_laid {W : World} (h : laidMetH Tryd.prog L W) : Tab W := by
  rw [MakeChecks.laidMetH_plain _ _ _ plainL, listed] at h
  exact Lib.tabIs_of_head pow_at pow_type Tryd.underlying51 Tryd.underlying39 cells39 cells51 h.tail.tail

set_option maxRecDepth 100000 in
theorem lifted (os : Os) (started : os.Started) (H : Type) (enc : TypeId × Value → H) :
    ReturnsInHanded {} Tryd.checked os 3 .any (fun w args => (Rows.fnCountTableScriptKeepsRowsAndTotalsSpec.pre enc Tryd.prog Tryd.f3 [] false w args ∧ laidMetH Tryd.prog L w) ∧ sizedMet enc Tryd.prog Tryd.f3 (OpenSpec.ofChange Rows.fnCountTableScriptKeepsRowsAndTotalsSpec) false w args)
      (Rows.fnCountTableScriptKeepsRowsAndTotalsSpec.post enc Tryd.prog Tryd.f3 false true false false) := by
  refine returnsInHanded_of_change_and (C := Tryd.checked) (X := fun w _ => laidMetH Tryd.prog L w) (fun _ _ _ hh h => h.of_heap hh) own started (by kernel_rfl) Tryd.func3
    (ChangeSpec.witness_shaped (enc := enc) (C := Tryd.checked) (os := os) (X := fun w _ => laidMetH Tryd.prog L w) false (World.laidAll Tryd.prog os L) #[.slice none 0 0, .slice none 0 0, .slice none 0 0] 8 (World.laidAll_os _ _ _)
      (World.shaped_of_ZipB (by kernel_rfl) (by kernel_rfl)) (by kernel_rfl) (by kernel_rfl) (by kernel_rfl)
      (by rw [MakeChecks.laidMetH_plain _ _ _ plainL]; exact laidMet_laidAll _ (by kernel_rfl) (by kernel_rfl))) ?_
  intro W base args ds gs before hval0 hW _ _ hL _
  have hval : ∀ (j : Nat) t v, Tryd.f3.params[j]? = some t → args[j]? = some v → Value.okWide Tryd.prog W .any base t v := hval0
  have hW' := hW
  obtain ⟨p, q, hA0, hV, rfl, hfz, hnd⟩ := hW
  have hA : DataW.TrodAll enc Tryd.prog W 0 (fun _ => true) true Tryd.f3.params.toList args.toList ds p := hA0
  rw [Tryd.params3] at hA hval
  obtain ⟨v0, vs0, d0, ds0, p0, q0, hargs, rfl, rfl, h0, r0⟩ := trodAll_cons hA
  obtain ⟨v1, vs1, d1, ds1, p1, q1, rfl, rfl, rfl, h1, r1⟩ := trodAll_cons r0
  obtain ⟨v2, vs2, d2, ds2, p2, q2, rfl, rfl, rfl, h2, r2⟩ := trodAll_cons r1
  obtain ⟨rfl, rfl, rfl⟩ := trodAll_nil r2
  obtain rfl : args = #[v0, v1, v2] := by cases args; simp_all
  obtain ⟨rfl, rfl⟩ := trodVars_none hV
  obtain ⟨ag, n, cg, rfl⟩ := okWide_slice Tryd.underlying22 (hval 0 22 v0 rfl rfl)
  obtain ⟨an, nn, cn, rfl⟩ := okWide_slice Tryd.underlying23 (hval 1 23 v1 rfl rfl)
  obtain ⟨ac, nc, cc, rfl⟩ := okWide_slice Tryd.underlying24 (hval 2 24 v2 rfl rfl)
  have lt0 : ∀ x ∈ p0, x.block < W.heap.size := by obtain ⟨m, hm⟩ := h0; exact DataW.trod_lt m _ _ _ hm
  have lt1 : ∀ x ∈ p1, x.block < W.heap.size := by obtain ⟨m, hm⟩ := h1; exact DataW.trod_lt m _ _ _ hm
  have lt2 : ∀ x ∈ p2, x.block < W.heap.size := by obtain ⟨m, hm⟩ := h2; exact DataW.trod_lt m _ _ _ hm
  obtain ⟨bg, og, s, rG⟩ := open_strs h0
  obtain ⟨bn, on, z, rN, hZ⟩ := open_nums h1
  obtain ⟨bc, oc, c, rC⟩ := open_grid h2
  have hT := tab_of_laid hL
  clear hA0 hval0
  refine (Lw.law_walk ag n cg bg og s an nn cn bn on z ac nc cc bc oc c W rG rN rC hT hZ).mono fun e W' ⟨he, bel⟩ => ?_
  subst he
  exact ⟨_, rfl, _, _, _, [], _, [], hW', trodAll_mk1 (shut_bool Tryd.underlying4 _),
    (trodAll_cons_mk (Below.trod laidOut (by kernel_rfl) (of_decide_eq_true (by kernel_rfl)) h0 bel lt0) (trodAll_cons_mk (Below.trod laidOut (by kernel_rfl) (of_decide_eq_true (by kernel_rfl)) h1 bel lt1)
      (trodAll_cons_mk (Below.trod laidOut (by kernel_rfl) (of_decide_eq_true (by kernel_rfl)) h2 bel lt2) trodAll_mk0))), rfl, bel.frame _, fun h => by cases h⟩

theorem over : Rows.FnCountTableScriptKeepsRowsAndTotalsSaid :=
  OpenClaim.holds_of_wide 3 Tryd.f3 rfl rfl rfl rfl rfl rfl rfl ⟨rfl, rfl, rfl, rfl, rfl⟩ rfl rfl rfl rfl rfl (by kernel_rfl) Tryd.func3 (by kernel_rfl)
    (of_decide_eq_true (by kernel_rfl)) (by unfold Func.isWrapper; first | (rw [if_pos (by decide +kernel)]; kernel_rfl) | (rw [if_neg (by decide +kernel)]; exact ⟨rfl, rfl⟩))
    (fun os started H enc _ => lifted os started H enc)

theorem named3 : Tryd.prog.funcNamed Rows.fnCountTableScriptKeepsRowsAndTotalsRow.func = some 3 := by kernel_rfl

theorem proved : Rows.FnCountTableScriptKeepsRowsAndTotalsCardSaid :=
  Claim7.holds_tied_plain_at .later [] [.data, .data, .data] true (true, "05a67a3b605017fe0109e0305d12a18ef4ba34cf931908866579e6932da41c2f") false
    over (fun _ h => by cases h) (by kernel_rfl) (fun _ h => by cases h) fnCountTableScriptKeepsRowsAndTotals_row_tie rfl ⟨rfl, rfl⟩ (by kernel_rfl) rfl
    (fun f fn hf hfn => by
      obtain rfl : f = 3 := Option.some.inj (named3.symm.trans hf) |>.symm
      obtain rfl : fn = Tryd.f3 := (Option.some.inj (Tryd.func3.symm.trans hfn)).symm
      exact ⟨by kernel_rfl, fun j t ht => by
        rw [Tryd.params3] at ht
        have hm : t ∈ [22, 23, 24] := by simpa using Array.mem_of_getElem? ht
        have hall : ([22, 23, 24].all fun u => !Tryd.prog.wantsStandIn u) = true := by kernel_rfl
        exact (show Tryd.prog.wantsStandIn t = false by simpa using List.all_eq_true.1 hall t hm)⟩)
    (by kernel_rfl)
end Go.Proofs.Qxb6003329aDoor.fnCountTableScriptKeepsRowsAndTotals
