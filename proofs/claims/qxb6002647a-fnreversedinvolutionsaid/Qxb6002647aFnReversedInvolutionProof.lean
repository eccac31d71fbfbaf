/- The reversal law: the walk filled into the shell of the seat. -/
import Derived.Test.Qxb6002647aRows
import Derived.Test.Qxb6002647aRevWalks
import Derived.WalkKit
import Derived.ProofKit
import Derived.OpenShut
import Derived.ShutString
import Derived.ChangeOld
import Derived.Below
namespace Go.Proofs.Qxb6002647a.fnReversedInvolution
open Go.ChangeShapes Go.WideShapes Go.ChangeAt Go.RowKit
open Go.ChangeMaps (open_string shut_string)
set_option linter.unusedVariables false

theorem own : ownKnob Try.prog.godebug = none := by kernel_rfl
theorem laidOut : laidOutB Try.prog = true := by kernel_rfl

/-- WHAT THE WALK IS TOLD OF A SLICE OF INTEGERS THAT CAME IN: it is nil; or it leads to a row of 'cap' cells, the numbers 'zs' (the first 'len' are its elements, the rest its spare room), each fitting its kind. -/
def IsRow (k : IntKind) (w : World) (a : Option Addr) (len cap : Nat) (zs : List Int) : Prop :=
  (a = none ∧ len = 0 ∧ cap = 0 ∧ zs = []) ∨
  ∃ x, a = some x ∧ len ≤ cap ∧ cap ≤ maxLen ∧ zs.length = cap ∧ (∀ i, i < zs.length → w.cell? (x.add i) = some (.int k (zs.getD i 0))) ∧ ∀ n ∈ zs, (Lit.int k n).wf = true

theorem len_any (ao : Option Addr) (len cap : Nat) (w : World) (h : len ≤ 1048576) : Calls Try.prog 11 #[.slice ao len cap] w fun e w' => e = .returned (.bool true) ∧ w' = w := by
  go_enter Try.func11, Try.ntmps11
  go_wp2
  go_ret
  exact ⟨rfl, rfl⟩

theorem len_no (ao : Option Addr) (len cap : Nat) (w : World) (h : 1048576 < len) : Calls Try.prog 11 #[.slice ao len cap] w fun e w' => e = .returned (.bool false) ∧ w' = w := by
  go_enter Try.func11, Try.ntmps11
  go_wp2
  go_ret
  exact ⟨rfl, rfl⟩

theorem zrev_row (ao : Option Addr) (len cap : Nat) (b off : Nat) (z : Nat → Int) (w : World) (h20 : len ≤ 1048576) (hao : 0 < len → ao = some ⟨b, off, none⟩) (hlt : 0 < len → b < w.heap.size)
    (hc : ∀ i, i < len → w.cell? ⟨b, off + i, none⟩ = some (.int .u8 (z i))) :
    Calls Try.prog 13 #[.slice ao len cap] w fun e w' => e = .returned (.slice (some ⟨w.heap.size, 0, none⟩) len len) ∧ w'.rowIs w.heap.size 5 len (fun j => .int .u8 (z (len - 1 - j))) ∧ Below w.heap.size w w' ∧ w'.heap.size = w.heap.size + 1 := by
  go_enter Try.func13, Try.ntmps13
  go_wp2_with fail
  refine (Rev.rev_row ao len cap b off z _ h20 hao hlt hc).mono ?_
  rintro e w1 ⟨rfl, hrow, hbel, hsz⟩
  have S1 : Hid (w1.heap.size = w.heap.size + 1) := hsz
  clear hsz
  go_wp2
  go_ret
  exact ⟨rfl, hrow, hbel, S1.out⟩

theorem walk_big (ao : Option Addr) (len cap : Nat) (w : World) (h : 1048576 < len) :
    Calls Try.prog 3 #[.slice ao len cap] w fun e w' => e = .returned (.bool true) ∧ Below w.heap.size w w' := by
  go_enter Try.func3, Try.ntmps3
  go_wp2_with fail
  refine (len_no ao len cap _ h).mono ?_
  rintro e w1 ⟨rfl, rfl⟩
  go_wp2
  go_ret
  exact ⟨rfl, Below.refl _ _⟩

theorem below_drewN {B : Nat} {a w : World} (h : Below B a w) (n : Nat) : Below B a (w.drewN n) := h.trans ⟨rfl, rfl, rfl, Nat.le_refl _, fun _ _ => rfl⟩

theorem zero_add_cell {w : World} {B n : Nat} {z : Nat → Int} (h : w.rowIs B 5 n (fun j => .int .u8 (z j))) : ∀ i, i < n → w.cell? ⟨B, 0 + i, none⟩ = some (.int .u8 (z i)) := fun i hi => by rw [Nat.zero_add]; exact h.cell hi

set_option maxHeartbeats 600000 in
/-- The nil slice. -/
theorem walk_nil (w : World) : Calls Try.prog 3 #[.slice none 0 0] w fun e w' => e = .returned (.bool true) ∧ Below w.heap.size w w' := by
  go_enter Try.func3, Try.ntmps3
  go_wp2_with fail
  refine (len_any none 0 0 _ (by omega)).mono ?_
  rintro e w1 ⟨rfl, rfl⟩
  go_wp2_with fail
  refine (Rev.clone_nil _).mono ?_
  rintro e w1 ⟨rfl, rfl⟩
  go_wp2_with fail
  refine (Rev.clone_nil _).mono ?_
  rintro e w1 ⟨rfl, rfl⟩
  go_wp2_with fail
  refine (zrev_row none 0 0 0 0 (fun _ => 0) _ (by omega) (fun h => by omega) (fun h => by omega) (fun i hi => by omega)).mono ?_
  rintro e w3 ⟨rfl, -, hb3, -⟩
  go_wp2_with fail
  refine (zrev_row (some ⟨w1.heap.size, 0, none⟩) 0 0 0 0 (fun _ => 0) _ (by omega) (fun h => by omega) (fun h => by omega) (fun i hi => by omega)).mono ?_
  rintro e w4 ⟨rfl, -, hb4, -⟩
  go_wp2_with fail
  refine (Rev.same_rows (some ⟨w3.heap.size, 0, none⟩) none 0 0 0 0 0 0 0 (fun _ => 0) _ (by omega) (fun h => by omega) (fun h => by omega) (fun i hi => by omega) (fun i hi => by omega)).mono ?_
  rintro e w5 ⟨rfl, n, rfl⟩
  go_wp2_with fail
  refine (Rev.same_rows none none 0 0 0 0 0 0 0 (fun _ => 0) _ (by omega) (fun h => by omega) (fun h => by omega) (fun i hi => by omega) (fun i hi => by omega)).mono ?_
  rintro e w6 ⟨rfl, n', rfl⟩
  go_wp2
  go_ret
  exact ⟨rfl, below_drewN (hb3.trans (hb4.mono hb3.size)) _⟩

set_option maxHeartbeats 600000 in
theorem walk_row (b off len cap : Nat) (spot : Option Nat) (z : Nat → Int) (w : World) (h20 : len ≤ 1048576) (hlt : 0 < len → b < w.heap.size) (hsp : 0 < len → spot = none)
    (hc : ∀ i, i < len → w.cell? ⟨b, off + i, none⟩ = some (.int .u8 (z i))) :
    Calls Try.prog 3 #[.slice (some ⟨b, off, spot⟩) len cap] w fun e w' => e = .returned (.bool true) ∧ Below w.heap.size w w' := by
  go_enter Try.func3, Try.ntmps3
  go_wp2_with fail
  refine (len_any _ len cap _ h20).mono ?_
  rintro e w1 ⟨rfl, rfl⟩
  go_wp2_with fail
  refine (Rev.clone_row b off len cap spot z w1 h20 hlt hsp hc).mono ?_
  clear hc hlt hsp
  rintro e w2 ⟨rfl, r2, b2, s2⟩
  have S2 : Hid (w2.heap.size = w1.heap.size + 1) := s2
  clear s2
  go_wp2_with fail
  refine (Rev.clone_row w1.heap.size 0 len len none z w2 h20 (fun _ => r2.lt) (fun _ => rfl) (zero_add_cell r2)).mono ?_
  rintro e w3 ⟨rfl, r3, b3, s3⟩
  have S3 : Hid (w3.heap.size = w2.heap.size + 1) := s3
  have r23 := r2.of_block (b3.block _ r2.lt)
  clear s3
  go_wp2_with fail
  refine (zrev_row (some ⟨w1.heap.size, 0, none⟩) len len w1.heap.size 0 z w3 h20 (fun _ => rfl) (fun _ => r23.lt) (zero_add_cell r23)).mono ?_
  rintro e w4 ⟨rfl, r4, b4, s4⟩
  have S4 : Hid (w4.heap.size = w3.heap.size + 1) := s4
  have r24 := r23.of_block (b4.block _ r23.lt)
  have r34 := r3.of_block (b4.block _ r3.lt)
  clear s4
  go_wp2_with fail
  refine (zrev_row (some ⟨w3.heap.size, 0, none⟩) len len w3.heap.size 0 (fun j => z (len - 1 - j)) w4 h20 (fun _ => rfl) (fun _ => r4.lt) (zero_add_cell r4)).mono ?_
  rintro e w5 ⟨rfl, r5, b5, s5⟩
  have S5 : Hid (w5.heap.size = w4.heap.size + 1) := s5
  have r25 := r24.of_block (b5.block _ r24.lt)
  have r35 := r34.of_block (b5.block _ r34.lt)
  have r55 : w5.rowIs w4.heap.size 5 len (fun j => .int .u8 (z j)) := r5.congr (fun j hj => by show Value.int .u8 (z (len - 1 - (len - 1 - j))) = _; rw [show len - 1 - (len - 1 - j) = j from by omega])
  clear s5 r5 r24 r34 r4 r23 r3 r2
  go_wp2_with fail
  refine (Rev.same_rows (some ⟨w4.heap.size, 0, none⟩) (some ⟨w2.heap.size, 0, none⟩) len len len w4.heap.size 0 w2.heap.size 0 z w5 h20 (fun _ => rfl) (fun _ => rfl) (zero_add_cell r55) (zero_add_cell r35)).mono ?_
  rintro e w6 ⟨rfl, n, rfl⟩
  go_wp2_with fail
  refine (Rev.same_rows (some ⟨w1.heap.size, 0, none⟩) (some ⟨w2.heap.size, 0, none⟩) len len len w1.heap.size 0 w2.heap.size 0 z (w5.drewN n) h20 (fun _ => rfl) (fun _ => rfl) (fun i hi => zero_add_cell r25 i hi) (fun i hi => zero_add_cell r35 i hi)).mono ?_
  rintro e w7 ⟨rfl, n', rfl⟩
  go_wp2
  go_ret
  have B1 := b2.trans (b3.mono b2.size)
  have B2 := B1.trans (b4.mono B1.size)
  have B3 := B2.trans (b5.mono B2.size)
  exact ⟨rfl, below_drewN B3 _⟩

theorem walk (a0 : Option Addr) (len0 cap0 : Nat) (z0 : List Int) (w : World) (w0 : IsRow .u8 w a0 len0 cap0 z0) :
    Calls Try.prog 3 #[.slice a0 len0 cap0] w fun e w' => e = .returned (.bool true) ∧ Below w.heap.size w w' := by
  by_cases hbig : 1048576 < len0
  · exact walk_big a0 len0 cap0 w hbig
  · rcases w0 with ⟨rfl, rfl, rfl, rfl⟩ | ⟨x, rfl, hl, hm, hz, hcell, hwz⟩
    · exact walk_nil w
    · obtain ⟨b, off, spot⟩ := x
      have hsp : 0 < len0 → spot = none := fun h => by
        have hc := hcell 0 (by omega)
        simpa [Addr.add] using World.cell?_spot hc
      have hcs : ∀ i, i < len0 → w.cell? ⟨b, off + i, none⟩ = some (.int .u8 (z0.getD i 0)) := fun i hi => by
        have hc := hcell i (by omega)
        obtain rfl := hsp (by omega)
        by_cases e : i = 0
        · subst e; simpa [Addr.add] using hc
        · simpa [Addr.add, e] using hc
      refine walk_row b off len0 cap0 spot (fun i => z0.getD i 0) w (by omega) (fun h => ?_) hsp hcs
      have := hcs 0 h
      simp only [World.cell?] at this
      rcases Nat.lt_or_ge b w.heap.size with hlt | hge
      · exact hlt
      · rw [Array.getElem?_eq_none hge] at this
        simp at this

/-! ### THE ROW's STEP: WRITTEN OUT: LEAVE IT -/
set_option maxRecDepth 100000 in
theorem lifted (os : Os) (started : os.Started) (H : Type) (enc : TypeId × Value → H) :
    ReturnsInHanded {} Try.checked os 3 .any (Rows.fnReversedInvolutionSpec.pre6 enc Try.prog Try.f3 Rows.fnReversedInvolutionRow.domain false) (Rows.fnReversedInvolutionSpec.post enc Try.prog Try.f3 false true false false) := by
  refine returnsInHanded_of_change (C := Try.checked) own started (by kernel_rfl) Try.func3
    (ChangeSpec.witness6 (enc := enc) (C := Try.checked) false ⟨#[], #[.slice none 0 0], []⟩ 8 (by kernel_rfl) (by kernel_rfl) (by kernel_rfl) (by kernel_rfl)) ?_
  intro W base args ds gs before hval0 hW hcnd _
  have hval : ∀ (j : Nat) t v, Try.f3.params[j]? = some t → args[j]? = some v → Value.okWide Try.prog W .any base t v := hval0
  have hW' := hW
  obtain ⟨p, q, hA0, hV, rfl, hfz, hnd⟩ := hW
  have hA : DataW.TrodAll enc Try.prog W 0 (fun _ => true) true Try.f3.params.toList args.toList ds p := hA0
  rw [Try.params3] at hA hval
  obtain ⟨v0, vs0, d0, ds0, p0, q0, hargs, rfl, rfl, h0, r0⟩ := trodAll_cons hA
  obtain ⟨rfl, rfl, rfl⟩ := trodAll_nil r0
  obtain rfl : args = #[v0] := by cases args; simp_all
  obtain ⟨rfl, rfl⟩ := trodVars_none hV
  obtain ⟨a0, len0, cap0, rfl⟩ := okWide_slice Try.underlying22 (hval 0 22 v0 rfl rfl)
  have k0 := h0
  have lt0 : ∀ x ∈ p0, x.block < W.heap.size := by obtain ⟨m, hm⟩ := k0; exact DataW.trod_lt m _ _ _ hm
  obtain ⟨z0, w0⟩ : ∃ zs, IsRow .u8 W a0 len0 cap0 zs := by
    obtain ⟨fuel, hf⟩ := h0
    rcases open_ints Try.underlying22 Try.underlying5 (by kernel_rfl) hf with ⟨hcs, _⟩ | ⟨x, l, c, zs, hcs, _, hl, hm, hz, _, hcell, hwz⟩
    · simp [Value.cells] at hcs
      obtain ⟨rfl, rfl, rfl⟩ := hcs
      exact ⟨[], .inl ⟨rfl, rfl, rfl, rfl⟩⟩
    · simp [Value.cells] at hcs
      obtain ⟨rfl, rfl, rfl⟩ := hcs
      exact ⟨zs, .inr ⟨_, rfl, hl, hm, by simpa using hz, hcell, hwz⟩⟩
  clear hA0 hval0
  refine (walk a0 len0 cap0 z0 W w0).mono fun e W' ⟨he, bel⟩ => ?_
  subst he
  exact ⟨_, rfl, _, _, _, [], _, [], hW', trodAll_mk1 (shut_bool Try.underlying4 _), (trodAll_cons_mk (Below.trod laidOut (by kernel_rfl) (of_decide_eq_true (by kernel_rfl)) k0 bel lt0) trodAll_mk0), rfl, bel.frame _, fun h => by cases h⟩

theorem over : Rows.fnReversedInvolutionRow.holds Try.pinned (OpenSpec.ofChange Rows.fnReversedInvolutionSpec) :=
  OpenClaim.holds_of_wide 3 Try.f3 rfl rfl rfl rfl rfl rfl rfl ⟨rfl, rfl, rfl, rfl, rfl⟩ rfl rfl rfl rfl rfl (by kernel_rfl) Try.func3 (by kernel_rfl)
    (of_decide_eq_true (by kernel_rfl)) (by unfold Func.isWrapper; first | (rw [if_pos (by decide +kernel)]; kernel_rfl) | (rw [if_neg (by decide +kernel)]; exact ⟨rfl, rfl⟩))
    (fun os started H enc _ => lifted os started H enc)

/-- ████ THE STATEMENT ████ -/
theorem proved : Rows.FnReversedInvolutionSaid := over
end Go.Proofs.Qxb6002647a.fnReversedInvolution
