/- The count-table law: numbers to text, and the four counts of a row. -/
import Derived.Test.Qxb6003329aDoorShelf
import Derived.WalkKit
import Derived.ProofKit
import Derived.Deep.OwnRows
import Derived.WalkLawsBesides
import Derived.WalkSmall
import Derived.Deep.QuietTactic
import Derived.BigQuiet
namespace Go.Proofs.Qxb6003329aDoor.Fm
open Go.RowKit

theorem hide {p : Prop} (h : p) : Hid p := h

/-- The formatter's table lies as the program's text lays it. -/
def Tab (w : World) : Prop := Lib.TabIs Tryd.prog w Tryd.powName .u64 Lib.pow10Tab

theorem Tab.below {w w' : World} (h : Tab w) (hb : Below w.heap.size w w') : Tab w' := by
  unfold Tab Lib.TabIs at h ⊢
  cases hg : Tryd.prog.globalNamed Tryd.powName with
  | none => rw [World.var?, hg] at h; cases h
  | some g =>
    rw [World.var?, hg] at h ⊢
    simp only [Option.bind_some] at h ⊢
    have hlt : g < w.heap.size := by
      rcases Nat.lt_or_ge g w.heap.size with hlt | hge
      · exact hlt
      · rw [Array.getElem?_eq_none hge] at h
        simp at h
    rw [hb.block g hlt]
    exact h

/-- The decimal text of a number. -/
def S (n : Int) : ByteArray := ⟨(Lib.itoa n).toArray⟩

theorem below_grow (w : World) (k : Nat) (os : Array Obj) : Below w.heap.size w (Sort.grow (w.drewN k) os) :=
  ⟨rfl, rfl, rfl, by simp [Sort.grow, World.drewN], fun i hi => by
    show (w.heap ++ os)[i]? = w.heap[i]?
    rw [Array.getElem?_append_left hi]⟩

theorem itoa_any (n : Int) (h0 : -9223372036854775808 ≤ n) (h1 : n ≤ 9223372036854775807) (w : World) (hT : Tab w) :
    Calls Tryd.prog 12 #[.int .i64 n] w fun e w' => e = .returned (.string (S n)) ∧ Below w.heap.size w w' := by
  refine (Tryd.strconv_Itoa n h0 h1 w hT).mono ?_
  rintro e w' ⟨rfl, k, os, rfl⟩
  exact ⟨rfl, below_grow w k os⟩

theorem format_any (n : Int) (h0 : -9223372036854775808 ≤ n) (h1 : n ≤ 9223372036854775807) (w : World) (hT : Tab w) :
    Calls Tryd.prog 15 #[.int .i64 n, .int .i64 10] w fun e w' => e = .returned (.string (S n)) ∧ Below w.heap.size w w' := by
  refine (Tryd.strconv_FormatInt_10 n h0 h1 w hT).mono ?_
  rintro e w' ⟨rfl, k, os, rfl⟩
  exact ⟨rfl, below_grow w k os⟩

theorem info9 : (Tryd.prog.info? 9).map (fun i => (i.zero, i.size, i.bytes)) = some (some (.string ByteArray.empty), 1, 16) := by kernel_rfl

/-- Four numbers as an array's value. -/
def arr (c : Nat → Int) : Value := .agg #[.int .i64 (c 0), .int .i64 (c 1), .int .i64 (c 2), .int .i64 (c 3)]

theorem part_step {wr : World} {B T n k : Nat} {f : Nat → Value} {z : Value} (h : wr.rowIs B T n (fun j => if j < k then f j else z)) :
    (wr.setCell ⟨B, k, none⟩ (f k)).rowIs B T n (fun j => if j < k + 1 then f j else z) := by
  refine (h.set k (f k)).congr fun j hj => ?_
  by_cases e : j = k
  · subst e; simp
  · have : (j < k + 1) = (j < k) := by simp only [eq_iff_iff]; omega
    simp [e, this]

/-- What 'formatCounts' leaves. -/
def FmtR (w : World) (c : Nat → Int) (e : Ending) (w' : World) : Prop :=
  ∃ B, e = .returned (.slice (some ⟨B, 0, none⟩) 4 4) ∧ w.heap.size ≤ B ∧ w'.rowIs B 9 4 (fun i => .string (S (c i))) ∧ Below w.heap.size w w'

theorem make4 (w : World) : (Instr.makeSlice 22 (.int .i64 4) (.int .i64 4)).run Tryd.prog w = .ok (.slice (some ⟨w.heap.size, 0, none⟩) 4 4) (w.alloc (.cells (madeCells #[.string ByteArray.empty] 4) 9)) := by
  have := run_make_row' (P := Tryd.prog) 22 9 (.string ByteArray.empty) 16 Tryd.underlying22 info9 rfl .i64 .i64 4 (by omega) (by omega) w
  exact this

theorem idx0 (a b c d : Value) (w : World) : (Instr.index 26 (.agg #[a, b, c, d]) (.int .i64 0)).run Tryd.prog w = .ok a w := by kernel_rfl
theorem idx1 (a b c d : Value) (w : World) : (Instr.index 26 (.agg #[a, b, c, d]) (.int .i64 1)).run Tryd.prog w = .ok b w := by kernel_rfl
theorem idx2 (a b c d : Value) (w : World) : (Instr.index 26 (.agg #[a, b, c, d]) (.int .i64 2)).run Tryd.prog w = .ok c w := by kernel_rfl
theorem idx3 (a b c d : Value) (w : World) : (Instr.index 26 (.agg #[a, b, c, d]) (.int .i64 3)).run Tryd.prog w = .ok d w := by kernel_rfl

set_option maxRecDepth 100000 in
set_option maxHeartbeats 1000000 in
theorem counts_any (c : Nat → Int) (hc : ∀ i, i < 4 → -9223372036854775808 ≤ c i ∧ c i ≤ 9223372036854775807) (w : World) (hT : Tab w) :
    Calls Tryd.prog 13 #[.agg #[.int .i64 (c 0), .int .i64 (c 1), .int .i64 (c 2), .int .i64 (c 3)]] w (FmtR w c) := by
  have hmk := make4
  have i0 := idx0
  have i1 := idx1
  have i2 := idx2
  have i3 := idx3
  have HC := hide hc
  clear hc
  go_enter Tryd.func13, Tryd.ntmps13
  go_wp2
  go_loopw [8] (fun i wr => ∃ k : Nat, k ≤ 4 ∧ i = .int .i64 k ∧ wr.rowIs (w.heap.size + 1) 9 4 (fun j => if j < k then .string (S (c j)) else .string ByteArray.empty) ∧ Below w.heap.size w wr) (fun i _ => 4 - (intOf i).toNat)
  case atStart =>
    have hr := World.rowIs_made (w.alloc (.cells #[.int .i64 (c 0), .int .i64 (c 1), .int .i64 (c 2), .int .i64 (c 3)] 26)) (.string ByteArray.empty) 4 9
    rw [World.size_alloc] at hr
    exact ⟨0, Nat.zero_le _, rfl, hr.congr (fun j _ => by simp), ((Below.refl _ _).alloc (Nat.le_refl _) _).alloc (by simp) _⟩
  case round =>
    obtain ⟨k, hk, rfl, hrow, hnx⟩ := hrel
    clear hmk
    by_cases hk4 : k = 4
    · subst hk4
      go_wp2
      go_ret
      exact ⟨w.heap.size + 1, rfl, by omega, hrow.congr (fun j hj => by simp [hj]), hnx⟩
    · have hTr := hT.below hnx
      have HTR := hide hTr
      clear hTr
      rcases (show k = 0 ∨ k = 1 ∨ k = 2 ∨ k = 3 by omega) with rfl | rfl | rfl | rfl
      · go_wp2_with fail
        refine (format_any (c 0) (HC.out 0 (by omega)).1 (HC.out 0 (by omega)).2 wr HTR.out).mono ?_
        rintro e w1 ⟨rfl, hb1⟩
        have hrow1 := hrow.of_block (hb1.block _ hrow.lt)
        have hcc : w1.cell? ⟨w.heap.size + 1, 0, none⟩ = some (.string ByteArray.empty) := by simpa using hrow1.cell (i := 0) (by omega)
        have hfz := hrow1.frozen 0
        have hnx1 := hnx.trans (hb1.mono hnx.size)
        clear hrow hnx hb1
        go_wp2
        go_roundw
        case rel => exact ⟨0 + 1, by omega, by go_num, part_step (f := fun j => .string (S (c j))) hrow1, hnx1.setCell (by show w.heap.size ≤ w.heap.size + 1; omega) _⟩
        case measure => simp [intOf]
      · go_wp2_with fail
        refine (format_any (c 1) (HC.out 1 (by omega)).1 (HC.out 1 (by omega)).2 wr HTR.out).mono ?_
        rintro e w1 ⟨rfl, hb1⟩
        have hrow1 := hrow.of_block (hb1.block _ hrow.lt)
        have hcc : w1.cell? ⟨w.heap.size + 1, 1, none⟩ = some (.string ByteArray.empty) := by simpa using hrow1.cell (i := 1) (by omega)
        have hfz := hrow1.frozen 1
        have hnx1 := hnx.trans (hb1.mono hnx.size)
        clear hrow hnx hb1
        go_wp2
        go_roundw
        case rel => exact ⟨1 + 1, by omega, by go_num, part_step (f := fun j => .string (S (c j))) hrow1, hnx1.setCell (by show w.heap.size ≤ w.heap.size + 1; omega) _⟩
        case measure => simp [intOf]
      · go_wp2_with fail
        refine (format_any (c 2) (HC.out 2 (by omega)).1 (HC.out 2 (by omega)).2 wr HTR.out).mono ?_
        rintro e w1 ⟨rfl, hb1⟩
        have hrow1 := hrow.of_block (hb1.block _ hrow.lt)
        have hcc : w1.cell? ⟨w.heap.size + 1, 2, none⟩ = some (.string ByteArray.empty) := by simpa using hrow1.cell (i := 2) (by omega)
        have hfz := hrow1.frozen 2
        have hnx1 := hnx.trans (hb1.mono hnx.size)
        clear hrow hnx hb1
        go_wp2
        go_roundw
        case rel => exact ⟨2 + 1, by omega, by go_num, part_step (f := fun j => .string (S (c j))) hrow1, hnx1.setCell (by show w.heap.size ≤ w.heap.size + 1; omega) _⟩
        case measure => simp [intOf]
      · go_wp2_with fail
        refine (format_any (c 3) (HC.out 3 (by omega)).1 (HC.out 3 (by omega)).2 wr HTR.out).mono ?_
        rintro e w1 ⟨rfl, hb1⟩
        have hrow1 := hrow.of_block (hb1.block _ hrow.lt)
        have hcc : w1.cell? ⟨w.heap.size + 1, 3, none⟩ = some (.string ByteArray.empty) := by simpa using hrow1.cell (i := 3) (by omega)
        have hfz := hrow1.frozen 3
        have hnx1 := hnx.trans (hb1.mono hnx.size)
        clear hrow hnx hb1
        go_wp2
        go_roundw
        case rel => exact ⟨3 + 1, by omega, by go_num, part_step (f := fun j => .string (S (c j))) hrow1, hnx1.setCell (by show w.heap.size ≤ w.heap.size + 1; omega) _⟩
        case measure => simp [intOf]
end Go.Proofs.Qxb6003329aDoor.Fm
