/- The count-table law: what the main walk needs beside the contracts. -/
import Derived.Test.Qxb6003329aDoorBytes
import Derived.Deep.CutBlock
import Derived.ChangeKeysEq
import Derived.Deep.LoopGhost
namespace Go.Proofs.Qxb6003329aDoor.Hp
open Go.RowKit
open Go.Proofs.Qxb6003329aDoor.Fm
open Go.Proofs.Qxb6003329aDoor.Ad
open Go.Proofs.Qxb6003329aDoor.By

/-- A slice of arrays of four numbers. -/
def Grid (w : World) (ao : Option Addr) (len b off : Nat) (c : Nat → Nat → Int) : Prop :=
  (0 < len → ao = some ⟨b, off, none⟩ ∧ b < w.heap.size) ∧ ∀ i, i < len → ∀ j, j < 4 → w.cell? ⟨b, off + i * 4 + j, none⟩ = some (.int .i64 (c i j))

theorem Grid.below {w w' : World} {ao : Option Addr} {len b off : Nat} {c : Nat → Nat → Int} (h : Grid w ao len b off c) (hb : Below w.heap.size w w') : Grid w' ao len b off c :=
  ⟨fun h0 => ⟨(h.1 h0).1, Nat.lt_of_lt_of_le (h.1 h0).2 hb.size⟩, fun i hi j hj => (hb.cell (p := ⟨b, off + i * 4 + j, none⟩) (h.1 (by omega)).2).trans (h.2 i hi j hj)⟩

/-- What the law leaves. -/
def TrueR (w : World) (e : Ending) (w' : World) : Prop := e = .returned (.bool true) ∧ Below w.heap.size w w'

/-- The sums of the columns over the first k rows. -/
def sm (c : Nat → Nat → Int) : Nat → Nat → Int
  | 0, _ => 0
  | k + 1, j => sm c k j + c k j

theorem sm_bound {c : Nat → Nat → Int} {n : Nat} (hb : ∀ i, i < n → ∀ j, j < 4 → -1099511627776 ≤ c i j ∧ c i j ≤ 1099511627776) (j : Nat) (hj : j < 4) : ∀ k, k ≤ n → -1099511627776 * (k : Int) ≤ sm c k j ∧ sm c k j ≤ 1099511627776 * (k : Int)
  | 0, _ => by simp [sm]
  | k + 1, hk => by
    obtain ⟨h1, h2⟩ := sm_bound hb j hj k (by omega)
    obtain ⟨h3, h4⟩ := hb k (by omega) j hj
    simp only [sm]
    omega

theorem sm_small {c : Nat → Nat → Int} {n : Nat} (hn : n ≤ 1024) (hb : ∀ i, i < n → ∀ j, j < 4 → -1099511627776 ≤ c i j ∧ c i j ≤ 1099511627776) (j : Nat) (hj : j < 4) (k : Nat) (hk : k ≤ n) : -4503599627370496 ≤ sm c k j ∧ sm c k j ≤ 4503599627370496 := by
  obtain ⟨h1, h2⟩ := sm_bound hb j hj k hk
  omega

/-- The arrays, cell by cell. -/
def fl (c : Nat → Nat → Int) (q : Nat) : Value := .int .i64 (c (q / 4) (q % 4))
theorem fl_at (c : Nat → Nat → Int) (i j : Nat) (hj : j < 4) : fl c (i * 4 + j) = .int .i64 (c i j) := by
  unfold fl
  have e1 : (i * 4 + j) / 4 = i := by omega
  have e2 : (i * 4 + j) % 4 = j := by omega
  rw [e1, e2]

/-- The row of texts that 'add' keeps of the i-th call. -/
def rw6 (s : Nat → ByteArray) (z : Nat → Int) (c : Nat → Nat → Int) (i : Nat) : List Value := [.string (s i), .string (S (z i)), .string (S (c i 0)), .string (S (c i 1)), .string (S (c i 2)), .string (S (c i 3))]

theorem more_self (R : Nat → List Value) (k : Nat) : more R k (R k) = R := by
  funext i
  unfold more
  split
  · rename_i h; rw [h]
  · rfl

theorem info3 : (Tryd.prog.info? 3).map (fun i => (i.zero, i.size, i.bytes)) = some (some (.int .i64 0), 1, 8) := by kernel_rfl
theorem info26 : (Tryd.prog.info? 26).map (fun i => (i.zero, i.size, i.bytes)) = some (some (.agg #[.int .i64 0, .int .i64 0, .int .i64 0, .int .i64 0]), 4, 32) := by kernel_rfl

theorem make22 (n : Nat) (hn : n ≤ 1024) (w : World) : (Instr.makeSlice 22 (.int .i64 (n : Int)) (.int .i64 (n : Int))).run Tryd.prog w = .ok (.slice (some ⟨w.heap.size, 0, none⟩) n n) (w.alloc (.cells (madeCells #[.string ByteArray.empty] n) 9)) :=
  run_make_row' (P := Tryd.prog) 22 9 (.string ByteArray.empty) 16 Tryd.underlying22 info9 rfl .i64 .i64 n (by omega) (by omega) w
theorem make23 (n : Nat) (hn : n ≤ 1024) (w : World) : (Instr.makeSlice 23 (.int .i64 (n : Int)) (.int .i64 (n : Int))).run Tryd.prog w = .ok (.slice (some ⟨w.heap.size, 0, none⟩) n n) (w.alloc (.cells (madeCells #[.int .i64 0] n) 3)) :=
  run_make_row' (P := Tryd.prog) 23 3 (.int .i64 0) 8 Tryd.underlying23 info3 rfl .i64 .i64 n (by omega) (by omega) w
theorem make24 (n : Nat) (hn : n ≤ 1024) (w : World) : (Instr.makeSlice 24 (.int .i64 (n : Int)) (.int .i64 (n : Int))).run Tryd.prog w = .ok (.slice (some ⟨w.heap.size, 0, none⟩) n n) (w.alloc (.cells (madeCells #[.int .i64 0, .int .i64 0, .int .i64 0, .int .i64 0] (n * 4)) 26)) := by
  obtain ⟨i, hi, hzz⟩ := Option.map_eq_some_iff.1 info26
  simp only [Prod.mk.injEq] at hzz
  obtain ⟨hz, hs, hb⟩ := hzz
  have hr := run_make (P := Tryd.prog) w 24 26 i _ Tryd.underlying24 hi hz .i64 .i64 n n (by omega) (Int.le_refl _) (by rw [hb]; omega) (by omega)
  rw [hs] at hr
  simpa [Value.cells] using hr

theorem made26 (w : World) (n : Nat) : (w.alloc (.cells (madeCells #[.int .i64 0, .int .i64 0, .int .i64 0, .int .i64 0] (n * 4)) 26)).rowIs w.heap.size 26 (n * 4) (fun _ => .int .i64 0) := by
  have h := World.rowIs_alloc w (madeCells #[.int .i64 0, .int .i64 0, .int .i64 0, .int .i64 0] (n * 4)) 26 (fun _ => .int .i64 0) (fun i hi => by
    rw [size_madeCells] at hi
    have : i % 4 = 0 ∨ i % 4 = 1 ∨ i % 4 = 2 ∨ i % 4 = 3 := by omega
    rcases this with h | h | h | h <;> simp [madeCells, hi, h])
  rw [size_madeCells] at h
  exact h

theorem cells2 : Tryd.prog.cellsOf 2 = 1 := by kernel_rfl

theorem item26 (d : Nat) (xs : Array Value) (o : Nat) (os : List Nat) (v : Int) (hv : xs[o * 1]? = some (.int .i64 v)) (w : World) :
    (Op.eqItems (d + 1) 2 1 xs xs (o :: os)).run Tryd.prog w = (Op.eqItems (d + 1) 2 1 xs xs os).run Tryd.prog w := by
  have hp : (part 2 xs (o * 1)).run Tryd.prog w = .ok (.int .i64 v) w := run_part_plain w (by kernel_rfl) hv
  have he : (Op.equalIn (d + 1) 2 (.int .i64 v) (.int .i64 v)).run Tryd.prog w = .ok (v == v) w := run_equalIn_int w _ 2 .i64 .i64 _ _ Tryd.underlying2
  simp only [Op.eqItems, Sem.run_bind, hp, he, Result.andThen_ok]
  simp

theorem neq26 (a b c d : Int) (w : World) : (binOp .neq 26 (.agg #[.int .i64 a, .int .i64 b, .int .i64 c, .int .i64 d]) (.agg #[.int .i64 a, .int .i64 b, .int .i64 c, .int .i64 d])).run Tryd.prog w = .ok (.bool false) w := by
  obtain ⟨i, hi⟩ := info_of_underlying Tryd.underlying2
  rw [run_neq_struct, run_equalIn_array w 9999 _ _ Tryd.underlying26 hi, cells2]
  have e4 : List.range 4 = [0, 1, 2, 3] := rfl
  rw [e4, item26 9998 _ 0 _ a rfl, item26 9998 _ 1 _ b rfl, item26 9998 _ 2 _ c rfl, item26 9998 _ 3 _ d rfl]
  rfl

/-- A row of its own, read cell by cell. -/
theorem own_cells {w : World} {lo : Nat} {e : TypeId} {v : Value} {m : Nat} {xs : List Value} (h : w.ownsRow lo e 1 v m xs) (hm : 0 < m) :
    ∃ g cap, v = .slice (some ⟨g, 0, none⟩) m cap ∧ g < w.heap.size ∧ ∀ i x, xs[i]? = some x → w.cell? ⟨g, i, none⟩ = some x := by
  rcases h.2 with ⟨_, h0⟩ | ⟨g, cap, cur, rfl, hg, hh, hnc, hcm, hs, ht⟩
  · omega
  · refine ⟨g, cap, rfl, (Array.getElem?_eq_some_iff.1 hh).1, fun i x hx => ?_⟩
    have hi : i < xs.length := by
      rcases Nat.lt_or_ge i xs.length with h1 | h1
      · exact h1
      · rw [List.getElem?_eq_none h1] at hx; cases hx
    have hl := h.1
    rw [← ht, List.getElem?_take] at hx
    split at hx
    · simp only [World.cell?, hh]
      rw [Array.getElem?_toList] at hx
      simpa using hx
    · cases hx

theorem kp_row {w w' : World} {lo T B t n : Nat} {f : Nat → Value} (K : Kp w w' lo T) (h : w.rowIs B t n f) (hB : B ≠ T) (ht : t ≠ 22) : w'.rowIs B t n f := by
  refine h.of_block (K.block B h.lt hB fun cur e => ?_)
  obtain ⟨c, hc, _⟩ := h
  rw [hc] at e
  simp at e
  exact ht e.2

theorem kp_below {w0 w w' : World} {lo T : Nat} (hb : Below lo w0 w) (K : Kp w w' lo T) : Below lo w0 w' :=
  ⟨K.os.trans hb.os, K.tape.trans hb.tape, K.output.trans hb.output, Nat.le_trans hb.size K.size, fun k hk => (K.low k hk).trans (hb.block k hk)⟩
/-- The three copies when k elements have been copied. -/
structure CopyI (w : World) (n k : Nat) (s : Nat → ByteArray) (z : Nat → Int) (c : Nat → Nat → Int) (wr : World) : Prop where
  gr : wr.rowIs w.heap.size 9 n (fun j => if j < k then .string (s j) else .string ByteArray.empty)
  nr : wr.rowIs (w.heap.size + 1) 3 n (fun j => if j < k then .int .i64 (z j) else .int .i64 0)
  cr : wr.rowIs (w.heap.size + 1 + 1) 26 (n * 4) (fun q => if q < k * 4 then fl c q else .int .i64 0)
  be : Below w.heap.size w wr

theorem copy_start (w : World) (n : Nat) (s : Nat → ByteArray) (z : Nat → Int) (c : Nat → Nat → Int) :
    CopyI w n 0 s z c (((w.alloc (.cells (madeCells #[.string ByteArray.empty] n) 9)).alloc (.cells (madeCells #[.int .i64 0] n) 3)).alloc (.cells (madeCells #[.int .i64 0, .int .i64 0, .int .i64 0, .int .i64 0] (n * 4)) 26)) := by
  have h1 := World.rowIs_made w (.string ByteArray.empty) n 9
  have h2 := World.rowIs_made (w.alloc (.cells (madeCells #[.string ByteArray.empty] n) 9)) (.int .i64 0) n 3
  have h3 := made26 ((w.alloc (.cells (madeCells #[.string ByteArray.empty] n) 9)).alloc (.cells (madeCells #[.int .i64 0] n) 3)) n
  simp only [World.size_alloc] at h2 h3
  exact ⟨((h1.alloc _).alloc _).congr (fun j _ => by simp), (h2.alloc _).congr (fun j _ => by simp), h3.congr (fun j _ => by simp), (((Below.refl _ _).alloc (Nat.le_refl _) _).alloc (by simp) _).alloc (by simp; omega) _⟩

/-- The three copies made. -/
structure Copies (w : World) (n : Nat) (s : Nat → ByteArray) (z : Nat → Int) (c : Nat → Nat → Int) (wr : World) : Prop where
  gr : wr.rowIs w.heap.size 9 n (fun j => .string (s j))
  nr : wr.rowIs (w.heap.size + 1) 3 n (fun j => .int .i64 (z j))
  cr : wr.rowIs (w.heap.size + 1 + 1) 26 (n * 4) (fl c)
  be : Below w.heap.size w wr

theorem CopyI.done {w : World} {n : Nat} {s : Nat → ByteArray} {z : Nat → Int} {c : Nat → Nat → Int} {wr : World} (h : CopyI w n n s z c wr) : Copies w n s z c wr :=
  ⟨h.gr.congr (fun j hj => by simp [hj]), h.nr.congr (fun j hj => by simp [hj]), h.cr.congr (fun j hj => by simp [hj]), h.be⟩

theorem Copies.later {w : World} {n : Nat} {s : Nat → ByteArray} {z : Nat → Int} {c : Nat → Nat → Int} {wr w' : World} (h : Copies w n s z c wr) (hb : Below wr.heap.size wr w') : Copies w n s z c w' :=
  ⟨h.gr.of_block (hb.block _ h.gr.lt), h.nr.of_block (hb.block _ h.nr.lt), h.cr.of_block (hb.block _ h.cr.lt), h.be.trans (hb.mono h.be.size)⟩

theorem Copies.kept {w : World} {n : Nat} {s : Nat → ByteArray} {z : Nat → Int} {c : Nat → Nat → Int} {wr w' : World} {T : Nat} (h : Copies w n s z c wr) (hT : w.heap.size + 1 + 1 < T) (K : Kp wr w' w.heap.size T) : Copies w n s z c w' :=
  ⟨kp_row K h.gr (by omega) (by decide), kp_row K h.nr (by omega) (by decide), kp_row K h.cr (by omega) (by decide), kp_below h.be K⟩

theorem Copies.other {w : World} {n : Nat} {s : Nat → ByteArray} {z : Nat → Int} {c : Nat → Nat → Int} {wr : World} (h : Copies w n s z c wr) {V a : Nat} (hV : w.heap.size + 1 + 1 < V) (x : Value) : Copies w n s z c (wr.setCell ⟨V, a, none⟩ x) :=
  ⟨h.gr.setOther (a := ⟨V, a, none⟩) (by show w.heap.size ≠ V; omega) _, h.nr.setOther (a := ⟨V, a, none⟩) (by show w.heap.size + 1 ≠ V; omega) _, h.cr.setOther (a := ⟨V, a, none⟩) (by show w.heap.size + 1 + 1 ≠ V; omega) _, h.be.setCell (by show w.heap.size ≤ V; omega) _⟩

theorem Copies.drewN {w : World} {n : Nat} {s : Nat → ByteArray} {z : Nat → Int} {c : Nat → Nat → Int} {wr : World} (h : Copies w n s z c wr) (q : Nat) : Copies w n s z c (wr.drewN q) := ⟨h.gr, h.nr, h.cr, below_drewN h.be q⟩
theorem Copies.drew {w : World} {n : Nat} {s : Nat → ByteArray} {z : Nat → Int} {c : Nat → Nat → Int} {wr : World} (h : Copies w n s z c wr) : Copies w n s z c wr.drew := ⟨h.gr, h.nr, h.cr, h.be.drew⟩
theorem Copies.cellc {w : World} {n : Nat} {s : Nat → ByteArray} {z : Nat → Int} {c : Nat → Nat → Int} {wr : World} (h : Copies w n s z c wr) {i j : Nat} (hi : i < n) (hj : j < 4) : wr.cell? ⟨w.heap.size + 1 + 1, i * 4 + j, none⟩ = some (.int .i64 (c i j)) := by
  rw [h.cr.cell (by omega), fl_at c i j hj]
theorem Copies.cells {w : World} {n : Nat} {s : Nat → ByteArray} {z : Nat → Int} {c : Nat → Nat → Int} {wr : World} (h : Copies w n s z c wr) {k : Nat} (hk : k < n) :
    wr.cell? ⟨w.heap.size, k, none⟩ = some (.string (s k)) ∧ wr.cell? ⟨w.heap.size + 1, k, none⟩ = some (.int .i64 (z k)) ∧ wr.cell? ⟨w.heap.size + 1 + 1, k * 4, none⟩ = some (.int .i64 (c k 0)) ∧
      wr.cell? ⟨w.heap.size + 1 + 1, k * 4 + 1, none⟩ = some (.int .i64 (c k 1)) ∧ wr.cell? ⟨w.heap.size + 1 + 1, k * 4 + 2, none⟩ = some (.int .i64 (c k 2)) ∧ wr.cell? ⟨w.heap.size + 1 + 1, k * 4 + 3, none⟩ = some (.int .i64 (c k 3)) :=
  ⟨h.gr.cell hk, h.nr.cell hk, h.cellc hk (j := 0) (by omega), h.cellc hk (by omega), h.cellc hk (by omega), h.cellc hk (by omega)⟩

/-- The table and the sums when k rows have been added. -/
def MainI (w0 : World) (T V n k : Nat) (s : Nat → ByteArray) (z : Nat → Int) (c : Nat → Nat → Int) (wr : World) : Prop :=
  ∃ v xs, St wr w0.heap.size T v xs k (rw6 s z c) (sm c k 0) (sm c k 1) (sm c k 2) (sm c k 3) ∧ wr.rowIs V 26 4 (fun j => .int .i64 (sm c k j)) ∧ Copies w0 n s z c wr

theorem main_start {w0 w3 : World} {T n : Nat} {s : Nat → ByteArray} {z : Nat → Int} {c : Nat → Nat → Int} (S3 : St w3 w0.heap.size T (.slice none 0 0) [] 0 (rw6 s z c) 0 0 0 0) (C3 : Copies w0 n s z c w3) :
    MainI w0 T w3.heap.size n 0 s z c (w3.alloc (.cells #[.int .i64 0, .int .i64 0, .int .i64 0, .int .i64 0] 26)) := by
  have bA : Below w3.heap.size w3 (w3.alloc (.cells #[.int .i64 0, .int .i64 0, .int .i64 0, .int .i64 0] 26)) := (Below.refl _ _).alloc (Nat.le_refl _) _
  refine ⟨_, _, st_below S3 bA, ?_, C3.later bA⟩
  exact World.rowIs_alloc w3 #[.int .i64 0, .int .i64 0, .int .i64 0, .int .i64 0] 26 (fun j => .int .i64 (sm c 0 j)) (fun i hi => by
    have hi4 : i < 4 := hi
    rcases (show i = 0 ∨ i = 1 ∨ i = 2 ∨ i = 3 by omega) with rfl | rfl | rfl | rfl <;> rfl)

/-- A store into a row of numbers does not touch the table. -/
theorem st_other {w : World} {lo T : Nat} {v : Value} {xs : List Value} {m : Nat} {R : Nat → List Value} {t0 t1 t2 t3 : Int} {V a n : Nat} {f : Nat → Value} {x : Value} (h : St w lo T v xs m R t0 t1 t2 t3) (hV : w.rowIs V 26 n f) :
    St (w.setCell ⟨V, a, none⟩ x) lo T v xs m R t0 t1 t2 t3 := by
  obtain ⟨cs, hcs, -, -⟩ := hV
  have hne : ∀ {e : TypeId} {sz : Nat} {u : Value} {n : Nat} {ys : List Value}, e ≠ 26 → w.ownsRow lo e sz u n ys → (w.setCell ⟨V, a, none⟩ x).ownsRow lo e sz u n ys := fun he ho => own_of_block ho (fun k hk => by
    obtain ⟨cur, hc, _⟩ := own_type ho hk
    exact Below.heap_setCell _ _ _ _ (fun e => by
      have e' : k = V := e
      rw [e', hcs] at hc
      simp at hc
      exact he hc.2.symm))
  refine ⟨(Below.heap_setCell _ _ _ _ (fun e => ?_)).trans h.blk, h.loT, hne (by decide) h.own, fun i hi => ?_⟩
  · have e' : T = V := e
    have := h.blk
    rw [e', hcs] at this
    simp at this
  · obtain ⟨y, hy, ho⟩ := h.rows i hi
    exact ⟨y, hy, hne (by decide) ho⟩

theorem sum_step {w : World} {V k j : Nat} {c : Nat → Nat → Int} (h : w.rowIs V 26 4 (fun l => if l < j then .int .i64 (sm c (k + 1) l) else .int .i64 (sm c k l))) :
    (w.setCell ⟨V, j, none⟩ (.int .i64 (sm c k j + c k j))).rowIs V 26 4 (fun l => if l < j + 1 then .int .i64 (sm c (k + 1) l) else .int .i64 (sm c k l)) := by
  refine (h.set j _).congr fun l hl => ?_
  by_cases e : l = j
  · subst e; simp [sm]
  · have : (l < j + 1) = (l < j) := by simp only [eq_iff_iff]; omega
    simp [e, this]
theorem vcells {w : World} {V n : Nat} {c : Nat → Nat → Int} (h : w.rowIs V 26 4 (fun j => .int .i64 (sm c n j))) :
    w.cell? ⟨V, 0, none⟩ = some (.int .i64 (sm c n 0)) ∧ w.cell? ⟨V, 1, none⟩ = some (.int .i64 (sm c n 1)) ∧ w.cell? ⟨V, 2, none⟩ = some (.int .i64 (sm c n 2)) ∧ w.cell? ⟨V, 3, none⟩ = some (.int .i64 (sm c n 3)) :=
  ⟨h.cell (by omega), h.cell (by omega), h.cell (by omega), h.cell (by omega)⟩

theorem eg26 : Tryd.prog.eqGuardType Tryd.prog.depth 26 = false := by kernel_rfl

/-- The records as 'done' hands them back, with the sums and the copies beside them. -/
structure Chk (w0 : World) (V n : Nat) (s : Nat → ByteArray) (z : Nat → Int) (c : Nat → Nat → Int) (g cap : Nat) (xs : List Value) (wr : World) : Prop where
  rc : Dn.Recs wr w0.heap.size (.slice (some ⟨g, 0, none⟩) (n + 1) cap) xs (n + 1) (more (rw6 s z c) n [.string ⟨#[116, 111, 116, 97, 108]⟩, .string ⟨#[]⟩, .string (S (sm c n 0)), .string (S (sm c n 1)), .string (S (sm c n 2)), .string (S (sm c n 3))])
  vr : wr.rowIs V 26 4 (fun j => .int .i64 (sm c n j))
  co : Copies w0 n s z c wr

section
variable {w0 : World} {V n : Nat} {s : Nat → ByteArray} {z : Nat → Int} {c : Nat → Nat → Int} {g cap : Nat} {xs : List Value} {wr : World}

theorem Chk.drewN (h : Chk w0 V n s z c g cap xs wr) (q : Nat) : Chk w0 V n s z c g cap xs (wr.drewN q) := ⟨⟨h.rc.own, h.rc.rows⟩, h.vr, h.co.drewN q⟩
theorem Chk.drew (h : Chk w0 V n s z c g cap xs wr) : Chk w0 V n s z c g cap xs wr.drew := ⟨⟨h.rc.own, h.rc.rows⟩, h.vr, h.co.drew⟩

theorem Chk.at_ (h : Chk w0 V n s z c g cap xs wr) {k : Nat} (hk : k < n + 1) {L : List Value} (hL : more (rw6 s z c) n [.string ⟨#[116, 111, 116, 97, 108]⟩, .string ⟨#[]⟩, .string (S (sm c n 0)), .string (S (sm c n 1)), .string (S (sm c n 2)), .string (S (sm c n 3))] k = L) :
    ∃ hh ch, wr.cell? ⟨g, k, none⟩ = some (.slice (some ⟨hh, 0, none⟩) 6 ch) ∧ ∀ i x, L[i]? = some x → wr.cell? ⟨hh, i, none⟩ = some x := by
  obtain ⟨x, hx, ox⟩ := h.rc.rows k hk
  rw [hL] at ox
  obtain ⟨hh, ch, rfl, -, hc⟩ := own_cells ox (by omega)
  obtain ⟨g', cap', e, -, gc⟩ := own_cells h.rc.own (by omega)
  cases e
  exact ⟨hh, ch, gc k _ hx, hc⟩

theorem Chk.row (h : Chk w0 V n s z c g cap xs wr) {k : Nat} (hk : k < n) :
    ∃ hh ch, wr.cell? ⟨g, k, none⟩ = some (.slice (some ⟨hh, 0, none⟩) 6 ch) ∧ wr.cell? ⟨hh, 0, none⟩ = some (.string (s k)) ∧ wr.cell? ⟨hh, 1, none⟩ = some (.string (S (z k))) ∧ ∀ j, j < 4 → wr.cell? ⟨hh, 2 + j, none⟩ = some (.string (S (c k j))) := by
  obtain ⟨hh, ch, h0, hc⟩ := h.at_ (k := k) (L := rw6 s z c k) (by omega) (by simp only [more]; rw [if_neg (by omega)])
  refine ⟨hh, ch, h0, hc 0 _ rfl, hc 1 _ rfl, fun j hj => ?_⟩
  rcases (show j = 0 ∨ j = 1 ∨ j = 2 ∨ j = 3 by omega) with rfl | rfl | rfl | rfl
  · exact hc 2 _ rfl
  · exact hc 3 _ rfl
  · exact hc 4 _ rfl
  · exact hc 5 _ rfl

theorem Chk.last (h : Chk w0 V n s z c g cap xs wr) :
    ∃ hh ch, wr.cell? ⟨g, n, none⟩ = some (.slice (some ⟨hh, 0, none⟩) 6 ch) ∧ wr.cell? ⟨hh, 0, none⟩ = some (.string ⟨#[116, 111, 116, 97, 108]⟩) ∧ wr.cell? ⟨hh, 1, none⟩ = some (.string ⟨#[]⟩) ∧ ∀ j, j < 4 → wr.cell? ⟨hh, 2 + j, none⟩ = some (.string (S (sm c n j))) := by
  obtain ⟨hh, ch, h0, hc⟩ := h.at_ (k := n) (Nat.lt_succ_self _) (if_pos rfl)
  refine ⟨hh, ch, h0, hc 0 _ rfl, hc 1 _ rfl, fun j hj => ?_⟩
  rcases (show j = 0 ∨ j = 1 ∨ j = 2 ∨ j = 3 by omega) with rfl | rfl | rfl | rfl
  · exact hc 2 _ rfl
  · exact hc 3 _ rfl
  · exact hc 4 _ rfl
  · exact hc 5 _ rfl
end
end Go.Proofs.Qxb6003329aDoor.Hp
