/- The Lead laws: the small walks: sizes in bytes, ByteLess, the clones, the comparisons. -/
import Derived.Test.Qxb6603051aRows
import Derived.Test.Qxb6603051aPlain
import Derived.WalkKit
import Derived.ProofKit
import Derived.Deep.OwnRows
import Derived.WalkLawsBesides
import Derived.Deep.QuietTactic
import Derived.BigQuiet
namespace Go.Proofs.Qxb6603051a.Sm
open Go.RowKit
open Go.Proofs.Qxb6603051a.Pl

/-- A slice whose elements can be read: where it is not empty it begins at 'off' in block b. -/
def Row (w : World) (ao : Option Addr) (len b off : Nat) (f : Nat → Value) : Prop :=
  (0 < len → ao = some ⟨b, off, none⟩ ∧ b < w.heap.size) ∧ ∀ i, i < len → w.cell? ⟨b, off + i, none⟩ = some (f i)

theorem Row.below {w w' : World} {ao : Option Addr} {len b off : Nat} {f : Nat → Value} (h : Row w ao len b off f) (hb : Below w.heap.size w w') : Row w' ao len b off f :=
  ⟨fun h0 => ⟨(h.1 h0).1, Nat.lt_of_lt_of_le (h.1 h0).2 hb.size⟩, fun i hi => (hb.cell (p := ⟨b, off + i, none⟩) (h.1 (by omega)).2).trans (h.2 i hi)⟩

theorem Row.drewN {w : World} {ao : Option Addr} {len b off : Nat} {f : Nat → Value} (h : Row w ao len b off f) (n : Nat) : Row (w.drewN n) ao len b off f := h

theorem below_drewN {B : Nat} {a w : World} (h : Below B a w) (n : Nat) : Below B a (w.drewN n) := h.trans ⟨rfl, rfl, rfl, Nat.le_refl _, fun _ _ => rfl⟩

theorem dd (w : World) (a b : Nat) : (w.drewN a).drewN b = w.drewN (a + b) := by simp [World.drewN, Nat.add_assoc]

/-! ### sizes -/
theorem add_any (t n : Int) (ht : 0 ≤ t) (ht' : t ≤ 1048577) (w : World) :
    Calls Try.prog 39 #[.int .i64 t, .int .i64 n] w fun e w' => (∃ r : Int, e = .returned (.int .i64 r) ∧ 0 ≤ r ∧ r ≤ 1048577 ∧ (r ≤ 1048576 → t ≤ 1048576 ∧ 0 ≤ n ∧ r = t + n)) ∧ w' = w := by
  by_cases h1 : 1048576 < t
  · go_enter Try.func39, Try.ntmps39
    go_wp2
    go_ret
    exact ⟨⟨1048577, rfl, by omega, by omega, fun h => by omega⟩, rfl⟩
  · by_cases h2 : n < 0
    · go_enter Try.func39, Try.ntmps39
      go_wp2
      go_ret
      exact ⟨⟨1048577, rfl, by omega, by omega, fun h => by omega⟩, rfl⟩
    · by_cases h3 : 1048576 < n
      · go_enter Try.func39, Try.ntmps39
        go_wp2
        go_ret
        exact ⟨⟨1048577, rfl, by omega, by omega, fun h => by omega⟩, rfl⟩
      · by_cases h4 : 1048576 - n < t
        · go_enter Try.func39, Try.ntmps39
          go_wp2
          go_ret
          exact ⟨⟨1048577, rfl, by omega, by omega, fun h => by omega⟩, rfl⟩
        · go_enter Try.func39, Try.ntmps39
          go_wp2
          go_ret
          exact ⟨⟨t + n, rfl, by omega, by omega, fun h => by first | exact ⟨by omega, by omega, rfl⟩ | rfl⟩, rfl⟩

theorem addw_any (t n k : Int) (ht : 0 ≤ t) (ht' : t ≤ 1048577) (_hk : 1 ≤ k) (_hk' : k ≤ 24) (w : World) :
    Calls Try.prog 45 #[.int .i64 t, .int .i64 n, .int .i64 k] w fun e w' => (∃ r : Int, e = .returned (.int .i64 r) ∧ 0 ≤ r ∧ r ≤ 1048577 ∧ (r ≤ 1048576 → t ≤ 1048576 ∧ 0 ≤ n ∧ n ≤ 1048576)) ∧ w' = w := by
  by_cases h2 : n < 0
  · go_enter Try.func45, Try.ntmps45
    go_wp2
    go_ret
    exact ⟨⟨1048577, rfl, by omega, by omega, fun h => by omega⟩, rfl⟩
  · by_cases h3 : 1048576 < n
    · go_enter Try.func45, Try.ntmps45
      go_wp2
      go_ret
      exact ⟨⟨1048577, rfl, by omega, by omega, fun h => by omega⟩, rfl⟩
    · go_enter Try.func45, Try.ntmps45
      go_wp2_with fail
      refine (add_any _ _ ht ht' _).mono ?_
      rintro e w' ⟨⟨r, rfl, r0, r1, r2⟩, rfl⟩
      go_wp2
      go_ret
      exact ⟨⟨r, rfl, r0, r1, fun h => ⟨(r2 h).1, by omega, by omega⟩⟩, rfl⟩

/-- 'cb1StringsBytes': what it answers bounds the length. -/
theorem strings_any (t : Int) (ao : Option Addr) (len cap b off : Nat) (s : Nat → ByteArray) (ht : 0 ≤ t) (ht' : t ≤ 1048577) (w : World) (hm : len ≤ 9223372036854775807) (hr : Row w ao len b off (fun i => .string (s i))) :
    Calls Try.prog 40 #[.int .i64 t, .slice ao len cap] w fun e w' => (∃ r : Int, e = .returned (.int .i64 r) ∧ 0 ≤ r ∧ r ≤ 1048577 ∧ (r ≤ 1048576 → t ≤ 1048576 ∧ len ≤ 1048576)) ∧ w' = w := by
  go_enter Try.func40, Try.ntmps40
  go_wp2_with fail
  refine (addw_any t len 16 ht ht' (by omega) (by omega) _).mono ?_
  rintro e w' ⟨⟨r, rfl, r0, r1, r2⟩, rfl⟩
  have R2 : Hid (r ≤ 1048576 → t ≤ 1048576 ∧ 0 ≤ (len : Int) ∧ (len : Int) ≤ 1048576) := r2
  clear r2
  go_wp2
  go_loop [0, 5] (fun q i => ∃ (k : Nat) (x : Int), k ≤ len ∧ i = .int .i64 k ∧ q = .int .i64 x ∧ 0 ≤ x ∧ x ≤ 1048577 ∧ (x ≤ 1048576 → r ≤ 1048576)) (fun _ i => len - (intOf i).toNat)
  case atStart => exact ⟨0, r, Nat.zero_le _, rfl, rfl, r0, r1, fun h => h⟩
  case round =>
    obtain ⟨k, x, hk, rfl, rfl, x0, x1, x2⟩ := hrel
    have X2 : Hid (x ≤ 1048576 → r ≤ 1048576) := x2
    clear x2
    by_cases hkl : k < len
    · by_cases hx : x ≤ 1048576
      · obtain ⟨rfl, hbl⟩ := hr.1 (by omega)
        have hcx := hr.2 k hkl
        go_wp2_with (go_at_call 39; refine (add_any _ _ x0 x1 _).mono ?_; rintro e w' ⟨⟨y, rfl, y0, y1, y2⟩, rfl⟩; have Y2 : Hid (y ≤ 1048576 → x ≤ 1048576 ∧ 0 ≤ ((s k).size : Int) ∧ y = x + ((s k).size : Int)) := y2; clear y2)
        go_round
        case rel => exact ⟨k + 1, y, by omega, by go_num, rfl, y0, y1, fun h => X2.out (Y2.out h).1⟩
        case measure => simp [intOf]; omega
      · go_wp2
        go_ret
        exact ⟨⟨x, rfl, x0, x1, fun h => by omega⟩, rfl⟩
    · go_wp2
      all_goals
        go_ret
        exact ⟨⟨x, rfl, x0, x1, fun h => ⟨(R2.out (X2.out h)).1, by have := (R2.out (X2.out h)).2.2; omega⟩⟩, rfl⟩

/-- 'cb1ByteLess' is the order of the bytes. -/
theorem less_any (a b : ByteArray) (w : World) (ha : a.size ≤ maxLen) (hb : b.size ≤ maxLen) :
    Calls Try.prog 41 #[.string a, .string b] w fun e w' => e = .returned (.bool (lessB a b)) ∧ ∃ n, w' = w.drewN n := by
  unfold maxLen at ha hb
  obtain ⟨m, hm1, hm2, hm3⟩ : ∃ m : Nat, m ≤ a.size ∧ m ≤ b.size ∧ (m = a.size ∨ m = b.size) := ⟨min a.size b.size, by omega, by omega, by omega⟩
  have HM : Hid (m = a.size ∨ m = b.size) := hm3
  clear hm3
  by_cases hab : b.size < a.size
  · obtain rfl : m = b.size := by have := HM.out; omega
    go_enter Try.func41, Try.ntmps41
    go_wp2
    go_loopw [6] (fun i wr => ∃ k n : Nat, k ≤ b.size ∧ i = .int .i64 k ∧ wr = w.drewN n ∧ Hid (lessB a b = lessD a b k)) (fun i _ => b.size - (intOf i).toNat)
    case atStart => exact ⟨0, 0, Nat.zero_le _, rfl, rfl, rfl⟩
    case round =>
      obtain ⟨k, n, hk, rfl, rfl, HL⟩ := hrel
      by_cases hkl : k < b.size
      · have hka : k < a.size := by omega
        by_cases he : a[k].toNat = b[k].toNat
        · have he' : ((a[k].toNat : Int) != (b[k].toNat : Int)) = false := by simp [he]
          go_wp2
          go_quiet (fail)
          go_wp2
          go_roundw
          case rel => exact ⟨k + 1, _, by omega, by go_num, rfl, HL.out.trans (lessD_eq a b k hka hkl he)⟩
          case measure => simp [intOf]; omega
        · have he' : ((a[k].toNat : Int) != (b[k].toNat : Int)) = true := by simp; omega
          have HF : Hid (lessB a b = decide (a[k].toNat < b[k].toNat)) := HL.out.trans (lessD_ne a b k hka hkl he)
          go_wp2
          go_quiet (fail)
          go_wp2
          go_quiet (fail)
          go_wp2
          go_ret
          exact ⟨by rw [HF.out]; simp, _, by rw [dd, dd]⟩
      · have HF : Hid (lessB a b = decide (a.size < b.size)) := HL.out.trans (lessD_end a b k (by omega) (by omega) (by omega))
        go_wp2
        go_ret
        exact ⟨by rw [HF.out]; simp, _, rfl⟩
  · obtain rfl : m = a.size := by have := HM.out; omega
    go_enter Try.func41, Try.ntmps41
    go_wp2
    go_loopw [6] (fun i wr => ∃ k n : Nat, k ≤ a.size ∧ i = .int .i64 k ∧ wr = w.drewN n ∧ Hid (lessB a b = lessD a b k)) (fun i _ => a.size - (intOf i).toNat)
    case atStart => exact ⟨0, 0, Nat.zero_le _, rfl, rfl, rfl⟩
    case round =>
      obtain ⟨k, n, hk, rfl, rfl, HL⟩ := hrel
      by_cases hka : k < a.size
      · have hkl : k < b.size := by omega
        by_cases he : a[k].toNat = b[k].toNat
        · have he' : ((a[k].toNat : Int) != (b[k].toNat : Int)) = false := by simp [he]
          go_wp2
          go_quiet (fail)
          go_wp2
          go_roundw
          case rel => exact ⟨k + 1, _, by omega, by go_num, rfl, HL.out.trans (lessD_eq a b k hka hkl he)⟩
          case measure => simp [intOf]; omega
        · have he' : ((a[k].toNat : Int) != (b[k].toNat : Int)) = true := by simp; omega
          have HF : Hid (lessB a b = decide (a[k].toNat < b[k].toNat)) := HL.out.trans (lessD_ne a b k hka hkl he)
          go_wp2
          go_quiet (fail)
          go_wp2
          go_quiet (fail)
          go_wp2
          go_ret
          exact ⟨by rw [HF.out]; simp, _, by rw [dd, dd]⟩
      · have HF : Hid (lessB a b = decide (a.size < b.size)) := HL.out.trans (lessD_end a b k (by omega) (by omega) (by omega))
        go_wp2
        go_ret
        exact ⟨by rw [HF.out]; simp, _, rfl⟩

/-! ### what the call owns -/
theorem info9 : (Try.prog.info? 9).map (fun i => (i.zero, i.size, i.bytes)) = some (some (.string ByteArray.empty), 1, 16) := by kernel_rfl
theorem info3 : (Try.prog.info? 3).map (fun i => (i.zero, i.size, i.bytes)) = some (some (.int .i64 0), 1, 8) := by kernel_rfl
theorem info4 : (Try.prog.info? 4).map (fun i => (i.zero, i.size, i.bytes)) = some (some (.bool false), 1, 1) := by kernel_rfl

/-- A slice that is empty, or whose elements are a whole row of the call's own, in a block from 'lo' on. -/
def Own (w : World) (lo : Nat) (ao : Option Addr) (len B : Nat) (T : TypeId) (f : Nat → Value) : Prop :=
  0 < len → ao = some ⟨B, 0, none⟩ ∧ lo ≤ B ∧ w.rowIs B T len f

theorem Own.row {w : World} {lo : Nat} {ao : Option Addr} {len B : Nat} {T : TypeId} {f : Nat → Value} (h : Own w lo ao len B T f) : Row w ao len B 0 f :=
  ⟨fun h0 => ⟨(h h0).1, (h h0).2.2.lt⟩, fun i hi => by rw [Nat.zero_add]; exact (h (by omega)).2.2.cell hi⟩

theorem Own.below {w w' : World} {lo : Nat} {ao : Option Addr} {len B : Nat} {T : TypeId} {f : Nat → Value} (h : Own w lo ao len B T f) (hb : Below w.heap.size w w') : Own w' lo ao len B T f :=
  fun h0 => ⟨(h h0).1, (h h0).2.1, (h h0).2.2.of_block (hb.block _ (h h0).2.2.lt)⟩

/-- One store more: the first k + 1 places hold what they shall. -/
theorem part_step {wr : World} {B T n k : Nat} {f : Nat → Value} {z : Value} (h : wr.rowIs B T n (fun j => if j < k then f j else z)) :
    (wr.setCell ⟨B, k, none⟩ (f k)).rowIs B T n (fun j => if j < k + 1 then f j else z) := by
  refine (h.set k (f k)).congr fun j hj => ?_
  by_cases e : j = k
  · subst e; simp
  · have : (j < k + 1) = (j < k) := by simp only [eq_iff_iff]; omega
    simp [e, this]

/-- What a clone leaves: an own row that holds the same; nil just where the source was nil. -/
def Cloned (w : World) (nil : Bool) (len : Nat) (T : TypeId) (f : Nat → Value) (e : Ending) (w' : World) : Prop :=
  ∃ ao' cap' B, e = .returned (.slice ao' len cap') ∧ ao'.isNone = nil ∧ (ao' = none → cap' = 0) ∧ Own w' w.heap.size ao' len B T f ∧ Below w.heap.size w w'

theorem clone_strings (ao : Option Addr) (len cap b off : Nat) (s : Nat → ByteArray) (w : World) (h20 : len ≤ 1048576) (hn : ao = none → len = 0 ∧ cap = 0) (hr : Row w ao len b off (fun i => .string (s i))) :
    Calls Try.prog 11 #[.slice ao len cap] w (Cloned w ao.isNone len 9 (fun i => .string (s i))) := by
  have hq := fun w => Lib.run_eql_slice_nil (P := Try.prog) w 22 9 ao len cap 0 0 Try.underlying22
  cases ao with
  | none =>
    obtain ⟨rfl, rfl⟩ := hn rfl
    go_enter Try.func11, Try.ntmps11
    go_wp2
    go_ret
    exact ⟨none, 0, 0, rfl, rfl, fun _ => rfl, fun h => by omega, Below.refl _ _⟩
  | some x =>
    have hmk := run_make_row' (P := Try.prog) 22 9 (.string ByteArray.empty) 16 Try.underlying22 info9 rfl .i64 .i64 len (by omega) (by omega)
    clear hn
    go_enter Try.func11, Try.ntmps11
    go_wp2
    go_loopw [4] (fun i wr => ∃ k : Nat, k ≤ len ∧ i = .int .i64 k ∧ wr.rowIs w.heap.size 9 len (fun j => if j < k then .string (s j) else .string ByteArray.empty) ∧ Below w.heap.size w wr) (fun i _ => len - (intOf i).toNat)
    case atStart => exact ⟨0, Nat.zero_le _, rfl, (World.rowIs_made _ _ _ _).congr (fun j _ => by simp), (Below.refl _ _).alloc (Nat.le_refl _) _⟩
    case round =>
      obtain ⟨k, hk, rfl, hrow, hnx⟩ := hrel
      by_cases hkl : k < len
      · obtain ⟨hx, hbl⟩ := hr.1 (by omega)
        obtain rfl := Option.some.inj hx
        have hcx : wr.cell? ⟨b, off + k, none⟩ = some (.string (s k)) := (hnx.cell (by exact hbl)).trans (hr.2 k hkl)
        have hcc : wr.cell? ⟨w.heap.size, k, none⟩ = some (.string ByteArray.empty) := by simpa using hrow.cell hkl
        have hfz := hrow.frozen k
        clear hq hmk hx
        go_wp2
        go_roundw
        case rel => exact ⟨k + 1, by omega, by go_num, part_step hrow, hnx.setCell (Nat.le_refl _) _⟩
        case measure => simp [intOf]; omega
      · have : k = len := by omega
        subst this
        go_wp2
        go_ret
        exact ⟨_, _, w.heap.size, rfl, rfl, (fun h => by cases h), fun _ => ⟨rfl, Nat.le_refl _, hrow.congr (fun j hj => by simp [hj])⟩, hnx⟩
theorem clone_ints (ao : Option Addr) (len cap b off : Nat) (s : Nat → Int) (w : World) (h20 : len ≤ 1048576) (hn : ao = none → len = 0 ∧ cap = 0) (hr : Row w ao len b off (fun i => .int .i64 (s i))) :
    Calls Try.prog 13 #[.slice ao len cap] w (Cloned w ao.isNone len 3 (fun i => .int .i64 (s i))) := by
  have hq := fun w => Lib.run_eql_slice_nil (P := Try.prog) w 24 3 ao len cap 0 0 Try.underlying24
  cases ao with
  | none =>
    obtain ⟨rfl, rfl⟩ := hn rfl
    go_enter Try.func13, Try.ntmps13
    go_wp2
    go_ret
    exact ⟨none, 0, 0, rfl, rfl, fun _ => rfl, fun h => by omega, Below.refl _ _⟩
  | some x =>
    have hmk := run_make_row' (P := Try.prog) 24 3 (.int .i64 0) 8 Try.underlying24 info3 rfl .i64 .i64 len (by omega) (by omega)
    clear hn
    go_enter Try.func13, Try.ntmps13
    go_wp2
    go_loopw [4] (fun i wr => ∃ k : Nat, k ≤ len ∧ i = .int .i64 k ∧ wr.rowIs w.heap.size 3 len (fun j => if j < k then .int .i64 (s j) else .int .i64 0) ∧ Below w.heap.size w wr) (fun i _ => len - (intOf i).toNat)
    case atStart => exact ⟨0, Nat.zero_le _, rfl, (World.rowIs_made _ _ _ _).congr (fun j _ => by simp), (Below.refl _ _).alloc (Nat.le_refl _) _⟩
    case round =>
      obtain ⟨k, hk, rfl, hrow, hnx⟩ := hrel
      by_cases hkl : k < len
      · obtain ⟨hx, hbl⟩ := hr.1 (by omega)
        obtain rfl := Option.some.inj hx
        have hcx : wr.cell? ⟨b, off + k, none⟩ = some (.int .i64 (s k)) := (hnx.cell (by exact hbl)).trans (hr.2 k hkl)
        have hcc : wr.cell? ⟨w.heap.size, k, none⟩ = some (.int .i64 0) := by simpa using hrow.cell hkl
        have hfz := hrow.frozen k
        clear hq hmk hx
        go_wp2
        go_roundw
        case rel => exact ⟨k + 1, by omega, by go_num, part_step hrow, hnx.setCell (Nat.le_refl _) _⟩
        case measure => simp [intOf]; omega
      · have : k = len := by omega
        subst this
        go_wp2
        go_ret
        exact ⟨_, _, w.heap.size, rfl, rfl, (fun h => by cases h), fun _ => ⟨rfl, Nat.le_refl _, hrow.congr (fun j hj => by simp [hj])⟩, hnx⟩
theorem clone_bools (ao : Option Addr) (len cap b off : Nat) (s : Nat → Bool) (w : World) (h20 : len ≤ 1048576) (hn : ao = none → len = 0 ∧ cap = 0) (hr : Row w ao len b off (fun i => .bool (s i))) :
    Calls Try.prog 14 #[.slice ao len cap] w (Cloned w ao.isNone len 4 (fun i => .bool (s i))) := by
  have hq := fun w => Lib.run_eql_slice_nil (P := Try.prog) w 25 4 ao len cap 0 0 Try.underlying25
  cases ao with
  | none =>
    obtain ⟨rfl, rfl⟩ := hn rfl
    go_enter Try.func14, Try.ntmps14
    go_wp2
    go_ret
    exact ⟨none, 0, 0, rfl, rfl, fun _ => rfl, fun h => by omega, Below.refl _ _⟩
  | some x =>
    have hmk := run_make_row' (P := Try.prog) 25 4 (.bool false) 1 Try.underlying25 info4 rfl .i64 .i64 len (by omega) (by omega)
    clear hn
    go_enter Try.func14, Try.ntmps14
    go_wp2
    go_loopw [4] (fun i wr => ∃ k : Nat, k ≤ len ∧ i = .int .i64 k ∧ wr.rowIs w.heap.size 4 len (fun j => if j < k then .bool (s j) else .bool false) ∧ Below w.heap.size w wr) (fun i _ => len - (intOf i).toNat)
    case atStart => exact ⟨0, Nat.zero_le _, rfl, (World.rowIs_made _ _ _ _).congr (fun j _ => by simp), (Below.refl _ _).alloc (Nat.le_refl _) _⟩
    case round =>
      obtain ⟨k, hk, rfl, hrow, hnx⟩ := hrel
      by_cases hkl : k < len
      · obtain ⟨hx, hbl⟩ := hr.1 (by omega)
        obtain rfl := Option.some.inj hx
        have hcx : wr.cell? ⟨b, off + k, none⟩ = some (.bool (s k)) := (hnx.cell (by exact hbl)).trans (hr.2 k hkl)
        have hcc : wr.cell? ⟨w.heap.size, k, none⟩ = some (.bool false) := by simpa using hrow.cell hkl
        have hfz := hrow.frozen k
        clear hq hmk hx
        go_wp2
        go_roundw
        case rel => exact ⟨k + 1, by omega, by go_num, part_step hrow, hnx.setCell (Nat.le_refl _) _⟩
        case measure => simp [intOf]; omega
      · have : k = len := by omega
        subst this
        go_wp2
        go_ret
        exact ⟨_, _, w.heap.size, rfl, rfl, (fun h => by cases h), fun _ => ⟨rfl, Nat.le_refl _, hrow.congr (fun j hj => by simp [hj])⟩, hnx⟩
end Go.Proofs.Qxb6603051a.Sm
