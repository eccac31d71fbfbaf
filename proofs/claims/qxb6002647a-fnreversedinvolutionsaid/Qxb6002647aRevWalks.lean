/- The walks of cloneBytes, reversed, sameBytes: each by a contract of its own. -/
import Derived.Test.Qxb6002647aRows
import Derived.WalkKit
import Derived.ProofKit
import Derived.Deep.OwnRows
import Derived.WalkLawsBesides
import Derived.Deep.QuietTactic
import Derived.BigQuiet
namespace Go.Proofs.Qxb6002647a.Rev
open Go.RowKit

theorem info5 : (Try.prog.info? 5).map (fun i => (i.zero, i.size, i.bytes)) = some (some (.int .u8 0), 1, 1) := by kernel_rfl

/-- What lies in an own row of n bytes when the places for which 'done' says yes hold 'z'. -/
def part (done : Nat → Bool) (z : Nat → Int) (j : Nat) : Value := .int .u8 (if done j then z j else 0)

/-- One store more into the row. -/
theorem row_step {wr : World} {B n : Nat} {d d' : Nat → Bool} {z : Nat → Int} (h : wr.rowIs B 5 n (part d z)) (k : Nat) (hd : ∀ j, j < n → d' j = (decide (j = k) || d j)) :
    (wr.setCell ⟨B, k, none⟩ (.int .u8 (z k))).rowIs B 5 n (part d' z) := by
  refine (h.set k (.int .u8 (z k))).congr fun j hj => ?_
  by_cases e : j = k
  · subst e; simp [part, hd j hj]
  · simp [part, hd j hj, e]

theorem lt_step (j k : Nat) : decide (j < k + 1) = (decide (j = k) || decide (j < k)) := by
  rw [← Bool.decide_or]; exact decide_eq_decide.2 (by omega)

theorem clone_nil (w : World) : Calls Try.prog 12 #[.slice none 0 0] w fun e w' => e = .returned (.slice none 0 0) ∧ w' = w := by
  have hq := fun w => Lib.run_eql_slice_nil (P := Try.prog) w 22 5 none 0 0 0 0 Try.underlying22
  go_enter Try.func12, Try.ntmps12
  go_wp2
  go_ret
  exact ⟨rfl, rfl⟩

set_option maxHeartbeats 400000 in
theorem clone_row (b off len cap : Nat) (spot : Option Nat) (z : Nat → Int) (w : World) (h20 : len ≤ 1048576) (hlt : 0 < len → b < w.heap.size) (hsp : 0 < len → spot = none)
    (hc : ∀ i, i < len → w.cell? ⟨b, off + i, none⟩ = some (.int .u8 (z i))) :
    Calls Try.prog 12 #[.slice (some ⟨b, off, spot⟩) len cap] w fun e w' => e = .returned (.slice (some ⟨w.heap.size, 0, none⟩) len len) ∧ w'.rowIs w.heap.size 5 len (fun j => .int .u8 (z j)) ∧ Below w.heap.size w w' ∧ w'.heap.size = w.heap.size + 1 := by
  have hq := fun w => Lib.run_eql_slice_nil (P := Try.prog) w 22 5 (some ⟨b, off, spot⟩) len cap 0 0 Try.underlying22
  have hmk := run_make_row' (P := Try.prog) 22 5 (.int .u8 0) 1 Try.underlying22 info5 rfl .i64 .i64 len (by omega) (by omega)
  go_enter Try.func12, Try.ntmps12
  go_wp2
  go_loopw [4] (fun i wr => ∃ k : Nat, k ≤ len ∧ i = .int .i64 k ∧ wr.rowIs w.heap.size 5 len (part (fun j => decide (j < k)) z) ∧ Below w.heap.size w wr ∧ wr.heap.size = w.heap.size + 1) (fun i _ => len - (intOf i).toNat)
  case atStart => exact ⟨0, Nat.zero_le _, rfl, (World.rowIs_made _ _ _ _).congr (fun j _ => by simp [part]), (Below.refl _ _).alloc (Nat.le_refl _) _, by simp⟩
  case round =>
    obtain ⟨k, hk, rfl, hrow, hnx, hsz⟩ := hrel
    by_cases hkl : k < len
    · have hbl := hlt (by omega)
      obtain rfl := hsp (by omega)
      have hcx : wr.cell? ⟨b, off + k, none⟩ = some (.int .u8 (z k)) := (hnx.cell (by exact hbl)).trans (hc k hkl)
      have hcc := hrow.cell hkl
      have hfz := hrow.frozen k
      clear hc hq hmk
      go_wp2
      go_roundw
      case rel => exact ⟨k + 1, by omega, by go_num, row_step hrow k (fun j _ => lt_step j k), hnx.setCell (Nat.le_refl _) _, by simp [World.setCell, hsz]⟩
      case measure => simp [intOf]; omega
    · have : k = len := by omega
      subst this
      go_wp2
      go_ret
      exact ⟨rfl, hrow.congr (fun j hj => by simp [part, hj]), hnx, hsz⟩

theorem ge_step (n j k : Nat) (hk : k < n) (_hj : j < n) : decide (n < j + 1 + (k + 1)) = (decide (j = n - 1 - k) || decide (n < j + 1 + k)) := by
  rw [← Bool.decide_or]; exact decide_eq_decide.2 (by omega)

theorem rev_step {wr : World} {B n k m : Nat} {z : Nat → Int} (h : wr.rowIs B 5 n (part (fun j => decide (n < j + 1 + k)) (fun j => z (n - 1 - j)))) (hk : k < n) (hm : m = n - 1 - k) :
    (wr.setCell ⟨B, m, none⟩ (.int .u8 (z k))).rowIs B 5 n (part (fun j => decide (n < j + 1 + (k + 1))) (fun j => z (n - 1 - j))) := by
  have hz : z k = (fun j => z (n - 1 - j)) m := by show z k = z (n - 1 - m); congr 1; omega
  rw [hz]
  exact row_step h m (fun j hj => by rw [hm]; exact ge_step n j k hk hj)

set_option maxHeartbeats 400000 in
/-- 'reversed' at a slice that is nil, or empty, or whose bytes are told. -/
theorem rev_row (ao : Option Addr) (len cap : Nat) (b off : Nat) (z : Nat → Int) (w : World) (h20 : len ≤ 1048576) (hao : 0 < len → ao = some ⟨b, off, none⟩) (hlt : 0 < len → b < w.heap.size)
    (hc : ∀ i, i < len → w.cell? ⟨b, off + i, none⟩ = some (.int .u8 (z i))) :
    Calls Try.prog 21 #[.slice ao len cap] w fun e w' => e = .returned (.slice (some ⟨w.heap.size, 0, none⟩) len len) ∧ w'.rowIs w.heap.size 5 len (fun j => .int .u8 (z (len - 1 - j))) ∧ Below w.heap.size w w' ∧ w'.heap.size = w.heap.size + 1 := by
  have hmk := run_make_row' (P := Try.prog) 22 5 (.int .u8 0) 1 Try.underlying22 info5 rfl .i64 .i64 len (by omega) (by omega)
  go_enter Try.func21, Try.ntmps21
  go_wp2
  go_loopw [11] (fun i wr => ∃ k : Nat, k ≤ len ∧ i = .int .i64 k ∧ wr.rowIs w.heap.size 5 len (part (fun j => decide (len < j + 1 + k)) (fun j => z (len - 1 - j))) ∧ Below w.heap.size w wr ∧ wr.heap.size = w.heap.size + 1) (fun i _ => len - (intOf i).toNat)
  case atStart => exact ⟨0, Nat.zero_le _, rfl, (World.rowIs_made _ _ _ _).congr (fun j hj => by simp [part]; omega), (Below.refl _ _).alloc (Nat.le_refl _) _, by simp⟩
  case round =>
    obtain ⟨k, hk, rfl, hrow, hnx, hsz⟩ := hrel
    by_cases hkl : k < len
    · have hbl := hlt (by omega)
      obtain rfl := hao (by omega)
      have hcx : wr.cell? ⟨b, off + k, none⟩ = some (.int .u8 (z k)) := (hnx.cell (by exact hbl)).trans (hc k hkl)
      obtain ⟨m, hm⟩ : ∃ m, m = len - 1 - k := ⟨_, rfl⟩
      have hmi : (len : Int) - 1 - (k : Int) = (m : Int) := by omega
      have hml : m < len := by omega
      have hcc := hrow.cell hml
      have hfz := hrow.frozen m
      have HM : Hid (m = len - 1 - k) := hm
      clear hc hmk hm
      go_wp2
      go_roundw
      case rel => exact ⟨k + 1, by omega, by go_num, rev_step hrow hkl HM.out, hnx.setCell (Nat.le_refl _) _, by simp [World.setCell, hsz]⟩
      case measure => simp [intOf]; omega
    · have : k = len := by omega
      subst this
      go_wp2
      go_ret
      exact ⟨rfl, hrow.congr (fun j hj => by simp [part]), hnx, hsz⟩

/-- 'sameBytes' at two slices of one length whose bytes are the same. -/
theorem same_rows (a1 a2 : Option Addr) (len c1 c2 : Nat) (b1 o1 b2 o2 : Nat) (z : Nat → Int) (w : World) (h20 : len ≤ 1048576) (ha1 : 0 < len → a1 = some ⟨b1, o1, none⟩) (ha2 : 0 < len → a2 = some ⟨b2, o2, none⟩)
    (hc1 : ∀ i, i < len → w.cell? ⟨b1, o1 + i, none⟩ = some (.int .u8 (z i))) (hc2 : ∀ i, i < len → w.cell? ⟨b2, o2 + i, none⟩ = some (.int .u8 (z i))) :
    Calls Try.prog 14 #[.slice a1 len c1, .slice a2 len c2] w fun e w' => e = .returned (.bool true) ∧ ∃ n, w' = w.drewN n := by
  go_enter Try.func14, Try.ntmps14
  go_wp2
  go_loopw [5] (fun i wr => ∃ k n : Nat, k ≤ len ∧ i = .int .i64 k ∧ wr = w.drewN n) (fun i _ => len - (intOf i).toNat)
  case atStart => exact ⟨0, 0, Nat.zero_le _, rfl, rfl⟩
  case round =>
    obtain ⟨k, n, hk, rfl, rfl⟩ := hrel
    by_cases hkl : k < len
    · obtain rfl := ha1 (by omega)
      obtain rfl := ha2 (by omega)
      have hx1 := hc1 k hkl
      have hx2 := hc2 k hkl
      have hki : (k : Int) < (len : Int) := by omega
      clear hc1 hc2
      go_wp2
      go_quiet (fail)
      go_wp2
      go_roundw
      case rel => exact ⟨k + 1, _, by omega, by go_num, by simp [World.drewN]; rfl⟩
      case measure => simp [intOf]; omega
    · go_wp2
      go_ret
      exact ⟨rfl, n, rfl⟩

end Go.Proofs.Qxb6002647a.Rev
