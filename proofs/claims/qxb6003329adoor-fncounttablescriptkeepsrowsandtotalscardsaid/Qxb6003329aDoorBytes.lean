/- The count-table law: what the walks are told of the arguments, and the bound on the sizes. -/
import Derived.Test.Qxb6003329aDoorDone
import Derived.Test.Qxb6003329aDoorParse
namespace Go.Proofs.Qxb6003329aDoor.By
open Go.RowKit
open Go.Proofs.Qxb6003329aDoor.Fm

/-- A slice whose elements can be read: where it is not empty it begins at 'off' in block b. -/
def Row (w : World) (ao : Option Addr) (len b off : Nat) (f : Nat → Value) : Prop :=
  (0 < len → ao = some ⟨b, off, none⟩ ∧ b < w.heap.size) ∧ ∀ i, i < len → w.cell? ⟨b, off + i, none⟩ = some (f i)

theorem Row.below {w w' : World} {ao : Option Addr} {len b off : Nat} {f : Nat → Value} (h : Row w ao len b off f) (hb : Below w.heap.size w w') : Row w' ao len b off f :=
  ⟨fun h0 => ⟨(h.1 h0).1, Nat.lt_of_lt_of_le (h.1 h0).2 hb.size⟩, fun i hi => (hb.cell (p := ⟨b, off + i, none⟩) (h.1 (by omega)).2).trans (h.2 i hi)⟩

/-- What 'zzBytes' answers. -/
def BytesR (w : World) (n : Nat) (s : Nat → ByteArray) (e : Ending) (w' : World) : Prop :=
  (∃ r : Bool, e = .returned (.bool r) ∧ (r = true → ∀ i, i < n → (s i).size ≤ 1048576)) ∧ w' = w

set_option maxRecDepth 100000 in
set_option maxHeartbeats 4000000 in
theorem bytes_any (al : Option Addr) (n cl b off : Nat) (s : Nat → ByteArray) (ad : Option Addr) (nd cd : Nat) (ac : Option Addr) (nc cc : Nat) (w : World) (hr : Row w al n b off (fun i => .string (s i))) :
    Calls Tryd.prog 4 #[.slice al n cl, .slice ad nd cd, .slice ac nc cc] w (BytesR w n s) := by
  by_cases hn : 1048576 < n
  · go_enter Tryd.func4, Tryd.ntmps4
    go_wp2
    go_ret
    exact ⟨⟨false, rfl, fun h => by cases h⟩, rfl⟩
  go_enter Tryd.func4, Tryd.ntmps4
  go_wp2
  go_loop [7, 8] (fun q i => ∃ (k : Nat) (x : Int), k ≤ n ∧ i = .int .i64 k ∧ q = .int .i64 x ∧ 0 ≤ x ∧ x ≤ 1048576 ∧ Hid (∀ j, j < k → (s j).size ≤ 1048576)) (fun _ i => n - (intOf i).toNat)
  case atStart => exact ⟨0, n, Nat.zero_le _, rfl, rfl, by omega, by omega, fun j hj => by omega⟩
  case round =>
    obtain ⟨k, x, hk, rfl, rfl, x0, x1, x2⟩ := hrel
    by_cases hkl : k < n
    · obtain ⟨rfl, hbl⟩ := hr.1 (by omega)
      have hcx := hr.2 k hkl
      by_cases hz : 1048576 < (s k).size
      · have hd : decide ((1048576 : Int) < ((s k).size : Int)) = true := by simp; omega
        go_wp2
        go_ret
        exact ⟨⟨false, rfl, fun h => by cases h⟩, rfl⟩
      · by_cases hz2 : 1048576 < x + ((s k).size : Int)
        · go_wp2
          go_ret
          exact ⟨⟨false, rfl, fun h => by cases h⟩, rfl⟩
        · go_wp2
          go_round
          case rel => exact ⟨k + 1, x + ((s k).size : Int), by omega, by go_num, rfl, by omega, by omega, fun j hj => by
            by_cases e : j = k
            · subst e; omega
            · exact x2.out j (by omega)⟩
          case measure => simp [intOf]; omega
    · obtain rfl : k = n := by omega
      by_cases h1 : 1048576 < nd
      · go_wp2
        go_ret
        exact ⟨⟨false, rfl, fun h => by cases h⟩, rfl⟩
      by_cases h2 : 1048576 < x + (nd : Int)
      · go_wp2
        go_ret
        exact ⟨⟨false, rfl, fun h => by cases h⟩, rfl⟩
      by_cases h3 : 1048576 < nc
      · go_wp2
        go_ret
        exact ⟨⟨false, rfl, fun h => by cases h⟩, rfl⟩
      by_cases h4 : 1048576 < x + (nd : Int) + (nc : Int)
      · go_wp2
        go_ret
        exact ⟨⟨false, rfl, fun h => by cases h⟩, rfl⟩
      go_wp2
      go_ret
      exact ⟨⟨true, rfl, fun _ => x2.out⟩, rfl⟩
end Go.Proofs.Qxb6003329aDoor.By
