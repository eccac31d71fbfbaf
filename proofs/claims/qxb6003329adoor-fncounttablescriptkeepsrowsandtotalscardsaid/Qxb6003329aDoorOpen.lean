/- The count-table law: from the row's reading of the three arguments, and from what the row lists of the variables, to what the walk is told. -/
import Derived.Test.Qxb6003329aDoorLaw
import Derived.OpenShut
import Derived.ShutString
import Derived.ChangeOld
import Derived.SliceStrings
import Derived.Deep.Grids
import Derived.Deep.Slices
import Derived.Lib.LaidTab
import Derived.Stop.LaidErr
import Derived.MakeChecks
namespace Go.Proofs.Qxb6003329aDoor.Op
open Go.ChangeShapes Go.WideShapes Go.ChangeAt Go.RowKit Go.WideElems
open Go.Proofs.Qxb6003329aDoor.By
open Go.Proofs.Qxb6003329aDoor.Hp

theorem own : ownKnob Tryd.prog.godebug = none := by kernel_rfl
theorem laidOut : laidOutB Tryd.prog = true := by kernel_rfl

theorem row_of_cells {W : World} {x : Addr} {len : Nat} {f : Nat → Value} (h : ∀ i, i < len → W.cell? (x.add i) = some (f i)) : Row W (some x) len x.block x.off f := by
  obtain ⟨b, off, spot⟩ := x
  have hsp : 0 < len → spot = none := fun h0 => by simpa [Addr.add] using World.cell?_spot (h 0 h0)
  have hc : ∀ i, i < len → W.cell? ⟨b, off + i, none⟩ = some (f i) := fun i hi => by
    have hc := h i hi
    obtain rfl := hsp (by omega)
    by_cases e : i = 0
    · subst e; simpa [Addr.add] using hc
    · simpa [Addr.add, e] using hc
  refine ⟨fun h0 => ⟨by rw [hsp h0], ?_⟩, hc⟩
  have := hc 0 h0
  simp only [World.cell?] at this
  rcases Nat.lt_or_ge b W.heap.size with hlt | hge
  · exact hlt
  · rw [Array.getElem?_eq_none hge] at this
    simp at this

section
variable {H : Type} {enc : TypeId × Value → H} {W : World} {a : Option Addr} {l c : Nat} {d : DataW H} {p : List MemPlace}

theorem open_strs (h : DataW.Trod enc Tryd.prog W 0 (fun _ => true) true 22 (.slice a l c) d p) :
    ∃ b off, ∃ s : Nat → ByteArray, Row W a l b off (fun i => .string (s i)) := by
  obtain ⟨fuel, hf⟩ := h
  rcases open_strings Tryd.underlying22 Tryd.underlying9 (by kernel_rfl) hf with ⟨hcs, _⟩ | ⟨x, l', c', ss, hcs, _, hl, _, hz, _, hcell, _⟩
  · simp [Value.cells] at hcs
    obtain ⟨rfl, rfl, rfl⟩ := hcs
    exact ⟨0, 0, fun _ => ByteArray.empty, ⟨fun h => by omega, fun i hi => by omega⟩⟩
  · simp [Value.cells] at hcs
    obtain ⟨rfl, rfl, rfl⟩ := hcs
    have hz' : ss.length = c := by simpa using hz
    exact ⟨_, _, fun i => ss.getD i ByteArray.empty, row_of_cells (fun i hi => hcell i (by omega))⟩

theorem open_nums (h : DataW.Trod enc Tryd.prog W 0 (fun _ => true) true 23 (.slice a l c) d p) :
    ∃ b off, ∃ z : Nat → Int, Row W a l b off (fun i => .int .i64 (z i)) ∧ ∀ i, i < l → -9223372036854775808 ≤ z i ∧ z i ≤ 9223372036854775807 := by
  obtain ⟨fuel, hf⟩ := h
  rcases open_ints Tryd.underlying23 Tryd.underlying3 (by kernel_rfl) hf with ⟨hcs, _⟩ | ⟨x, l', c', zs, hcs, _, hl, _, hz, _, hcell, hws⟩
  · simp [Value.cells] at hcs
    obtain ⟨rfl, rfl, rfl⟩ := hcs
    exact ⟨0, 0, fun _ => 0, ⟨fun h => by omega, fun i hi => by omega⟩, fun i hi => by omega⟩
  · simp [Value.cells] at hcs
    obtain ⟨rfl, rfl, rfl⟩ := hcs
    have hz' : zs.length = c := by simpa using hz
    refine ⟨_, _, fun i => zs.getD i 0, row_of_cells (fun i hi => hcell i (by omega)), fun i hi => ?_⟩
    have hlt : i < zs.length := by omega
    have e : zs.getD i 0 = zs[i] := by rw [List.getD_eq_getElem?_getD, List.getElem?_eq_getElem hlt]; rfl
    show -9223372036854775808 ≤ zs.getD i 0 ∧ zs.getD i 0 ≤ 9223372036854775807
    rw [e]
    have := hws _ (List.getElem_mem hlt)
    simpa [Lit.wf, IntKind.min, IntKind.max, IntKind.signed, IntKind.bits] using this

theorem cells26 : Tryd.prog.cellsOf 26 = 4 := by kernel_rfl

theorem open_grid (h : DataW.Trod enc Tryd.prog W 0 (fun _ => true) true 24 (.slice a l c) d p) :
    ∃ b off, ∃ z : Nat → Nat → Int, Grid W a l b off z := by
  obtain ⟨fuel, hf⟩ := h
  rcases Go.Deep.open_slice Tryd.underlying24 hf with ⟨hcs, _⟩ | ⟨x, l', c', m, n, D, Pl, hcs, _, hl, _, hm, _, hel⟩
  · simp [Value.cells] at hcs
    obtain ⟨rfl, rfl, rfl⟩ := hcs
    exact ⟨0, 0, fun _ _ => 0, ⟨fun h => by omega, fun i hi => by omega⟩⟩
  · simp [Value.cells] at hcs
    obtain ⟨rfl, rfl, rfl⟩ := hcs
    have hm' : m = c := by simpa using hm
    have each : ∀ q, q < l * 4 → ∃ z : Int, W.cell? (x.add q) = some (.int .i64 z) := fun q hq => by
      obtain ⟨cs', h1, h2⟩ := hel (q / 4) (by omega)
      rw [cells26] at h1
      obtain ⟨_, hlen, hc⟩ := World.cells?_some h1
      obtain ⟨xs, k, _, _, _, hxl, hx⟩ := DataW.trod_array Tryd.underlying26 h2
      have h3 := hx (q % 4) (by omega)
      rw [cells2, List.getElem?_eq_getElem (by omega)] at h3
      obtain ⟨z, e1, _, _⟩ := DataW.trod_int Tryd.underlying2 h3
      have h4 := hc (q % 4) (by omega)
      rw [Go.Deep.add_add, show q / 4 * 4 + q % 4 = q by omega] at h4
      refine ⟨z, ?_⟩
      rw [h4]
      have h5 : ((cs'.drop (q % 4 * 1)).take 1)[0]? = some (.int .i64 z) := by rw [e1]; rfl
      rw [List.getElem?_take, if_pos (by omega), List.getElem?_drop] at h5
      simpa using h5
    obtain ⟨f, hf⟩ := Go.Deep.choose_lt each
    have R := row_of_cells (f := fun q => .int .i64 (f q)) hf
    refine ⟨x.block, x.off, fun i j => f (i * 4 + j), fun h0 => R.1 (by omega), fun i hi j hj => ?_⟩
    have := R.2 (i * 4 + j) (by omega)
    rwa [← Nat.add_assoc] at this
end
end Go.Proofs.Qxb6003329aDoor.Op
