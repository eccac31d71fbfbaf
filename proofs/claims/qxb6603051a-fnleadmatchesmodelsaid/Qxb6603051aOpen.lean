/- The Lead laws: from the row's reading of the six arguments to what the walks are told. -/
import Derived.Test.Qxb6603051aTwice
import Derived.OpenShut
import Derived.ShutString
import Derived.ChangeOld
import Derived.SliceStrings
import Derived.Deep.Grids
namespace Go.Proofs.Qxb6603051a.Op
open Go.ChangeShapes Go.WideShapes Go.ChangeAt Go.RowKit Go.WideElems
open Go.ChangeMaps (open_string shut_string)
open Go.Proofs.Qxb6603051a.Sm
open Go.Proofs.Qxb6603051a.Md
open Go.Proofs.Qxb6603051a.Tw

theorem own : ownKnob Try.prog.godebug = none := by kernel_rfl
theorem laidOut : laidOutB Try.prog = true := by kernel_rfl

theorem row_of_cells {W : World} {x : Addr} {len : Nat} {f : Nat → Value} (h : ∀ i, i < len → W.cell? (x.add i) = some (f i)) : Row W (some x) len x.block x.off f := by
  obtain ⟨b, off, spot⟩ := x
  have hsp : 0 < len → spot = none := fun h0 => by simpa [Addr.add] using World.cell?_spot (h 0 h0)
  have hc : ∀ i, i < len → W.cell? ⟨b, off + i, none⟩ = some (f i) := fun i hi => by
    have hc := h i hi
    obtain rfl := hsp (by omega)
    by_cases e : i = 0
    · subst e; simpa [Addr.add] using hc
    · simpa [Addr.add, e] using hc
  refine ⟨fun h0 => ⟨by rw [hsp h0], ?_⟩, hc⟩
  have := hc 0 h0
  simp only [World.cell?] at this
  rcases Nat.lt_or_ge b W.heap.size with hlt | hge
  · exact hlt
  · rw [Array.getElem?_eq_none hge] at this
    simp at this

section
variable {H : Type} {enc : TypeId × Value → H} {W : World} {a : Option Addr} {l c : Nat} {d : DataW H} {p : List MemPlace}

theorem open_strs (h : DataW.Trod enc Try.prog W 0 (fun _ => true) true 22 (.slice a l c) d p) :
    ∃ b off, ∃ s : Nat → ByteArray, Row W a l b off (fun i => .string (s i)) ∧ (a = none → l = 0 ∧ c = 0) ∧ (∀ i, i < l → (s i).size ≤ maxLen) ∧ l ≤ 9223372036854775807 := by
  obtain ⟨fuel, hf⟩ := h
  rcases open_strings Try.underlying22 Try.underlying9 (by kernel_rfl) hf with ⟨hcs, _⟩ | ⟨x, l', c', ss, hcs, _, hl, hm, hz, _, hcell, hws⟩
  · simp [Value.cells] at hcs
    obtain ⟨rfl, rfl, rfl⟩ := hcs
    exact ⟨0, 0, fun _ => ByteArray.empty, ⟨fun h => by omega, fun i hi => by omega⟩, fun _ => ⟨rfl, rfl⟩, fun i hi => by omega, by omega⟩
  · simp [Value.cells] at hcs
    obtain ⟨rfl, rfl, rfl⟩ := hcs
    have hz' : ss.length = c := by simpa using hz
    unfold maxLen at hm
    refine ⟨_, _, fun i => ss.getD i ByteArray.empty, row_of_cells (fun i hi => hcell i (by omega)), (fun h => by cases h), fun i hi => ?_, by omega⟩
    have hlt : i < ss.length := by omega
    have : ss.getD i ByteArray.empty = ss[i] := by rw [List.getD_eq_getElem?_getD, List.getElem?_eq_getElem hlt]; rfl
    show (ss.getD i ByteArray.empty).size ≤ maxLen
    rw [this]
    exact hws _ (List.getElem_mem hlt)

theorem open_nums (h : DataW.Trod enc Try.prog W 0 (fun _ => true) true 24 (.slice a l c) d p) :
    ∃ b off, ∃ z : Nat → Int, Row W a l b off (fun i => .int .i64 (z i)) ∧ (a = none → l = 0 ∧ c = 0) := by
  obtain ⟨fuel, hf⟩ := h
  rcases open_ints Try.underlying24 Try.underlying3 (by kernel_rfl) hf with ⟨hcs, _⟩ | ⟨x, l', c', zs, hcs, _, hl, hm, hz, _, hcell, hws⟩
  · simp [Value.cells] at hcs
    obtain ⟨rfl, rfl, rfl⟩ := hcs
    exact ⟨0, 0, fun _ => 0, ⟨fun h => by omega, fun i hi => by omega⟩, fun _ => ⟨rfl, rfl⟩⟩
  · simp [Value.cells] at hcs
    obtain ⟨rfl, rfl, rfl⟩ := hcs
    have hz' : zs.length = c := by simpa using hz
    exact ⟨_, _, fun i => zs.getD i 0, row_of_cells (fun i hi => hcell i (by omega)), (fun h => by cases h)⟩

theorem open_marks (h : DataW.Trod enc Try.prog W 0 (fun _ => true) true 25 (.slice a l c) d p) :
    ∃ b off, ∃ z : Nat → Bool, Row W a l b off (fun i => .bool (z i)) ∧ (a = none → l = 0 ∧ c = 0) := by
  obtain ⟨fuel, hf⟩ := h
  rcases Go.Deep.open_bools Try.underlying25 Try.underlying4 (by kernel_rfl) hf with ⟨hcs, _⟩ | ⟨x, l', c', B, hcs, _, hl, hm, _, hcell⟩
  · simp [Value.cells] at hcs
    obtain ⟨rfl, rfl, rfl⟩ := hcs
    exact ⟨0, 0, fun _ => false, ⟨fun h => by omega, fun i hi => by omega⟩, fun _ => ⟨rfl, rfl⟩⟩
  · simp [Value.cells] at hcs
    obtain ⟨rfl, rfl, rfl⟩ := hcs
    exact ⟨_, _, B, row_of_cells (fun i hi => hcell i (by omega)), (fun h => by cases h)⟩

theorem open_index {m : Option Nat} (h : DataW.Trod enc Try.prog W 0 (fun _ => true) true 23 (.map m) d p) : MapArg W m := by
  obtain ⟨fuel, hf⟩ := h
  rcases open_map Try.underlying23 hf with ⟨hcs, _⟩ | ⟨bm, es, clock, n, rfl, hcs, hb, _, F, _⟩
  · simp [Value.cells] at hcs
    subst hcs
    exact Or.inl rfl
  · simp [Value.cells] at hcs
    subst hcs
    exact Or.inr ⟨H, bm, _, _, rfl, World.ownsMap_of_fit (R := plainElem Try.prog 3) hb F (fun x _ z hz => elemAt_plainElem_int Try.underlying3 hz)⟩
end
end Go.Proofs.Qxb6603051a.Op
