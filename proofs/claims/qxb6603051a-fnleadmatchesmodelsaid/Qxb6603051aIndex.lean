/- The Lead laws: the fresh index, the small methods. -/
import Derived.Test.Qxb6603051aFit
namespace Go.Proofs.Qxb6603051a.Ix
open Go.RowKit Go.Maps Go.WideMaps Go.WideElems
open Go.Proofs.Qxb6603051a.Pl
open Go.Proofs.Qxb6603051a.Sm
open Go.Proofs.Qxb6603051a.Md

def key (s : ByteArray) : Lit := .string s.data.toList

/-- The datum holds just the places of the first n ids. -/
def DataIs (D : DataW Unit) (live : Nat → ByteArray) (n : Nat) : Prop :=
  ∀ s : ByteArray, (pos live s n < 0 → Maps.has D (key s) = false) ∧ (0 ≤ pos live s n → Maps.has D (key s) = true ∧ D.atKey (key s) (.lit (.int .i64 0)) = .lit (.int .i64 (pos live s n)))

theorem dataIs_empty (live : Nat → ByteArray) : DataIs (.map []) live 0 := fun s => ⟨fun _ => rfl, fun h => by simp [pos] at h⟩

theorem dataIs_put {D : DataW Unit} {live : Nat → ByteArray} {k : Nat} (h : DataIs D live k) (hD : IsMap D) : DataIs (D.put (key (live k)) (.lit (.int .i64 k))) live (k + 1) := by
  intro s
  by_cases e : live k = s
  · subst e
    have hp : pos live (live k) (k + 1) = k := by unfold pos; rw [if_pos rfl]
    rw [hp]
    have hk : WideAt.IsKeyLit (key (live k)) := by simp [key, WideAt.IsKeyLit]
    exact ⟨fun h => by omega, fun _ => ⟨has_put_same hD hk _, atKey_put_same hD hk _ _⟩⟩
  · have hp : pos live s (k + 1) = pos live s k := by conv => lhs; unfold pos; rw [if_neg e]
    have hne : key s ≠ key (live k) := fun h => e (by
      unfold key at h
      simp only [Lit.string.injEq] at h
      exact (ba_ext h).symm)
    rw [hp, has_put_other hne, atKey_put_other hne]
    exact h s

/-- Block B is a map that holds just the places of the live ids. -/
def IndexIs (w : World) (B : Nat) (live : Nat → ByteArray) (n : Nat) : Prop :=
  ∃ k, ∃ D : DataW Unit, w.ownsMap Try.prog 9 (plainElem Try.prog 3) B k D ∧ DataIs D live n

theorem IndexIs.lt {w : World} {B : Nat} {live : Nat → ByteArray} {n : Nat} (h : IndexIs w B live n) : B < w.heap.size := by
  obtain ⟨k, D, h, _⟩ := h
  exact h.lt

theorem IndexIs.of_block {w w' : World} {B : Nat} {live : Nat → ByteArray} {n : Nat} (h : IndexIs w B live n) (hb : w'.heap[B]? = w.heap[B]?) : IndexIs w' B live n := by
  obtain ⟨k, D, ⟨es, clock, hb0, r⟩, hd⟩ := h
  exact ⟨k, D, ⟨es, clock, hb.trans hb0, r⟩, hd⟩

theorem IndexIs.look {w : World} {B : Nat} {live : Nat → ByteArray} {n : Nat} (h : IndexIs w B live n) (s : ByteArray) (hs : s.size ≤ maxLen) :
    (Instr.lookup 23 (.map (some B)) (.string s) true).run Try.prog w = .ok (.tuple #[.int .i64 (if 0 ≤ pos live s n then pos live s n else 0), .bool (decide (0 ≤ pos live s n))]) w := by
  have hkey : keyOf Try.prog 9 (.string s) = some (.string s.data.toList) := keyOf_string_mk Try.underlying9 hs
  obtain ⟨k, D, h, hd⟩ := h
  obtain ⟨v, ps, hrun, hv⟩ := h.look_ok law Try.underlying23 (zeroE w) (plainElem_int (H := Unit) Try.underlying3 (a := 0) (by decide)) hkey
  obtain ⟨c, rfl, hc, _⟩ := plainElem_int_inv Try.underlying3 hv
  simp only [Prod.mk.injEq] at hc
  rw [hrun]
  by_cases hp : 0 ≤ pos live s n
  · obtain ⟨h1, h2⟩ := (hd s).2 hp
    have e : c = pos live s n := by
      have := hc.1.symm.trans h2
      simpa using this
    have h1' : Maps.has D (.string s.data.toList) = true := h1
    rw [if_pos hp, e, h1']
    simp [hp]
  · have h1 := (hd s).1 (by omega)
    have h2 := atKey_of_not_has h1 (.lit (.int .i64 0))
    have e : c = 0 := by
      have := hc.1.symm.trans h2
      simpa using this
    have h1' : Maps.has D (.string s.data.toList) = false := h1
    rw [if_neg hp, e, h1']
    simp [hp]

theorem index_any (al : Option Addr) (n cl bl ol : Nat) (live : Nat → ByteArray) (w : World) (h20 : n ≤ 1048576) (hz : ∀ i, i < n → (live i).size ≤ maxLen) (hr : Row w al n bl ol (fun i => .string (live i))) :
    Calls Try.prog 12 #[.slice al n cl] w fun e w' => e = .returned (.map (some w.heap.size)) ∧ IndexIs w' w.heap.size live n ∧ Below w.heap.size w w' := by
  have hmm : ∀ w, (Instr.makeMap 23 (some (.int .i64 n))).run Try.prog w = .ok (.map (some w.heap.size)) (w.alloc (.map #[] 0)) := fun w => by
    simp [Instr.makeMap, run_underlying Try.underlying23, asInt, asIntOf, Result.andThen]
  have HZ := hide hz
  clear hz
  go_enter Try.func12, Try.ntmps12
  go_wp2
  go_loopw [4] (fun i wr => ∃ k : Nat, ∃ D : DataW Unit, k ≤ n ∧ i = .int .i64 k ∧ wr.ownsMap Try.prog 9 (plainElem Try.prog 3) w.heap.size k D ∧ DataIs D live k ∧ Below w.heap.size w wr) (fun i _ => n - (intOf i).toNat)
  case atStart => exact ⟨0, _, Nat.zero_le _, rfl, World.ownsMap_made _ _ _ _, dataIs_empty _, (Below.refl _ _).alloc (Nat.le_refl _) _⟩
  case round =>
    obtain ⟨k, D, hk, rfl, hown, hD, hnx⟩ := hrel
    clear hmm
    by_cases hkl : k < n
    · obtain ⟨rfl, hbl⟩ := hr.1 (by omega)
      have hcx : wr.cell? ⟨bl, ol + k, none⟩ = some (.string (live k)) := (hnx.cell (by exact hbl)).trans (hr.2 k hkl)
      have hkey : keyOf Try.prog 9 (.string (live k)) = some (key (live k)) := keyOf_string_mk Try.underlying9 (HZ.out k hkl)
      have hwf : (Lit.int .i64 (k : Int)).wf = true := WalkArith.wf_i64 (by omega)
      go_wp2_with (first | (at_mapUpdate; refine wpList_mapUpdate_own _ rfl _ _ _ 23 rfl 9 3 law Try.underlying23 _ w.heap.size k D rfl hown (by unfold maxLen; omega) _ _ _ rfl rfl hkey _ [] (plainElem_int Try.underlying3 hwf) ?_; intro w1 hown1 hgrow1))
      go_roundw
      case rel => exact ⟨k + 1, _, by omega, by go_num, hown1, dataIs_put hD hown.isMap, hnx.grown hgrow1 hnx.size (fun j hj => by cases hj; exact Nat.le_refl _)⟩
      case measure => simp [intOf]; omega
    · have : k = n := by omega
      subst this
      go_wp2
      go_ret
      exact ⟨rfl, ⟨_, D, hown, hD⟩, hnx⟩

/-- The four fields of the loads that the laws read. -/
structure LoadsAt (w : World) (L : Nat) (n : Nat) (al : Option Addr) (cl BI : Nat) (ad : Option Addr) (cd : Nat) (ac : Option Addr) (cc : Nat) : Prop where
  c0 : w.cell? ⟨L, 0, none⟩ = some (.slice al n cl)
  c1 : w.cell? ⟨L, 1, none⟩ = some (.map (some BI))
  c3 : w.cell? ⟨L, 3, none⟩ = some (.slice ad n cd)
  c4 : w.cell? ⟨L, 4, none⟩ = some (.slice ac n cc)
  lt : L < w.heap.size

theorem LoadsAt.of_block {w w' : World} {L n : Nat} {al : Option Addr} {cl BI : Nat} {ad : Option Addr} {cd : Nat} {ac : Option Addr} {cc : Nat} (h : LoadsAt w L n al cl BI ad cd ac cc) (hb : w'.heap[L]? = w.heap[L]?) (hs : w.heap.size ≤ w'.heap.size) :
    LoadsAt w' L n al cl BI ad cd ac cc :=
  ⟨(World.cell?_of_block (w := w) hb).trans h.c0, (World.cell?_of_block (w := w) hb).trans h.c1, (World.cell?_of_block (w := w) hb).trans h.c3, (World.cell?_of_block (w := w) hb).trans h.c4, Nat.lt_of_lt_of_le h.lt hs⟩

theorem new_loads (al : Option Addr) (n cl BI : Nat) (ad : Option Addr) (cd : Nat) (ac : Option Addr) (cc : Nat) (w : World) :
    Calls Try.prog 15 #[.slice al n cl, .map (some BI), .slice ad n cd, .slice ac n cc] w fun e w' => e = .returned (.pointer (some ⟨w.heap.size, 0, none⟩)) ∧ LoadsAt w' w.heap.size n al cl BI ad cd ac cc ∧ Below w.heap.size w w' := by
  go_enter Try.func15, Try.ntmps15
  go_wp2
  go_ret
  exact ⟨rfl, ⟨by simp [World.cell?_alloc_new], by simp [World.cell?_alloc_new], by simp [World.cell?_alloc_new], by simp [World.cell?_alloc_new], by simp⟩, (Below.refl _ _).alloc (Nat.le_refl _) _⟩

theorem loads_leads (L n : Nat) (al : Option Addr) (cl BI : Nat) (ad : Option Addr) (cd : Nat) (ac : Option Addr) (cc : Nat) (w : World) (h : LoadsAt w L n al cl BI ad cd ac cc) :
    Calls Try.prog 21 #[.pointer (some ⟨L, 0, none⟩)] w fun e w' => e = .returned (.slice ad n cd) ∧ w' = w := by
  have c3 := h.c3
  go_enter Try.func21, Try.ntmps21
  go_wp2
  go_ret
  exact ⟨rfl, rfl⟩

set_option maxRecDepth 100000 in
set_option maxHeartbeats 800000 in
theorem elected (L n : Nat) (al : Option Addr) (cl BI : Nat) (ad : Option Addr) (cd BD : Nat) (ac : Option Addr) (cc BC : Nat) (leads : Nat → Int) (closed : Nat → Bool) (a b : Nat) (w : World) (ha : a < n) (hb : b < n)
    (h : LoadsAt w L n al cl BI ad cd ac cc) (hd : Row w ad n BD 0 (fun i => .int .i64 (leads i))) (hc : Row w ac n BC 0 (fun i => .bool (closed i))) :
    Calls Try.prog 42 #[.pointer (some ⟨L, 0, none⟩), .int .i64 a, .int .i64 b] w fun e w' => e = .returned (.bool (eb closed leads a b)) ∧ ∃ q, w' = w.drewN q := by
  have c3 := h.c3
  have c4 := h.c4
  obtain ⟨rfl, _⟩ := hd.1 (by omega)
  obtain ⟨rfl, _⟩ := hc.1 (by omega)
  have da := hd.2 a ha
  have db := hd.2 b hb
  have ca := hc.2 a ha
  have cb := hc.2 b hb
  rw [Nat.zero_add] at da db ca cb
  have hai : (a : Int) < (n : Int) := by omega
  have hbi : (b : Int) < (n : Int) := by omega
  by_cases h1 : closed a = closed b
  · have h1' : (closed a == closed b) = true := by simp [h1]
    by_cases h2 : leads a = leads b
    · have h2' : (leads a != leads b) = false := by simp [h2]
      have HE : Hid (eb closed leads a b = decide (a < b)) := by show eb closed leads a b = _; simp [eb, h1, h2]
      clear h1 h2
      go_enter Try.func42, Try.ntmps42
      go_wp2
      go_quiet (fail)
      go_wp2
      go_quiet (fail)
      go_wp2
      go_ret
      exact ⟨by rw [HE.out]; simp, _, rfl⟩
    · have h2' : (leads a != leads b) = true := by simp [h2]
      have HE : Hid (eb closed leads a b = decide (leads a < leads b)) := by show eb closed leads a b = _; simp [eb, h1, h2]
      clear h1 h2
      go_enter Try.func42, Try.ntmps42
      go_wp2
      go_quiet (fail)
      go_wp2
      go_quiet (fail)
      go_wp2
      go_quiet (fail)
      go_wp2
      go_ret
      exact ⟨by rw [HE.out]; simp, _, by rw [dd, dd]⟩
  · have h1' : (closed a == closed b) = false := by simp [h1]
    have HE : Hid (eb closed leads a b = !closed a) := by show eb closed leads a b = _; simp [eb, h1]
    clear h1
    go_enter Try.func42, Try.ntmps42
    go_wp2
    go_quiet (fail)
    go_wp2
    go_ret
    exact ⟨by rw [HE.out]; simp, _, rfl⟩
end Go.Proofs.Qxb6603051a.Ix
