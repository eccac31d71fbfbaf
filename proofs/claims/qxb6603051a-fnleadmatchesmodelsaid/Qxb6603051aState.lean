/- The Lead laws: the method Lead in one contract; what stays while worlds grow. -/
import Derived.Test.Qxb6603051aLead
namespace Go.Proofs.Qxb6603051a.Se
open Go.RowKit Go.Maps
open Go.Proofs.Qxb6603051a.Pl
open Go.Proofs.Qxb6603051a.Sm
open Go.Proofs.Qxb6603051a.Md
open Go.Proofs.Qxb6603051a.Ix
open Go.Proofs.Qxb6603051a.Ld

/-- All blocks that were there are as they were, but for the row of counts where there is one. -/
structure Kept (w w' : World) (n BD : Nat) : Prop where
  os : w'.os = w.os
  tape : w'.tape = w.tape
  output : w'.output = w.output
  size : w.heap.size ≤ w'.heap.size
  block : ∀ k, k < w.heap.size → (n = 0 ∨ k ≠ BD) → w'.heap[k]? = w.heap[k]?

theorem Kept.of_below {w w' : World} {n BD : Nat} (h : Below w.heap.size w w') : Kept w w' n BD := ⟨h.os, h.tape, h.output, h.size, fun k hk _ => h.block k hk⟩
theorem Kept.of_grown {w w' : World} {n BD : Nat} (h : w.grownBy w' (some BD)) (hn : 0 < n) : Kept w w' n BD :=
  ⟨h.os, h.tape, h.output, h.size, fun k hk hne => h.block k hk (fun e => by
    have := Option.some.inj e
    rcases hne with h0 | h0
    · omega
    · exact h0 this)⟩
theorem Kept.below {w w' : World} {n BD lo : Nat} (h : Kept w w' n BD) (hlo : 0 < n → lo ≤ BD) (hs : lo ≤ w.heap.size) : Below lo w w' :=
  ⟨h.os, h.tape, h.output, h.size, fun k hk => h.block k (by omega) (by
    by_cases e : n = 0
    · exact Or.inl e
    · exact Or.inr (by have := hlo (by omega); omega))⟩

theorem own_weaken {w : World} {lo lo' : Nat} {ao : Option Addr} {len B : Nat} {T : TypeId} {f : Nat → Value} (h : Own w lo ao len B T f) (hl : lo' ≤ lo) : Own w lo' ao len B T f :=
  fun h0 => ⟨(h h0).1, Nat.le_trans hl (h h0).2.1, (h h0).2.2⟩

theorem own_kept {w w' : World} {lo : Nat} {ao : Option Addr} {len B : Nat} {T : TypeId} {f : Nat → Value} {n BD : Nat} {g : Nat → Value} (h : Own w lo ao len B T f) (hk : Kept w w' n BD) (hT : T ≠ 3) (hd : 0 < n → w.rowIs BD 3 n g) : Own w' lo ao len B T f :=
  fun h0 => ⟨(h h0).1, (h h0).2.1, (h h0).2.2.of_block (hk.block _ (h h0).2.2.lt (by
    by_cases e : n = 0
    · exact Or.inl e
    · exact Or.inr (row_ne (h h0).2.2 (hd (by omega)) hT)))⟩

theorem st_below {w w' : World} {L n : Nat} {al : Option Addr} {cl Bl BI : Nat} {ad : Option Addr} {cd BD : Nat} {ac : Option Addr} {cc BC : Nat} {live : Nat → ByteArray} {leads : Nat → Int} {closed : Nat → Bool}
    (S : St w L n al cl Bl BI ad cd BD ac cc BC live leads closed) (hb : Below w.heap.size w w') : St w' L n al cl Bl BI ad cd BD ac cc BC live leads closed :=
  ⟨S.at_.of_block (hb.block _ S.at_.lt) hb.size, S.liv.below hb, S.idx.of_block (hb.block _ S.idx.lt), S.lds.below hb, S.cls.below hb⟩

/-- What one call of Lead comes to. -/
def Outcome (n : Nat) (live : Nat → ByteArray) (leads : Nat → Int) (closed : Nat → Bool) (leader : ByteArray) (nr : Nat) (reps : Nat → ByteArray) (s : ByteArray) (leads' : Nat → Int) : Prop :=
  (0 ≤ pos live leader n ∧ s = leader ∧ leads' = leads) ∨
  (pos live leader n < 0 ∧ best closed leads (fun j => pos live (reps j) n) nr < 0 ∧ s = ⟨#[]⟩ ∧ leads' = leads) ∨
  (pos live leader n < 0 ∧ ∃ c : Nat, best closed leads (fun j => pos live (reps j) n) nr = c ∧ c < n ∧ s = live c ∧ leads' = fun j => if j = c then leads j + 1 else leads j)

def LeadAny (w : World) (L n : Nat) (al : Option Addr) (cl Bl BI : Nat) (ad : Option Addr) (cd BD : Nat) (ac : Option Addr) (cc BC : Nat) (live : Nat → ByteArray) (leads : Nat → Int) (closed : Nat → Bool) (leader : ByteArray) (ar : Option Addr) (nr cr : Nat) (reps : Nat → ByteArray) (e : Ending) (w' : World) : Prop :=
  ∃ s leads', e = .returned (.agg #[.string s, .slice ar nr cr]) ∧ Outcome n live leads closed leader nr reps s leads' ∧ St w' L n al cl Bl BI ad cd BD ac cc BC live leads' closed ∧ Kept w w' n BD

theorem idx_ne {w : World} {B n BD : Nat} {live : Nat → ByteArray} {m : Nat} {f : Nat → Value} (h : IndexIs w B live n) (hr : w.rowIs BD 3 m f) : B ≠ BD := by
  rintro rfl
  obtain ⟨k, D, ⟨es, clock, hb, _⟩, _⟩ := h
  obtain ⟨c, hc, _⟩ := hr
  rw [hb] at hc
  simp at hc

theorem lead_any (L n : Nat) (al : Option Addr) (cl Bl BI : Nat) (ad : Option Addr) (cd BD : Nat) (ac : Option Addr) (cc BC : Nat) (live : Nat → ByteArray) (leads : Nat → Int) (closed : Nat → Bool)
    (leader : ByteArray) (ar : Option Addr) (nr cr br or : Nat) (reps : Nat → ByteArray) (w : World) (h20 : n ≤ 1048576) (h20r : nr ≤ 1048576) (hs : leader.size ≤ maxLen) (hrs : ∀ i, i < nr → (reps i).size ≤ maxLen)
    (hlb : ∀ i, i < n → 0 ≤ leads i ∧ leads i ≤ 1073741825)
    (S : St w L n al cl Bl BI ad cd BD ac cc BC live leads closed) (hrr : Row w ar nr br or (fun i => .string (reps i))) :
    Calls Try.prog 16 #[.pointer (some ⟨L, 0, none⟩), .agg #[.string leader, .slice ar nr cr]] w (LeadAny w L n al cl Bl BI ad cd BD ac cc BC live leads closed leader ar nr cr reps) := by
  by_cases hp : 0 ≤ pos live leader n
  · refine (lead_live L n al cl Bl BI ad cd BD ac cc BC live leads closed leader ar nr cr w hs S hp).mono ?_
    rintro e w' ⟨rfl, hb⟩
    exact ⟨leader, leads, rfl, Or.inl ⟨hp, rfl, rfl⟩, st_below S hb, Kept.of_below hb⟩
  · refine (lead_dead L n al cl Bl BI ad cd BD ac cc BC live leads closed leader ar nr cr br or reps w h20 h20r hs hrs hlb S hrr (by omega)).mono ?_
    rintro e w' (⟨hbest, rfl, hb⟩ | ⟨c, hbest, hcn, rfl, hg, hrow⟩)
    · exact ⟨_, leads, rfl, Or.inr (Or.inl ⟨by omega, hbest, rfl, rfl⟩), st_below S hb, Kept.of_below hb⟩
    · have hn : 0 < n := by omega
      have hk : Kept w w' n BD := Kept.of_grown hg hn
      have hd := (S.lds hn).2.2
      have hLne : L ≠ BD := by
        rintro rfl
        have := S.at_.c0
        rw [hd.cell hn] at this
        simp at this
      refine ⟨live c, _, rfl, Or.inr (Or.inr ⟨by omega, c, hbest, hcn, rfl, rfl⟩), ⟨S.at_.of_block (hk.block _ S.at_.lt (Or.inr hLne)) hk.size, own_kept S.liv hk (by decide) (fun _ => hd), S.idx.of_block (hk.block _ S.idx.lt (Or.inr (idx_ne S.idx hd))), fun h0 => ⟨(S.lds h0).1, (S.lds h0).2.1, hrow⟩, own_kept S.cls hk (by decide) (fun _ => hd)⟩, hk⟩

/-- The leader that one call gives is live, or there is none and none can be had. -/
theorem outcome_once {n : Nat} {live : Nat → ByteArray} {leads leads' : Nat → Int} {closed : Nat → Bool} {leader : ByteArray} {nr : Nat} {reps : Nat → ByteArray} {s : ByteArray} (hs : Sorted live n)
    (h : Outcome n live leads closed leader nr reps s leads') : 0 ≤ pos live s n ∨ (s = ⟨#[]⟩ ∧ ∀ j, j < nr → pos live (reps j) n < 0) := by
  rcases h with ⟨h1, rfl, _⟩ | ⟨_, h2, rfl, _⟩ | ⟨_, c, _, hc, rfl, _⟩
  · exact Or.inl h1
  · refine Or.inr ⟨rfl, ?_⟩
    rcases best_isBest (closed := closed) (leads := leads) (fun j => pos live (reps j) n) nr with ⟨_, h⟩ | ⟨h, _⟩
    · exact h
    · omega
  · left
    rw [pos_at hs hc]
    omega

/-- .. so that a second call changes nothing. -/
theorem outcome_twice {n : Nat} {live : Nat → ByteArray} {leads leads' : Nat → Int} {closed : Nat → Bool} {nr : Nat} {reps : Nat → ByteArray} {s s' : ByteArray}
    (h0 : 0 ≤ pos live s n ∨ (s = ⟨#[]⟩ ∧ ∀ j, j < nr → pos live (reps j) n < 0)) (h : Outcome n live leads closed s nr reps s' leads') : s' = s ∧ leads' = leads := by
  rcases h with ⟨_, e1, e2⟩ | ⟨h1, _, e1, e2⟩ | ⟨h1, c, hb, hc, e1, e2⟩
  · exact ⟨e1, e2⟩
  · rcases h0 with h0 | ⟨h0, _⟩
    · omega
    · exact ⟨by rw [e1, h0], e2⟩
  · rcases h0 with h0 | ⟨_, h0⟩
    · omega
    · exfalso
      rcases best_isBest (closed := closed) (leads := leads) (fun j => pos live (reps j) n) nr with ⟨h, _⟩ | ⟨h, ⟨j, hj, e⟩, _⟩
      · omega
      · have := h0 j hj
        have e' : pos live (reps j) n = _ := e
        omega
end Go.Proofs.Qxb6603051a.Se
