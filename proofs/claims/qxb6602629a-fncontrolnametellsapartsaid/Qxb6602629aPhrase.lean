/- The walk of 'phrasePlanB1' at every string that is a phrase, and the four names. -/
import Derived.Test.Qxb6602629aRows
import Derived.WalkKit
import Derived.ProofKit
namespace Go.Proofs.Qxb6602629a
open Go.RowKit

/-- What the scan of a phrase asks of the bytes. -/
def GoodB (l : List UInt8) : Bool :=
  (List.range l.length).all fun j => (l.getD j 0 == 32 || (97 ≤ l.getD j 0 && l.getD j 0 ≤ 122)) && !(l.getD j 0 == 32 && l.getD (j + 1) 32 == 32)

def prv (s : ByteArray) : Nat → Bool
  | 0 => false
  | k + 1 => s.data.toList.getD k 0 == 32

theorem getD_at (s : ByteArray) (k : Nat) (h : k < s.size) : s.data.toList.getD k 0 = s[k] := by
  rw [List.getD_eq_getElem?_getD, List.getElem?_eq_getElem (by simpa using h)]; rfl

theorem good_at {s : ByteArray} (hg : GoodB s.data.toList = true) (k : Nat) (h : k < s.size) :
    (s[k].toNat = 32 ∨ (97 ≤ s[k].toNat ∧ s[k].toNat ≤ 122)) ∧ (s[k].toNat = 32 → k + 1 < s.size) ∧ (s[k].toNat = 32 → prv s k = false) := by
  unfold GoodB at hg
  rw [List.all_eq_true] at hg
  have hlen : s.data.toList.length = s.size := by simp
  have h1 := hg k (by rw [List.mem_range, hlen]; exact h)
  rw [getD_at s k h] at h1
  simp only [Bool.and_eq_true, Bool.or_eq_true, beq_iff_eq, Bool.not_eq_true', Bool.and_eq_false_iff, decide_eq_true_eq, UInt8.le_iff_toNat_le, beq_eq_false_iff_ne] at h1
  obtain ⟨ha, hb⟩ := h1
  have e32 : ∀ c : UInt8, c = 32 ↔ c.toNat = 32 := fun c => by
    constructor
    · rintro rfl; rfl
    · intro h; exact UInt8.toNat_inj.1 h
  refine ⟨?_, ?_, ?_⟩
  · rcases ha with ha | ⟨ha, hb⟩
    · exact Or.inl ((e32 _).1 ha)
    · exact Or.inr ⟨by simpa using ha, by simpa using hb⟩
  · intro hk
    rcases hb with hb | hb
    · exact absurd ((e32 _).2 hk) hb
    · by_cases hlt : k + 1 < s.size
      · exact hlt
      · exfalso; apply hb; rw [List.getD_eq_getElem?_getD, List.getElem?_eq_none (by rw [hlen]; omega)]; rfl
  · intro hk
    cases k with
    | zero => rfl
    | succ j =>
      show (s.data.toList.getD j 0 == 32) = false
      have h2 := hg j (by rw [List.mem_range, hlen]; omega)
      simp only [Bool.and_eq_true, Bool.not_eq_true', Bool.and_eq_false_iff, beq_eq_false_iff_ne] at h2
      rcases h2.2 with h2 | h2
      · simpa using h2
      · exfalso; apply h2
        rw [List.getD_eq_getElem?_getD, List.getElem?_eq_getElem (by rw [hlen]; omega)]
        exact (e32 _).2 hk

theorem prv_succ (s : ByteArray) (k : Nat) (h : k < s.size) : prv s (k + 1) = decide (s[k].toNat = 32) := by
  show (s.data.toList.getD k 0 == 32) = _
  rw [getD_at s k h]
  by_cases e : s[k].toNat = 32
  · have : s[k] = 32 := UInt8.toNat_inj.1 e
    simp [this]
  · have : s[k] ≠ 32 := fun h => e (by rw [h]; rfl)
    simp [this, e]

set_option maxHeartbeats 400000 in
theorem phrase_any (s : ByteArray) (w : World) (hs : s.size ≤ 100) (h3 : 3 < s.size) (h0 : s[0].toNat = 97) (h1 : s[1].toNat = 32) (hg : GoodB s.data.toList = true) :
    Calls Try.prog 5 #[.string s] w fun e w' => e = .returned (.bool true) ∧ w' = w := by
  have hh0 : ((s[0].toNat : Int) == 97) = true := by simp [h0]
  have hh1 : ((s[1].toNat : Int) == 32) = true := by simp [h1]
  have hh0' : ((s[0].toNat : Int) != 97) = false := by simp [h0]
  have hd : decide ((s.size : Int) < 3) = false := by simp; omega
  have HG : Hid (GoodB s.data.toList = true) := hg
  clear hg
  go_enter Try.func5, Try.ntmps5
  go_wp2
  go_loop [3, 4] (fun p i => ∃ k : Nat, k ≤ s.size ∧ i = .int .i64 k ∧ p = .bool (prv s k)) (fun _ i => s.size - (intOf i).toNat)
  case atStart => exact ⟨0, Nat.zero_le _, rfl, rfl⟩
  case round =>
    obtain ⟨k, hk, rfl, rfl⟩ := hrel
    by_cases hlt : k < s.size
    · obtain ⟨ga, gb, gc⟩ := good_at HG.out k hlt
      have HP : Hid (prv s (k + 1) = decide (s[k].toNat = 32)) := prv_succ s k hlt
      by_cases hsp : s[k].toNat = 32
      · have hp := gc hsp
        have hi : ((s[k].toNat : Int) == 32) = true := by simp [hsp]
        clear ga gb gc
        rw [hp]
        go_wp2
        go_round
        case rel => exact ⟨k + 1, by omega, by go_num, by rw [HP.out]; simp [hsp]⟩
        case measure => simp [intOf]; omega
      · have hi : ((s[k].toNat : Int) == 32) = false := by simp; omega
        have hlo : (97 : Int) ≤ (s[k].toNat : Int) := by omega
        have hhi : (s[k].toNat : Int) ≤ 122 := by omega
        clear ga gb gc
        go_wp2
        go_round
        case rel => exact ⟨k + 1, by omega, by go_num, by rw [HP.out]; simp [hsp]⟩
        case measure => simp [intOf]; omega
    · have hp : prv s k = false := by
        have e : k = (s.size - 1) + 1 := by omega
        rw [e, prv_succ s (s.size - 1) (by omega)]
        have := (good_at HG.out (s.size - 1) (by omega)).2.1
        simp only [decide_eq_false_iff_not]
        intro h
        have := this h
        omega
      go_wp2
      go_ret
      exact ⟨rfl, rfl⟩
end Go.Proofs.Qxb6602629a
