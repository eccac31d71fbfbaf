/- The Lead laws: the walk of the choice by successive filters. -/
import Derived.Test.Qxb6603051aState
import Derived.Test.Qxb6603051aChPlain
namespace Go.Proofs.Qxb6603051a.Cw
open Go.RowKit Go.Maps
open Go.Proofs.Qxb6603051a.Pl
open Go.Proofs.Qxb6603051a.Sm
open Go.Proofs.Qxb6603051a.Md
open Go.Proofs.Qxb6603051a.Ch

def P (live : Nat → ByteArray) (reps : Nat → ByteArray) (n : Nat) : Nat → Int := fun j => pos live (reps j) n

theorem choose_none {n : Nat} {live : Nat → ByteArray} {leads : Nat → Int} {closed : Nat → Bool} {reps : Nat → ByteArray} {m : Nat} (h : anyL (P live reps n) m = false) : Ch.choose n live leads closed reps m = -1 := if_pos h
theorem choose_some {n : Nat} {live : Nat → ByteArray} {leads : Nat → Int} {closed : Nat → Bool} {reps : Nat → ByteArray} {m : Nat} {O : Bool} (h : anyL (P live reps n) m = true) (hO : anyO closed (P live reps n) m = O) :
    Ch.choose n live leads closed reps m = if (pk O closed leads (P live reps n) (lst O closed leads (P live reps n) m).2 reps m).1 = false then -1 else pos live (pk O closed leads (P live reps n) (lst O closed leads (P live reps n) m).2 reps m).2 n := by
  subst hO
  have h' : ¬ anyL (P live reps n) m = false := by rw [h]; exact fun e => by cases e
  exact if_neg h'

theorem anyL_hit {p : Nat → Int} {k : Nat} (h : 0 ≤ p k) : anyL p (k + 1) = true := by simp [anyL, h]
theorem anyL_miss {p : Nat → Int} {k : Nat} (h : p k < 0) : anyL p (k + 1) = anyL p k := by
  have : ¬ 0 ≤ p k := by omega
  simp [anyL, this]
theorem anyO_hit {closed : Nat → Bool} {p : Nat → Int} {k a : Nat} (h : p k = a) (hc : closed a = false) : anyO closed p (k + 1) = true := by
  have h0 : 0 ≤ p k := by omega
  simp [anyO, h, hc]
theorem anyO_shut {closed : Nat → Bool} {p : Nat → Int} {k a : Nat} (h : p k = a) (hc : closed a = true) : anyO closed p (k + 1) = anyO closed p k := by simp [anyO, h, hc]
theorem anyO_miss {closed : Nat → Bool} {p : Nat → Int} {k : Nat} (h : p k < 0) : anyO closed p (k + 1) = anyO closed p k := by
  have : ¬ 0 ≤ p k := by omega
  simp [anyO, this]

set_option maxRecDepth 100000 in
set_option maxHeartbeats 4000000 in
theorem choose_any (al : Option Addr) (n cl bl : Nat) (live : Nat → ByteArray) (ad : Option Addr) (cd BD : Nat) (leads : Nat → Int) (ac : Option Addr) (cc BC : Nat) (closed : Nat → Bool) (ar : Option Addr) (nr cr BR : Nat) (reps : Nat → ByteArray) (w : World)
    (h20 : n ≤ 1048576) (h20r : nr ≤ 1048576) (hs : Sorted live n) (hz : ∀ i, i < n → (live i).size ≤ maxLen) (hrz : ∀ i, i < nr → (reps i).size ≤ maxLen)
    (hl : Row w al n bl 0 (fun i => .string (live i))) (hd : Row w ad n BD 0 (fun i => .int .i64 (leads i))) (hc : Row w ac n BC 0 (fun i => .bool (closed i))) (hr : Row w ar nr BR 0 (fun i => .string (reps i))) :
    Calls Try.prog 18 #[.slice al n cl, .slice ad n cd, .slice ac n cc, .slice ar nr cr] w fun e w' => e = .returned (.int .i64 (Ch.choose n live leads closed reps nr)) ∧ ∃ q, w' = w.drewN q := by
  have HS := hide hs
  have HZ := hide hz
  have HRZ := hide hrz
  clear hs hz hrz
  go_enter Try.func18, Try.ntmps18
  go_wp2
  go_loopw [9, 10, 26] (fun x y i wr => ∃ k q : Nat, k ≤ nr ∧ i = .int .i64 k ∧ x = .bool (anyL (P live reps n) k) ∧ y = .bool (anyO closed (P live reps n) k) ∧ wr = w.drewN q) (fun _ _ i _ => nr - (intOf i).toNat)
  case atStart => exact ⟨0, 0, Nat.zero_le _, rfl, rfl, rfl, rfl⟩
  case round =>
    obtain ⟨k, q, hk, rfl, rfl, rfl, rfl⟩ := hrel
    by_cases hkl : k < nr
    · obtain ⟨rfl, hbr⟩ := hr.1 (by omega)
      have hcx := hr.2 k hkl
      rw [Nat.zero_add] at hcx
      go_wp2_with fail
      refine (pos_any al n cl bl 0 live (reps k) (w.drewN q) h20 HS.out HZ.out (HRZ.out k hkl) (hl.drewN q)).mono ?_
      rintro e w' ⟨rfl, q', rfl⟩
      rw [dd]
      have hpr := pos_range live (reps k) n
      by_cases hpk : 0 ≤ pos live (reps k) n
      · obtain ⟨a, ha⟩ : ∃ a : Nat, pos live (reps k) n = (a : Int) := ⟨(pos live (reps k) n).toNat, by omega⟩
        have han : a < n := by omega
        have hai : (a : Int) < (n : Int) := by omega
        have ha0 : (0 : Int) ≤ (a : Int) := by omega
        rw [ha]
        have HA : Hid (P live reps n k = (a : Int)) := ha
        have HL : Hid (anyL (P live reps n) (k + 1) = true) := anyL_hit (by show 0 ≤ pos live (reps k) n; exact hpk)
        clear hpk hpr ha
        obtain ⟨rfl, hbc⟩ := hc.1 (by omega)
        have hca : w.cell? ⟨BC, 0 + a, none⟩ = some (.bool (closed a)) := hc.2 a han
        rw [Nat.zero_add] at hca
        cases hcv : closed a
        · have HO : Hid (anyO closed (P live reps n) (k + 1) = true) := anyO_hit HA.out hcv
          rw [hcv] at hca
          clear hcv
          go_wp2
          go_roundw
          case rel => exact ⟨k + 1, _, by omega, by go_num, by rw [HL.out], by rw [HO.out], rfl⟩
          case measure => simp [intOf]; omega
        · have HO : Hid (anyO closed (P live reps n) (k + 1) = anyO closed (P live reps n) k) := anyO_shut HA.out hcv
          rw [hcv] at hca
          clear hcv
          go_wp2
          go_roundw
          case rel => exact ⟨k + 1, _, by omega, by go_num, by rw [HL.out], by rw [HO.out], rfl⟩
          case measure => simp [intOf]; omega
      · have HL : Hid (anyL (P live reps n) (k + 1) = anyL (P live reps n) k) := anyL_miss (by show pos live (reps k) n < 0; omega)
        have HO : Hid (anyO closed (P live reps n) (k + 1) = anyO closed (P live reps n) k) := anyO_miss (by show pos live (reps k) n < 0; omega)
        clear hpr
        go_wp2
        go_roundw
        case rel => exact ⟨k + 1, _, by omega, by go_num, by rw [HL.out], by rw [HO.out], rfl⟩
        case measure => simp [intOf]; omega
    · obtain rfl : k = nr := by omega
      clear hkl
      cases hL : anyL (P live reps n) k
      · have HCH : Hid (Ch.choose n live leads closed reps k = -1) := choose_none hL
        clear hL
        go_wp2
        go_ret
        exact ⟨by rw [HCH.out]; rfl, _, rfl⟩
      · cases hO : anyO closed (P live reps n) k
        · have HCH := hide (choose_some (leads := leads) hL hO)
          clear hL hO
          go_wp2
          go_loopw [14, 15, 45] (fun x y i wr => ∃ j q : Nat, j ≤ k ∧ i = .int .i64 j ∧ x = .int .i64 (lst false closed leads (P live reps n) j).2 ∧ y = .bool (lst false closed leads (P live reps n) j).1 ∧ wr = w.drewN q) (fun _ _ i _ => k - (intOf i).toNat)
          case atStart => exact ⟨0, _, Nat.zero_le _, rfl, rfl, rfl, rfl⟩
          case round =>
            obtain ⟨j, q2, hj, rfl, rfl, rfl, rfl⟩ := hrel
            by_cases hjl : j < k
            · obtain ⟨rfl, hbr⟩ := hr.1 (by omega)
              have hcx := hr.2 j hjl
              rw [Nat.zero_add] at hcx
              go_wp2_with fail
              refine (pos_any al n cl bl 0 live (reps j) (w.drewN q2) h20 HS.out HZ.out (HRZ.out j hjl) (hl.drewN _)).mono ?_
              rintro e w' ⟨rfl, q', rfl⟩
              rw [dd]
              have hpr := pos_range live (reps j) n
              by_cases hpk : 0 ≤ pos live (reps j) n
              · obtain ⟨a, ha⟩ : ∃ a : Nat, pos live (reps j) n = (a : Int) := ⟨(pos live (reps j) n).toNat, by omega⟩
                have han : a < n := by omega
                have hai : (a : Int) < (n : Int) := by omega
                have ha0 : ¬ (a : Int) < 0 := by omega
                rw [ha]
                have HA : Hid (P live reps n j = (a : Int)) := ha
                clear hpk hpr ha
                obtain ⟨rfl, hbc⟩ := hc.1 (by omega)
                obtain ⟨rfl, hbd⟩ := hd.1 (by omega)
                have hca : w.cell? ⟨BC, 0 + a, none⟩ = some (.bool (closed a)) := hc.2 a han
                have hda := hd.2 a han
                rw [Nat.zero_add] at hca hda
                have EL : elig false closed (P live reps n) j = true := elig_any HA.out
                cases hh : (lst false closed leads (P live reps n) j).1
                · have HT : Hid (lst false closed leads (P live reps n) (j + 1) = (true, leads a)) := lst_take EL HA.out (Or.inl hh)
                  clear hh EL
                  go_wp2
                  go_roundw
                  case rel => exact ⟨j + 1, _, by omega, by go_num, by rw [HT.out], by rw [HT.out], rfl⟩
                  case measure => simp [intOf]; omega
                · by_cases hlt : leads a < (lst false closed leads (P live reps n) j).2
                  · have HT : Hid (lst false closed leads (P live reps n) (j + 1) = (true, leads a)) := lst_take EL HA.out (Or.inr hlt)
                    clear hh EL
                    go_wp2
                    go_roundw
                    case rel => exact ⟨j + 1, _, by omega, by go_num, by rw [HT.out], by rw [HT.out], rfl⟩
                    case measure => simp [intOf]; omega
                  · have HT : Hid (lst false closed leads (P live reps n) (j + 1) = lst false closed leads (P live reps n) j) := lst_pass HA.out hh hlt
                    have HH := hide hh
                    clear hh EL
                    go_wp2
                    go_roundw
                    case rel => exact ⟨j + 1, _, by omega, by go_num, by rw [HT.out], by rw [HT.out, HH.out], rfl⟩
                    case measure => simp [intOf]; omega
              · have HT : Hid (lst false closed leads (P live reps n) (j + 1) = lst false closed leads (P live reps n) j) := lst_skip (elig_neg (by show pos live (reps j) n < 0; omega))
                have hpn : pos live (reps j) n < 0 := by omega
                clear hpr hpk
                go_wp2
                go_roundw
                case rel => exact ⟨j + 1, _, by omega, by go_num, by rw [HT.out], by rw [HT.out], rfl⟩
                case measure => simp [intOf]; omega
            · obtain rfl : j = k := by omega
              clear hjl
              generalize (lst false closed leads (P live reps n) j).2 = least at HCH ⊢
              go_wp2
              go_loopw [19, 20, 80] (fun x y i wr => ∃ m q : Nat, m ≤ j ∧ i = .int .i64 m ∧ x = .string (pk false closed leads (P live reps n) least reps m).2 ∧ y = .bool (pk false closed leads (P live reps n) least reps m).1 ∧ wr = w.drewN q) (fun _ _ i _ => j - (intOf i).toNat)
              case atStart => exact ⟨0, _, Nat.zero_le _, rfl, rfl, rfl, rfl⟩
              case round =>
                obtain ⟨m, q3, hm, rfl, rfl, rfl, rfl⟩ := hrel
                have PS : Hid ((pk false closed leads (P live reps n) least reps m).2.size ≤ maxLen) := pk_size m (fun i hi => HRZ.out i (by omega))
                by_cases hml : m < j
                · obtain ⟨rfl, hbr⟩ := hr.1 (by omega)
                  have hcx := hr.2 m hml
                  rw [Nat.zero_add] at hcx
                  go_wp2_with fail
                  refine (pos_any al n cl bl 0 live (reps m) (w.drewN q3) h20 HS.out HZ.out (HRZ.out m hml) (hl.drewN _)).mono ?_
                  rintro e w' ⟨rfl, q', rfl⟩
                  rw [dd]
                  have hpr := pos_range live (reps m) n
                  by_cases hpk : 0 ≤ pos live (reps m) n
                  · obtain ⟨a, ha⟩ : ∃ a : Nat, pos live (reps m) n = (a : Int) := ⟨(pos live (reps m) n).toNat, by omega⟩
                    have han : a < n := by omega
                    have hai : (a : Int) < (n : Int) := by omega
                    have ha0 : ¬ (a : Int) < 0 := by omega
                    rw [ha]
                    have HA : Hid (P live reps n m = (a : Int)) := ha
                    clear hpk hpr ha
                    obtain ⟨rfl, hbc⟩ := hc.1 (by omega)
                    obtain ⟨rfl, hbd⟩ := hd.1 (by omega)
                    have hca : w.cell? ⟨BC, 0 + a, none⟩ = some (.bool (closed a)) := hc.2 a han
                    have hda := hd.2 a han
                    rw [Nat.zero_add] at hca hda
                    have EL : elig false closed (P live reps n) m = true := elig_any HA.out
                    by_cases hle : leads a = least
                    · have hle' : (leads a != least) = false := by simp [hle]
                      cases hf : (pk false closed leads (P live reps n) least reps m).1
                      · have HT : Hid (pk false closed leads (P live reps n) least reps (m + 1) = (true, reps m)) := pk_take EL HA.out hle (Or.inl hf)
                        clear hf EL hle
                        go_wp2
                        go_roundw
                        case rel => exact ⟨m + 1, _, by omega, by go_num, by rw [HT.out], by rw [HT.out], rfl⟩
                        case measure => simp [intOf]; omega
                      · cases hlb : lessB (reps m) (pk false closed leads (P live reps n) least reps m).2
                        · have HT : Hid (pk false closed leads (P live reps n) least reps (m + 1) = pk false closed leads (P live reps n) least reps m) := pk_pass hf hlb
                          have HF := hide hf
                          have HLB := hide hlb
                          clear hf EL hle hlb
                          go_wp2_with fail
                          refine (less_any (reps m) (pk false closed leads (P live reps n) least reps m).2 _ (HRZ.out m hml) PS.out).mono ?_
                          rintro e w' ⟨rfl, q'', rfl⟩
                          rw [HLB.out]
                          go_wp2
                          go_roundw
                          case rel => exact ⟨m + 1, _, by omega, by go_num, by rw [HT.out], by rw [HT.out, HF.out], rfl⟩
                          case measure => simp [intOf]; omega
                        · have HT : Hid (pk false closed leads (P live reps n) least reps (m + 1) = (true, reps m)) := pk_take EL HA.out hle (Or.inr hlb)
                          have HF := hide hf
                          have HLB := hide hlb
                          clear hf EL hle hlb
                          go_wp2_with fail
                          refine (less_any (reps m) (pk false closed leads (P live reps n) least reps m).2 _ (HRZ.out m hml) PS.out).mono ?_
                          rintro e w' ⟨rfl, q'', rfl⟩
                          rw [HLB.out]
                          go_wp2
                          go_roundw
                          case rel => exact ⟨m + 1, _, by omega, by go_num, by rw [HT.out], by rw [HT.out], rfl⟩
                          case measure => simp [intOf]; omega
                    · have hle' : (leads a != least) = true := by simp [hle]
                      have HT : Hid (pk false closed leads (P live reps n) least reps (m + 1) = pk false closed leads (P live reps n) least reps m) := pk_other HA.out hle
                      clear EL hle
                      go_wp2
                      go_roundw
                      case rel => exact ⟨m + 1, _, by omega, by go_num, by rw [HT.out], by rw [HT.out], rfl⟩
                      case measure => simp [intOf]; omega
                  · have HT : Hid (pk false closed leads (P live reps n) least reps (m + 1) = pk false closed leads (P live reps n) least reps m) := pk_skip (elig_neg (by show pos live (reps m) n < 0; omega))
                    have hpn : pos live (reps m) n < 0 := by omega
                    clear hpr hpk
                    go_wp2
                    go_roundw
                    case rel => exact ⟨m + 1, _, by omega, by go_num, by rw [HT.out], by rw [HT.out], rfl⟩
                    case measure => simp [intOf]; omega
                · obtain rfl : m = j := by omega
                  clear hml
                  cases hf : (pk false closed leads (P live reps n) least reps m).1
                  · have HF : Hid (Ch.choose n live leads closed reps m = -1) := HCH.out.trans (if_pos hf)
                    clear hf HCH
                    go_wp2
                    go_ret
                    exact ⟨by rw [HF.out]; rfl, _, rfl⟩
                  · have HF : Hid (Ch.choose n live leads closed reps m = pos live (pk false closed leads (P live reps n) least reps m).2 n) := HCH.out.trans (if_neg (by rw [hf]; exact fun e => by cases e))
                    clear hf HCH
                    go_wp2_with fail
                    refine (pos_any al n cl bl 0 live (pk false closed leads (P live reps n) least reps m).2 (w.drewN q3) h20 HS.out HZ.out PS.out (hl.drewN _)).mono ?_
                    rintro e w' ⟨rfl, q', rfl⟩
                    rw [dd]
                    go_wp2
                    go_ret
                    exact ⟨by rw [HF.out]; rfl, _, rfl⟩
        · have HCH := hide (choose_some (leads := leads) hL hO)
          clear hL hO
          go_wp2
          go_loopw [14, 15, 45] (fun x y i wr => ∃ j q : Nat, j ≤ k ∧ i = .int .i64 j ∧ x = .int .i64 (lst true closed leads (P live reps n) j).2 ∧ y = .bool (lst true closed leads (P live reps n) j).1 ∧ wr = w.drewN q) (fun _ _ i _ => k - (intOf i).toNat)
          case atStart => exact ⟨0, _, Nat.zero_le _, rfl, rfl, rfl, rfl⟩
          case round =>
            obtain ⟨j, q2, hj, rfl, rfl, rfl, rfl⟩ := hrel
            by_cases hjl : j < k
            · obtain ⟨rfl, hbr⟩ := hr.1 (by omega)
              have hcx := hr.2 j hjl
              rw [Nat.zero_add] at hcx
              go_wp2_with fail
              refine (pos_any al n cl bl 0 live (reps j) (w.drewN q2) h20 HS.out HZ.out (HRZ.out j hjl) (hl.drewN _)).mono ?_
              rintro e w' ⟨rfl, q', rfl⟩
              rw [dd]
              have hpr := pos_range live (reps j) n
              by_cases hpk : 0 ≤ pos live (reps j) n
              · obtain ⟨a, ha⟩ : ∃ a : Nat, pos live (reps j) n = (a : Int) := ⟨(pos live (reps j) n).toNat, by omega⟩
                have han : a < n := by omega
                have hai : (a : Int) < (n : Int) := by omega
                have ha0 : ¬ (a : Int) < 0 := by omega
                rw [ha]
                have HA : Hid (P live reps n j = (a : Int)) := ha
                clear hpk hpr ha
                obtain ⟨rfl, hbc⟩ := hc.1 (by omega)
                obtain ⟨rfl, hbd⟩ := hd.1 (by omega)
                have hca : w.cell? ⟨BC, 0 + a, none⟩ = some (.bool (closed a)) := hc.2 a han
                have hda := hd.2 a han
                rw [Nat.zero_add] at hca hda
                cases hcv : closed a
                · have EL : elig true closed (P live reps n) j = true := elig_open HA.out hcv
                  rw [hcv] at hca
                  clear hcv
                  cases hh : (lst true closed leads (P live reps n) j).1
                  · have HT : Hid (lst true closed leads (P live reps n) (j + 1) = (true, leads a)) := lst_take EL HA.out (Or.inl hh)
                    clear hh EL
                    go_wp2
                    go_roundw
                    case rel => exact ⟨j + 1, _, by omega, by go_num, by rw [HT.out], by rw [HT.out], rfl⟩
                    case measure => simp [intOf]; omega
                  · by_cases hlt : leads a < (lst true closed leads (P live reps n) j).2
                    · have HT : Hid (lst true closed leads (P live reps n) (j + 1) = (true, leads a)) := lst_take EL HA.out (Or.inr hlt)
                      clear hh EL
                      go_wp2
                      go_roundw
                      case rel => exact ⟨j + 1, _, by omega, by go_num, by rw [HT.out], by rw [HT.out], rfl⟩
                      case measure => simp [intOf]; omega
                    · have HT : Hid (lst true closed leads (P live reps n) (j + 1) = lst true closed leads (P live reps n) j) := lst_pass HA.out hh hlt
                      have HH := hide hh
                      clear hh EL
                      go_wp2
                      go_roundw
                      case rel => exact ⟨j + 1, _, by omega, by go_num, by rw [HT.out], by rw [HT.out, HH.out], rfl⟩
                      case measure => simp [intOf]; omega
                · have HT : Hid (lst true closed leads (P live reps n) (j + 1) = lst true closed leads (P live reps n) j) := lst_skip (elig_shut HA.out hcv)
                  rw [hcv] at hca
                  clear hcv
                  go_wp2
                  go_roundw
                  case rel => exact ⟨j + 1, _, by omega, by go_num, by rw [HT.out], by rw [HT.out], rfl⟩
                  case measure => simp [intOf]; omega
              · have HT : Hid (lst true closed leads (P live reps n) (j + 1) = lst true closed leads (P live reps n) j) := lst_skip (elig_neg (by show pos live (reps j) n < 0; omega))
                have hpn : pos live (reps j) n < 0 := by omega
                clear hpr hpk
                go_wp2
                go_roundw
                case rel => exact ⟨j + 1, _, by omega, by go_num, by rw [HT.out], by rw [HT.out], rfl⟩
                case measure => simp [intOf]; omega
            · obtain rfl : j = k := by omega
              clear hjl
              generalize (lst true closed leads (P live reps n) j).2 = least at HCH ⊢
              go_wp2
              go_loopw [19, 20, 80] (fun x y i wr => ∃ m q : Nat, m ≤ j ∧ i = .int .i64 m ∧ x = .string (pk true closed leads (P live reps n) least reps m).2 ∧ y = .bool (pk true closed leads (P live reps n) least reps m).1 ∧ wr = w.drewN q) (fun _ _ i _ => j - (intOf i).toNat)
              case atStart => exact ⟨0, _, Nat.zero_le _, rfl, rfl, rfl, rfl⟩
              case round =>
                obtain ⟨m, q3, hm, rfl, rfl, rfl, rfl⟩ := hrel
                have PS : Hid ((pk true closed leads (P live reps n) least reps m).2.size ≤ maxLen) := pk_size m (fun i hi => HRZ.out i (by omega))
                by_cases hml : m < j
                · obtain ⟨rfl, hbr⟩ := hr.1 (by omega)
                  have hcx := hr.2 m hml
                  rw [Nat.zero_add] at hcx
                  go_wp2_with fail
                  refine (pos_any al n cl bl 0 live (reps m) (w.drewN q3) h20 HS.out HZ.out (HRZ.out m hml) (hl.drewN _)).mono ?_
                  rintro e w' ⟨rfl, q', rfl⟩
                  rw [dd]
                  have hpr := pos_range live (reps m) n
                  by_cases hpk : 0 ≤ pos live (reps m) n
                  · obtain ⟨a, ha⟩ : ∃ a : Nat, pos live (reps m) n = (a : Int) := ⟨(pos live (reps m) n).toNat, by omega⟩
                    have han : a < n := by omega
                    have hai : (a : Int) < (n : Int) := by omega
                    have ha0 : ¬ (a : Int) < 0 := by omega
                    rw [ha]
                    have HA : Hid (P live reps n m = (a : Int)) := ha
                    clear hpk hpr ha
                    obtain ⟨rfl, hbc⟩ := hc.1 (by omega)
                    obtain ⟨rfl, hbd⟩ := hd.1 (by omega)
                    have hca : w.cell? ⟨BC, 0 + a, none⟩ = some (.bool (closed a)) := hc.2 a han
                    have hda := hd.2 a han
                    rw [Nat.zero_add] at hca hda
                    cases hcv : closed a
                    · have EL : elig true closed (P live reps n) m = true := elig_open HA.out hcv
                      rw [hcv] at hca
                      clear hcv
                      by_cases hle : leads a = least
                      · have hle' : (leads a != least) = false := by simp [hle]
                        cases hf : (pk true closed leads (P live reps n) least reps m).1
                        · have HT : Hid (pk true closed leads (P live reps n) least reps (m + 1) = (true, reps m)) := pk_take EL HA.out hle (Or.inl hf)
                          clear hf EL hle
                          go_wp2
                          go_roundw
                          case rel => exact ⟨m + 1, _, by omega, by go_num, by rw [HT.out], by rw [HT.out], rfl⟩
                          case measure => simp [intOf]; omega
                        · cases hlb : lessB (reps m) (pk true closed leads (P live reps n) least reps m).2
                          · have HT : Hid (pk true closed leads (P live reps n) least reps (m + 1) = pk true closed leads (P live reps n) least reps m) := pk_pass hf hlb
                            have HF := hide hf
                            have HLB := hide hlb
                            clear hf EL hle hlb
                            go_wp2_with fail
                            refine (less_any (reps m) (pk true closed leads (P live reps n) least reps m).2 _ (HRZ.out m hml) PS.out).mono ?_
                            rintro e w' ⟨rfl, q'', rfl⟩
                            rw [HLB.out]
                            go_wp2
                            go_roundw
                            case rel => exact ⟨m + 1, _, by omega, by go_num, by rw [HT.out], by rw [HT.out, HF.out], rfl⟩
                            case measure => simp [intOf]; omega
                          · have HT : Hid (pk true closed leads (P live reps n) least reps (m + 1) = (true, reps m)) := pk_take EL HA.out hle (Or.inr hlb)
                            have HF := hide hf
                            have HLB := hide hlb
                            clear hf EL hle hlb
                            go_wp2_with fail
                            refine (less_any (reps m) (pk true closed leads (P live reps n) least reps m).2 _ (HRZ.out m hml) PS.out).mono ?_
                            rintro e w' ⟨rfl, q'', rfl⟩
                            rw [HLB.out]
                            go_wp2
                            go_roundw
                            case rel => exact ⟨m + 1, _, by omega, by go_num, by rw [HT.out], by rw [HT.out], rfl⟩
                            case measure => simp [intOf]; omega
                      · have hle' : (leads a != least) = true := by simp [hle]
                        have HT : Hid (pk true closed leads (P live reps n) least reps (m + 1) = pk true closed leads (P live reps n) least reps m) := pk_other HA.out hle
                        clear EL hle
                        go_wp2
                        go_roundw
                        case rel => exact ⟨m + 1, _, by omega, by go_num, by rw [HT.out], by rw [HT.out], rfl⟩
                        case measure => simp [intOf]; omega
                    · have HT : Hid (pk true closed leads (P live reps n) least reps (m + 1) = pk true closed leads (P live reps n) least reps m) := pk_skip (elig_shut HA.out hcv)
                      rw [hcv] at hca
                      clear hcv
                      go_wp2
                      go_roundw
                      case rel => exact ⟨m + 1, _, by omega, by go_num, by rw [HT.out], by rw [HT.out], rfl⟩
                      case measure => simp [intOf]; omega
                  · have HT : Hid (pk true closed leads (P live reps n) least reps (m + 1) = pk true closed leads (P live reps n) least reps m) := pk_skip (elig_neg (by show pos live (reps m) n < 0; omega))
                    have hpn : pos live (reps m) n < 0 := by omega
                    clear hpr hpk
                    go_wp2
                    go_roundw
                    case rel => exact ⟨m + 1, _, by omega, by go_num, by rw [HT.out], by rw [HT.out], rfl⟩
                    case measure => simp [intOf]; omega
                · obtain rfl : m = j := by omega
                  clear hml
                  cases hf : (pk true closed leads (P live reps n) least reps m).1
                  · have HF : Hid (Ch.choose n live leads closed reps m = -1) := HCH.out.trans (if_pos hf)
                    clear hf HCH
                    go_wp2
                    go_ret
                    exact ⟨by rw [HF.out]; rfl, _, rfl⟩
                  · have HF : Hid (Ch.choose n live leads closed reps m = pos live (pk true closed leads (P live reps n) least reps m).2 n) := HCH.out.trans (if_neg (by rw [hf]; exact fun e => by cases e))
                    clear hf HCH
                    go_wp2_with fail
                    refine (pos_any al n cl bl 0 live (pk true closed leads (P live reps n) least reps m).2 (w.drewN q3) h20 HS.out HZ.out PS.out (hl.drewN _)).mono ?_
                    rintro e w' ⟨rfl, q', rfl⟩
                    rw [dd]
                    go_wp2
                    go_ret
                    exact ⟨by rw [HF.out]; rfl, _, rfl⟩
end Go.Proofs.Qxb6603051a.Cw
