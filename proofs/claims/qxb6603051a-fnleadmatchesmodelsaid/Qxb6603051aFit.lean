/- The Lead laws: what the domain test says where it says yes. -/
import Derived.Test.Qxb6603051aMid
namespace Go.Proofs.Qxb6603051a.Ft
open Go.RowKit Go.Maps
open Go.Proofs.Qxb6603051a.Pl
open Go.Proofs.Qxb6603051a.Sm
open Go.Proofs.Qxb6603051a.Md

/-- How the domain test ends. -/
def FitR (w : World) (n nd nc : Nat) (live : Nat → ByteArray) (z : Nat → Int) (e : Ending) (w' : World) : Prop :=
  ∃ r : Bool, e = .returned (.bool r) ∧ (r = true → nd = n ∧ nc = n ∧ (∀ i, i + 1 < n → lessB (live i) (live (i + 1)) = true) ∧ ∀ i, i < n → 0 ≤ z i ∧ z i ≤ 1073741824) ∧ ∃ q, w' = w.drewN q

def Upto (live : Nat → ByteArray) (z : Nat → Int) (k : Nat) : Prop := (∀ i, i + 1 < k → lessB (live i) (live (i + 1)) = true) ∧ ∀ i, i < k → 0 ≤ z i ∧ z i ≤ 1073741824

theorem upto_zero (live : Nat → ByteArray) (z : Nat → Int) : Upto live z 0 := ⟨fun i h => by omega, fun i h => by omega⟩
theorem upto_one {live : Nat → ByteArray} {z : Nat → Int} (h0 : 0 ≤ z 0) (h1 : z 0 ≤ 1073741824) : Upto live z 1 :=
  ⟨fun i h => by omega, fun i h => by
    obtain rfl : i = 0 := by omega
    exact ⟨h0, h1⟩⟩
theorem upto_succ {live : Nat → ByteArray} {z : Nat → Int} {k : Nat} (h : Upto live z (k + 1)) (hl : lessB (live k) (live (k + 1)) = true) (h0 : 0 ≤ z (k + 1)) (h1 : z (k + 1) ≤ 1073741824) : Upto live z (k + 2) :=
  ⟨fun i hi => by
    by_cases e : i = k
    · subst e; exact hl
    · exact h.1 i (by omega),
   fun i hi => by
    by_cases e : i = k + 1
    · subst e; exact ⟨h0, h1⟩
    · exact h.2 i (by omega)⟩

set_option maxRecDepth 100000 in
set_option maxHeartbeats 1000000 in
theorem fit_any (al : Option Addr) (n cl bl ol : Nat) (live : Nat → ByteArray) (m : Option Nat) (ad : Option Addr) (nd cd bd od : Nat) (z : Nat → Int) (ac : Option Addr) (nc cc : Nat) (w : World)
    (h20 : n ≤ 1048576) (hz : ∀ i, i < n → (live i).size ≤ maxLen) (hr : Row w al n bl ol (fun i => .string (live i))) (hmap : MapArg w m) (hd : Row w ad nd bd od (fun i => .int .i64 (z i))) :
    Calls Try.prog 10 #[.slice al n cl, .map m, .slice ad nd cd, .slice ac nc cc] w (FitR w n nd nc live z) := by
  obtain ⟨sz, hlen⟩ := map_len hmap
  have hlen0 : ∀ ty, (Builtin.len_ #[23] ty #[.map m]).run Try.prog w = .ok (.int .i64 sz) w := fun ty => hlen 0 ty
  clear hlen
  have HZ := hide hz
  clear hz
  by_cases e1 : nd = n
  · subst e1
    by_cases e2 : nc = nd
    · subst e2
      by_cases e3 : sz = nc
      · subst e3
        go_enter Try.func10, Try.ntmps10
        go_wp2
        go_loopw [9] (fun i wr => ∃ k q : Nat, k ≤ sz ∧ i = .int .i64 k ∧ wr = w.drewN q ∧ Upto live z k) (fun i _ => sz - (intOf i).toNat)
        case atStart => exact ⟨0, 0, Nat.zero_le _, rfl, rfl, upto_zero _ _⟩
        case round =>
          obtain ⟨k, q, hk, rfl, hw, HU⟩ := hrel
          clear hlen0
          have hr' : Row wr al sz bl ol (fun i => .string (live i)) := by rw [hw]; exact hr
          have hd' : Row wr ad sz bd od (fun i => .int .i64 (z i)) := by rw [hw]; exact hd
          have hmap' : MapArg wr m := by rw [hw]; exact hmap
          have HW := hide hw
          have fin : ∀ nq, ∃ q, wr.drewN nq = w.drewN q := fun nq => ⟨_, by rw [HW.out, dd]⟩
          have FIN := hide fin
          clear hw hr hd hmap fin
          by_cases hkl : k < sz
          · obtain ⟨rfl, hbl⟩ := hr'.1 (by omega)
            obtain ⟨rfl, hbd⟩ := hd'.1 (by omega)
            have hcx := hr'.2 k hkl
            have hcz := hd'.2 k hkl
            have hki : (k : Int) < (sz : Int) := by omega
            obtain ⟨c, ok, hlk'⟩ := map_look hmap' (live k) (HZ.out k hkl)
            have hlk : (Instr.lookup 23 (.map m) (.string (live k)) true).run Try.prog wr = .ok (.tuple #[.int .i64 c, .bool ok]) wr := hlk' 0
            clear hlk'
            cases ok
            · go_wp2
              go_ret
              exact ⟨false, rfl, (fun h => by cases h), FIN.out 0⟩
            · by_cases hck : c = (k : Int)
              · subst hck
                by_cases hk0 : k = 0
                · subst hk0
                  have hg : decide ((0 : Int) < 0) = false := by decide
                  simp only [Nat.add_zero] at hcx hcz
                  by_cases z0 : 0 ≤ z 0
                  · by_cases z1 : z 0 ≤ 1073741824
                    · have HU' := upto_one (live := live) z0 z1
                      go_wp2
                      go_quiet (fail)
                      go_wp2
                      go_roundw
                      case rel =>
                        obtain ⟨q', hq'⟩ := FIN.out nq
                        exact ⟨0 + 1, q', by omega, by go_num, hq', HU'⟩
                      case measure => simp [intOf]; omega
                    · go_wp2
                      go_quiet (fail)
                      go_wp2
                      go_ret
                      exact ⟨false, rfl, (fun h => by cases h), FIN.out _⟩
                  · go_wp2
                    go_quiet (fail)
                    go_wp2
                    go_ret
                    exact ⟨false, rfl, (fun h => by cases h), FIN.out _⟩
                · obtain ⟨j, hj⟩ : ∃ j, k = j + 1 := ⟨k - 1, by omega⟩
                  have hcy := hr'.2 j (by omega)
                  have hkm : (k : Int) - 1 = (j : Int) := by omega
                  have hjl : j < sz := by omega
                  have hg : (0 : Int) < (k : Int) := by omega
                  have hgn : 0 < k := by omega
                  have hji : (j : Int) < (sz : Int) := by omega
                  have hwj : IntKind.i64.wrap (j : Int) = (j : Int) := by rw [IntKind.wrap_i64]; omega
                  have sj := HZ.out j hjl
                  have sk := HZ.out k hkl
                  cases hl : lessB (live j) (live k)
                  · have HL := hide hl
                    clear hj hl
                    go_wp2
                    go_quiet ((go_at_call 41; exact Calls.quiet_of (less_any _ _ _ sj sk)))
                    rw [HL.out]
                    go_wp2
                    go_ret
                    exact ⟨false, rfl, (fun h => by cases h), FIN.out _⟩
                  · have HL := hide hl
                    have HJ := hide hj
                    clear hj hl
                    by_cases z0 : 0 ≤ z k
                    · by_cases z1 : z k ≤ 1073741824
                      · have HU' : Upto live z (k + 1) := by
                          have e := HJ.out
                          subst e
                          exact upto_succ HU HL.out z0 z1
                        go_wp2
                        go_quiet ((go_at_call 41; exact Calls.quiet_of (less_any _ _ _ sj sk)))
                        rw [HL.out]
                        go_wp2
                        go_roundw
                        case rel =>
                          obtain ⟨q', hq'⟩ := FIN.out nq
                          exact ⟨k + 1, q', by omega, by go_num, hq', HU'⟩
                        case measure => simp [intOf]; omega
                      · go_wp2
                        go_quiet ((go_at_call 41; exact Calls.quiet_of (less_any _ _ _ sj sk)))
                        rw [HL.out]
                        go_wp2
                        go_ret
                        exact ⟨false, rfl, (fun h => by cases h), FIN.out _⟩
                    · go_wp2
                      go_quiet ((go_at_call 41; exact Calls.quiet_of (less_any _ _ _ sj sk)))
                      rw [HL.out]
                      go_wp2
                      go_ret
                      exact ⟨false, rfl, (fun h => by cases h), FIN.out _⟩
              · have hcb : (c != (k : Int)) = true := by simp; exact hck
                go_wp2
                go_ret
                exact ⟨false, rfl, (fun h => by cases h), FIN.out 0⟩
          · have : k = sz := by omega
            subst this
            go_wp2
            go_ret
            exact ⟨true, rfl, (fun _ => ⟨rfl, rfl, HU.1, HU.2⟩), FIN.out 0⟩
      · have hne : ((sz : Int) != (nc : Int)) = true := by simp; omega
        go_enter Try.func10, Try.ntmps10
        go_wp2
        go_ret
        exact ⟨false, rfl, (fun h => by cases h), 0, rfl⟩
    · have hne : ((nc : Int) != (nd : Int)) = true := by simp; omega
      go_enter Try.func10, Try.ntmps10
      go_wp2
      go_ret
      exact ⟨false, rfl, (fun h => by cases h), 0, rfl⟩
  · have hne : ((nd : Int) != (n : Int)) = true := by simp; omega
    go_enter Try.func10, Try.ntmps10
    go_wp2
    go_ret
    exact ⟨false, rfl, (fun h => by cases h), 0, rfl⟩
end Go.Proofs.Qxb6603051a.Ft
