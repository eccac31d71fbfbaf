/- The Lead laws: the walk of 'leading twice is leading once'. -/
import Derived.Test.Qxb6603051aState
namespace Go.Proofs.Qxb6603051a.Tw
open Go.RowKit Go.Maps
open Go.Proofs.Qxb6603051a.Pl
open Go.Proofs.Qxb6603051a.Sm
open Go.Proofs.Qxb6603051a.Md
open Go.Proofs.Qxb6603051a.Ix
open Go.Proofs.Qxb6603051a.Ld
open Go.Proofs.Qxb6603051a.Ft
open Go.Proofs.Qxb6603051a.Se

/-- What the laws are told of their arguments. -/
structure Args (w : World) (al : Option Addr) (n cl bl ol : Nat) (live : Nat → ByteArray) (m : Option Nat) (ad : Option Addr) (nd cd bd od : Nat) (z : Nat → Int) (ac : Option Addr) (nc cc bc oc : Nat) (closed : Nat → Bool)
    (leader : ByteArray) (ar : Option Addr) (nr cr br or : Nat) (reps : Nat → ByteArray) : Prop where
  hL : Row w al n bl ol (fun i => .string (live i))
  nL : al = none → n = 0 ∧ cl = 0
  zL : ∀ i, i < n → (live i).size ≤ maxLen
  mL : n ≤ 9223372036854775807
  hM : MapArg w m
  hD : Row w ad nd bd od (fun i => .int .i64 (z i))
  nD : ad = none → nd = 0 ∧ cd = 0
  hC : Row w ac nc bc oc (fun i => .bool (closed i))
  nC : ac = none → nc = 0 ∧ cc = 0
  zS : leader.size ≤ maxLen
  hR : Row w ar nr br or (fun i => .string (reps i))
  nR : ar = none → nr = 0 ∧ cr = 0
  zR : ∀ i, i < nr → (reps i).size ≤ maxLen
  mR : nr ≤ 9223372036854775807

theorem own_nil {w : World} {lo : Nat} {ao : Option Addr} {len cap B : Nat} {T : TypeId} {f : Nat → Value} (h : Own w lo ao len B T f) (hc : ao = none → cap = 0) : ao = none → len = 0 ∧ cap = 0 := fun hn => by
  refine ⟨?_, hc hn⟩
  rcases Nat.eq_zero_or_pos len with h0 | h0
  · exact h0
  · have := (h h0).1
    rw [hn] at this
    cases this

theorem outcome_bounds {n : Nat} {live : Nat → ByteArray} {leads leads' : Nat → Int} {closed : Nat → Bool} {leader : ByteArray} {nr : Nat} {reps : Nat → ByteArray} {s : ByteArray} (hb : ∀ i, i < n → 0 ≤ leads i ∧ leads i ≤ 1073741824)
    (h : Se.Outcome n live leads closed leader nr reps s leads') : ∀ i, i < n → 0 ≤ leads' i ∧ leads' i ≤ 1073741825 := by
  intro i hi
  have := hb i hi
  rcases h with ⟨_, _, rfl⟩ | ⟨_, _, _, rfl⟩ | ⟨_, c, _, _, _, rfl⟩
  · omega
  · omega
  · show 0 ≤ (if i = c then leads i + 1 else leads i) ∧ (if i = c then leads i + 1 else leads i) ≤ 1073741825
    split <;> omega

theorem outcome_size {n : Nat} {live : Nat → ByteArray} {leads leads' : Nat → Int} {closed : Nat → Bool} {leader : ByteArray} {nr : Nat} {reps : Nat → ByteArray} {s : ByteArray} (hl : leader.size ≤ maxLen) (hz : ∀ i, i < n → (live i).size ≤ maxLen)
    (h : Se.Outcome n live leads closed leader nr reps s leads') : s.size ≤ maxLen := by
  rcases h with ⟨_, rfl, _⟩ | ⟨_, _, rfl, _⟩ | ⟨_, c, _, hc, rfl, _⟩
  · exact hl
  · exact Nat.zero_le _
  · exact hz c hc

def TrueR (w : World) (e : Ending) (w' : World) : Prop := e = .returned (.bool true) ∧ Below w.heap.size w w'

variable {al : Option Addr} {n cl bl ol : Nat} {live : Nat → ByteArray} {m : Option Nat} {ad : Option Addr} {nd cd bd od : Nat} {z : Nat → Int} {ac : Option Addr} {nc cc bc oc : Nat} {closed : Nat → Bool}
    {leader : ByteArray} {ar : Option Addr} {nr cr br or : Nat} {reps : Nat → ByteArray}

set_option maxRecDepth 100000 in
set_option maxHeartbeats 4000000 in
theorem twice_walk (w : World) (A : Args w al n cl bl ol live m ad nd cd bd od z ac nc cc bc oc closed leader ar nr cr br or reps) :
    Calls Try.prog 4 #[.slice al n cl, .map m, .slice ad nd cd, .slice ac nc cc, .string leader, .slice ar nr cr] w (TrueR w) := by
  go_enter Try.func4, Try.ntmps4
  go_wp2_with fail
  refine (lead_bytes al n cl bl ol live m ad nd cd ac nc cc leader ar nr cr br or reps w A.mL A.mR A.hL A.hM A.hR).mono ?_
  rintro e w0 ⟨⟨r, rfl, hr⟩, rfl⟩
  have HR := hide hr
  clear hr
  by_cases hbig : 1048576 < r
  · go_wp2
    go_ret
    exact ⟨rfl, Below.refl _ _⟩
  obtain ⟨h20, h20r⟩ := HR.out (by omega)
  clear HR
  go_wp2_with fail
  refine (fit_any al n cl bl ol live m ad nd cd bd od z ac nc cc w0 h20 A.zL A.hL A.hM A.hD).mono ?_
  rintro e w' ⟨rr, rfl, hfit, q, rfl⟩
  cases rr
  · clear hfit
    go_wp2
    go_ret
    exact ⟨rfl, below_drewN (Below.refl _ _) _⟩
  obtain ⟨rfl, rfl, hord, hzb⟩ := hfit rfl
  have hsort : Sorted live nc := sorted_of_next hord
  have HS := hide hsort
  have HZ := hide hzb
  clear hfit hord hsort hzb hbig
  have b1 : Below w0.heap.size w0 (w0.drewN q) := below_drewN (Below.refl _ _) _
  have L1 := A.hL.below b1
  have D1 := A.hD.below b1
  have C1 := A.hC.below b1
  have R1 := A.hR.below b1
  generalize w0.drewN q = w1 at b1 L1 D1 C1 R1 ⊢
  go_wp2_with fail
  refine (clone_strings al nc cl bl ol live w1 h20 A.nL L1).mono ?_
  rintro e w2 ⟨al', cl', Bl, rfl, -, -, oL, b2⟩
  have D2 := D1.below b2
  have C2 := C1.below b2
  have R2 := R1.below b2
  clear L1 D1 C1 R1
  go_wp2_with fail
  refine (index_any al' nc cl' Bl 0 live w2 h20 A.zL oL.row).mono ?_
  rintro e w3 ⟨rfl, I3, b3⟩
  have oL3 := oL.below b3
  have D3 := D2.below b3
  have C3 := C2.below b3
  have R3 := R2.below b3
  clear D2 C2 R2 oL
  go_wp2_with fail
  refine (clone_ints ad nc cd bd od z w3 h20 A.nD D3).mono ?_
  rintro e w4 ⟨ad', cd', BD, rfl, -, kD, oD, b4⟩
  have nD' := own_nil oD kD
  have ND := hide nD'
  clear nD' kD
  have oL4 := oL3.below b4
  have I4 := I3.of_block (b4.block _ I3.lt)
  have C4 := C3.below b4
  have R4 := R3.below b4
  clear D3 C3 R3 oL3 I3
  go_wp2_with fail
  refine (clone_bools ac nc cc bc oc closed w4 h20 A.nC C4).mono ?_
  rintro e w5 ⟨ac', cc', BC, rfl, -, -, oC, b5⟩
  have oL5 := oL4.below b5
  have I5 := I4.of_block (b5.block _ I4.lt)
  have oD5 := oD.below b5
  have R5 := R4.below b5
  clear C4 R4 oL4 I4 oD
  go_wp2_with fail
  refine (clone_strings ar nr cr br or reps w5 h20r A.nR R5).mono ?_
  rintro e w6 ⟨ar', cr', BR, rfl, -, -, oR, b6⟩
  have oL6 := oL5.below b6
  have I6 := I5.of_block (b6.block _ I5.lt)
  have oD6 := oD5.below b6
  have oC6 := oC.below b6
  clear R5 oL5 I5 oD5 oC
  go_wp2_with fail
  refine (new_loads al' nc cl' w2.heap.size ad' cd' ac' cc' w6).mono ?_
  rintro e w7 ⟨rfl, A7, b7⟩
  have B2 := b1.trans (b2.mono b1.size)
  have B3 := B2.trans (b3.mono B2.size)
  have B4 := B3.trans (b4.mono B3.size)
  have B5 := B4.trans (b5.mono B4.size)
  have B6 := B5.trans (b6.mono B5.size)
  have B7 := B6.trans (b7.mono B6.size)
  have lo3 : w0.heap.size ≤ w3.heap.size := B3.size
  have S7 : St w7 w6.heap.size nc al' cl' Bl w2.heap.size ad' cd' BD ac' cc' BC live z closed :=
    ⟨A7, own_weaken (oL6.below b7) (Nat.zero_le _), I6.of_block (b7.block _ I6.lt), own_weaken (oD6.below b7) (Nat.zero_le _), own_weaken (oC6.below b7) (Nat.zero_le _)⟩
  have oR7 := own_weaken (oR.below b7) (Nat.zero_le _)
  have loD : 0 < nc → w0.heap.size ≤ BD := fun h => Nat.le_trans lo3 (oD6 h).2.1
  have LOD := hide loD
  clear A7 oL6 I6 oD6 oC6 oR B2 B3 B4 B5 B6 b1 b2 b3 b4 b5 b6 b7 lo3 loD
  have zb : ∀ i, i < nc → 0 ≤ z i ∧ z i ≤ 1073741825 := fun i hi => ⟨(HZ.out i hi).1, by have := (HZ.out i hi).2; omega⟩
  have ZB := hide zb
  clear zb
  go_wp2_with fail
  refine (lead_any w6.heap.size nc al' cl' Bl w2.heap.size ad' cd' BD ac' cc' BC live z closed leader ar' nr cr' BR 0 reps w7 h20 h20r A.zS A.zR ZB.out S7 oR7.row).mono ?_
  rintro e w8 ⟨s1, z1, rfl, out1, S8, k8⟩
  have hz1 := outcome_bounds HZ.out out1
  have hs1 := outcome_size A.zS A.zL out1
  have once := outcome_once HS.out out1
  have HZ1 := hide hz1
  have HS1 := hide hs1
  have ONCE := hide once
  have oR8 := own_kept oR7 k8 (by decide) (fun h => (S7.lds h).2.2)
  have B8 := B7.trans (k8.below LOD.out B7.size)
  clear S7 oR7 B7 k8 out1 hz1 hs1 once
  go_wp2_with fail
  have bA : Below w8.heap.size w8 (w8.alloc (.cells #[.string s1, .slice ar' nr cr'] 35)) := (Below.refl _ _).alloc (Nat.le_refl _) _
  have S9 := st_below S8 bA
  have oR9 := oR8.below bA
  have p0 : (w8.alloc (.cells #[.string s1, .slice ar' nr cr'] 35)).cell? ⟨w8.heap.size, 0, none⟩ = some (.string s1) := by simp [World.cell?_alloc_new]
  have p1 : (w8.alloc (.cells #[.string s1, .slice ar' nr cr'] 35)).cell? ⟨w8.heap.size, 1, none⟩ = some (.slice ar' nr cr') := by simp [World.cell?_alloc_new]
  have pl : w8.heap.size < (w8.alloc (.cells #[.string s1, .slice ar' nr cr'] 35)).heap.size := by simp
  have B9 := B8.trans (bA.mono B8.size)
  have pd : 0 < nc → BD < w8.heap.size := fun h => (S8.lds h).2.2.lt
  have PD := hide pd
  clear bA S8 oR8 B8 pd
  generalize w8.alloc (.cells #[.string s1, .slice ar' nr cr'] 35) = w9 at S9 oR9 p0 p1 pl B9 ⊢
  refine (loads_leads w6.heap.size nc al' cl' w2.heap.size ad' cd' ac' cc' w9 S9.at_).mono ?_
  rintro e w9 ⟨rfl, rfl⟩
  go_wp2_with fail
  refine (clone_ints ad' nc cd' BD 0 z1 w9 h20 ND.out S9.lds.row).mono ?_
  rintro e w10 ⟨aA, cA, BA, rfl, -, -, oA, b10⟩
  have S10 := st_below S9 b10
  have oR10 := oR9.below b10
  have p0' := (b10.cell (p := ⟨w8.heap.size, 0, none⟩) pl).trans p0
  have p1' := (b10.cell (p := ⟨w8.heap.size, 1, none⟩) pl).trans p1
  have B10 := B9.trans (b10.mono B9.size)
  have pl' : w8.heap.size < w10.heap.size := Nat.lt_of_lt_of_le pl b10.size
  have ane : 0 < nc → BA ≠ BD := fun h => by have := (oA h).2.1; have := PD.out h; omega
  have ANE := hide ane
  clear S9 oR9 p0 p1 b10 B9 pl ane
  go_wp2_with fail
  refine (lead_any w6.heap.size nc al' cl' Bl w2.heap.size ad' cd' BD ac' cc' BC live z1 closed s1 ar' nr cr' BR 0 reps w10 h20 h20r HS1.out A.zR HZ1.out S10 oR10.row).mono ?_
  rintro e w11 ⟨s2, z2, rfl, out2, S11, k11⟩
  obtain ⟨rfl, rfl⟩ := outcome_twice ONCE.out out2
  have oR11 := own_kept oR10 k11 (by decide) (fun h => (S10.lds h).2.2)
  have B11 := B10.trans (k11.below LOD.out B10.size)
  have pne : nc = 0 ∨ w8.heap.size ≠ BD := by
    by_cases h : nc = 0
    · exact Or.inl h
    · exact Or.inr (by have := PD.out (by omega); omega)
  have q0 : w11.cell? ⟨w8.heap.size, 0, none⟩ = some (.string s2) := (World.cell?_of_block (w := w10) (k11.block _ pl' pne)).trans p0'
  have q1 : w11.cell? ⟨w8.heap.size, 1, none⟩ = some (.slice ar' nr cr') := (World.cell?_of_block (w := w10) (k11.block _ pl' pne)).trans p1'
  have oA11 : Own w11 0 aA nc BA 3 (fun i => .int .i64 (z2 i)) := fun h => ⟨(oA h).1, Nat.zero_le _, (oA h).2.2.of_block (k11.block _ (oA h).2.2.lt (Or.inr (ANE.out h)))⟩
  have ql : w8.heap.size < w11.heap.size := Nat.lt_of_lt_of_le pl' k11.size
  clear S10 oR10 p0' p1' pl' B10 k11 pne oA out2
  have bB : Below w11.heap.size w11 (w11.alloc (.cells #[.string s2, .slice ar' nr cr'] 35)) := (Below.refl _ _).alloc (Nat.le_refl _) _
  have S12 := st_below S11 bB
  have oR12 := oR11.below bB
  have oA12 := oA11.below bB
  have B12 := B11.trans (bB.mono B11.size)
  have r0 : (w11.alloc (.cells #[.string s2, .slice ar' nr cr'] 35)).cell? ⟨w11.heap.size, 0, none⟩ = some (.string s2) := by simp [World.cell?_alloc_new]
  have r1 : (w11.alloc (.cells #[.string s2, .slice ar' nr cr'] 35)).cell? ⟨w11.heap.size, 1, none⟩ = some (.slice ar' nr cr') := by simp [World.cell?_alloc_new]
  have t0 := (bB.cell (p := ⟨w8.heap.size, 0, none⟩) ql).trans q0
  have t1 := (bB.cell (p := ⟨w8.heap.size, 1, none⟩) ql).trans q1
  clear S11 oR11 oA11 B11 bB q0 q1
  go_wp2_with fail
  generalize w11.alloc (.cells #[.string s2, .slice ar' nr cr'] 35) = w12 at S12 oR12 oA12 B12 r0 r1 t0 t1 ⊢
  refine (same_strings ar' ar' nr cr' cr' BR 0 BR 0 reps w12 h20r rfl oR12.row oR12.row).mono ?_
  rintro e w13 ⟨rfl, q2, rfl⟩
  go_wp2_with fail
  refine (same_strings ar' ar' nr cr' cr' BR 0 BR 0 reps (w12.drewN q2) h20r rfl (oR12.row.drewN _) (oR12.row.drewN _)).mono ?_
  rintro e w14 ⟨rfl, q3, rfl⟩
  rw [dd]
  go_wp2_with fail
  generalize q2 + q3 = q4
  have bq : Below w12.heap.size w12 (w12.drewN q4) := below_drewN (Below.refl _ _) _
  have S13 := st_below S12 bq
  have oA13 := oA12.below bq
  have B13 := B12.trans (bq.mono B12.size)
  have t0' : (w12.drewN q4).cell? ⟨w8.heap.size, 0, none⟩ = some (.string s2) := t0
  clear S12 oA12 B12 bq t0 t1 r0 r1 oR12
  generalize w12.drewN q4 = w13 at S13 oA13 B13 t0' ⊢
  refine (loads_leads w6.heap.size nc al' cl' w2.heap.size ad' cd' ac' cc' w13 S13.at_).mono ?_
  rintro e w13 ⟨rfl, rfl⟩
  go_wp2_with fail
  refine (same_ints ad' aA nc cd' cA BD 0 BA 0 z2 w13 h20 S13.lds.row oA13.row).mono ?_
  rintro e w14 ⟨rfl, q5, rfl⟩
  rcases ONCE.out with hpos | ⟨rfl, _⟩
  · by_cases he : s2 = ⟨#[]⟩
    · subst he
      clear hpos
      go_wp2
      go_ret
      exact ⟨rfl, below_drewN B13 _⟩
    · have hne : s2.toList.isEmpty = false := by
        cases hh : s2.toList.isEmpty
        · rfl
        · exfalso
          rw [List.isEmpty_iff, ByteArray.toList_eq] at hh
          exact he (ba_ext hh)
      have HPOS := hide hpos
      clear he hpos
      go_wp2_with fail
      refine (pos_any al' nc cl' Bl 0 live s2 (w13.drewN q5) h20 HS.out A.zL HS1.out (S13.liv.row.drewN _)).mono ?_
      rintro e w15 ⟨rfl, q6, rfl⟩
      have hpos := HPOS.out
      go_wp2
      go_ret
      exact ⟨rfl, below_drewN B13 _⟩
  · go_wp2
    go_ret
    exact ⟨rfl, below_drewN B13 _⟩
end Go.Proofs.Qxb6603051a.Tw
