/- The Lead laws: the walk of 'Lead is the model'. -/
import Derived.Test.Qxb6603051aTwice
import Derived.Test.Qxb6603051aChoose
namespace Go.Proofs.Qxb6603051a.Mw
open Go.RowKit Go.Maps
open Go.Proofs.Qxb6603051a.Pl
open Go.Proofs.Qxb6603051a.Sm
open Go.Proofs.Qxb6603051a.Md
open Go.Proofs.Qxb6603051a.Ix
open Go.Proofs.Qxb6603051a.Ld
open Go.Proofs.Qxb6603051a.Ft
open Go.Proofs.Qxb6603051a.Se
open Go.Proofs.Qxb6603051a.Tw
open Go.Proofs.Qxb6603051a.Ch
open Go.Proofs.Qxb6603051a.Cw

variable {al : Option Addr} {n cl bl ol : Nat} {live : Nat → ByteArray} {m : Option Nat} {ad : Option Addr} {nd cd bd od : Nat} {z : Nat → Int} {ac : Option Addr} {nc cc bc oc : Nat} {closed : Nat → Bool}
    {leader : ByteArray} {ar : Option Addr} {nr cr br or : Nat} {reps : Nat → ByteArray}

set_option maxRecDepth 100000 in
set_option maxHeartbeats 4000000 in
theorem model_walk (w : World) (A : Args w al n cl bl ol live m ad nd cd bd od z ac nc cc bc oc closed leader ar nr cr br or reps) :
    Calls Try.prog 3 #[.slice al n cl, .map m, .slice ad nd cd, .slice ac nc cc, .string leader, .slice ar nr cr] w (TrueR w) := by
  go_enter Try.func3, Try.ntmps3
  go_wp2_with fail
  refine (lead_bytes al n cl bl ol live m ad nd cd ac nc cc leader ar nr cr br or reps w A.mL A.mR A.hL A.hM A.hR).mono ?_
  rintro e w0 ⟨⟨r, rfl, hr⟩, rfl⟩
  have HR := hide hr
  clear hr
  by_cases hbig : 1048576 < r
  · go_wp2
    go_ret
    exact ⟨rfl, Below.refl _ _⟩
  obtain ⟨h20, h20r⟩ := HR.out (by omega)
  clear HR
  go_wp2_with fail
  refine (fit_any al n cl bl ol live m ad nd cd bd od z ac nc cc w0 h20 A.zL A.hL A.hM A.hD).mono ?_
  rintro e w' ⟨rr, rfl, hfit, q, rfl⟩
  cases rr
  · clear hfit
    go_wp2
    go_ret
    exact ⟨rfl, below_drewN (Below.refl _ _) _⟩
  obtain ⟨rfl, rfl, hord, hzb⟩ := hfit rfl
  have hsort : Sorted live nc := sorted_of_next hord
  have HS := hide hsort
  have HZ := hide hzb
  clear hfit hord hsort hzb hbig
  have b1 : Below w0.heap.size w0 (w0.drewN q) := below_drewN (Below.refl _ _) _
  have L1 := A.hL.below b1
  have D1 := A.hD.below b1
  have C1 := A.hC.below b1
  have R1 := A.hR.below b1
  generalize w0.drewN q = w1 at b1 L1 D1 C1 R1 ⊢
  go_wp2_with fail
  refine (clone_strings al nc cl bl ol live w1 h20 A.nL L1).mono ?_
  rintro e w2 ⟨al', cl', Bl, rfl, -, -, oL, b2⟩
  have D2 := D1.below b2
  have C2 := C1.below b2
  have R2 := R1.below b2
  clear L1 D1 C1 R1
  go_wp2_with fail
  refine (index_any al' nc cl' Bl 0 live w2 h20 A.zL oL.row).mono ?_
  rintro e w3 ⟨rfl, I3, b3⟩
  have oL3 := oL.below b3
  have D3 := D2.below b3
  have C3 := C2.below b3
  have R3 := R2.below b3
  clear D2 C2 R2 oL
  go_wp2_with fail
  refine (clone_ints ad nc cd bd od z w3 h20 A.nD D3).mono ?_
  rintro e w4 ⟨ad', cd', BD, rfl, -, kD, oD, b4⟩
  have nD' := own_nil oD kD
  have ND := hide nD'
  clear nD' kD
  have oL4 := oL3.below b4
  have I4 := I3.of_block (b4.block _ I3.lt)
  have C4 := C3.below b4
  have R4 := R3.below b4
  clear D3 C3 R3 oL3 I3
  go_wp2_with fail
  refine (clone_bools ac nc cc bc oc closed w4 h20 A.nC C4).mono ?_
  rintro e w5 ⟨ac', cc', BC, rfl, -, -, oC, b5⟩
  have oL5 := oL4.below b5
  have I5 := I4.of_block (b5.block _ I4.lt)
  have oD5 := oD.below b5
  have R5 := R4.below b5
  clear C4 R4 oL4 I4 oD
  go_wp2_with fail
  refine (clone_strings ar nr cr br or reps w5 h20r A.nR R5).mono ?_
  rintro e w6 ⟨ar', cr', BR, rfl, -, -, oR, b6⟩
  have oL6 := oL5.below b6
  have I6 := I5.of_block (b6.block _ I5.lt)
  have oD6 := oD5.below b6
  have oC6 := oC.below b6
  clear R5 oL5 I5 oD5 oC
  go_wp2_with fail
  refine (clone_ints ad' nc cd' BD 0 z w6 h20 ND.out oD6.row).mono ?_
  rintro e w6b ⟨aW, cW, BW, rfl, -, -, oW, b6b⟩
  have oL6b := oL6.below b6b
  have I6b := I6.of_block (b6b.block _ I6.lt)
  have oD6b := oD6.below b6b
  have oC6b := oC6.below b6b
  have oRb := oR.below b6b
  have wne : 0 < nc → BW ≠ BD := fun h => by have := (oW h).2.1; have := (oD6 h).2.2.lt; omega
  have WNE := hide wne
  clear wne oL6 I6 oD6 oC6 oR
  go_wp2_with fail
  refine (new_loads al' nc cl' w2.heap.size ad' cd' ac' cc' w6b).mono ?_
  rintro e w7 ⟨rfl, A7, b7⟩
  have B2 := b1.trans (b2.mono b1.size)
  have B3 := B2.trans (b3.mono B2.size)
  have B4 := B3.trans (b4.mono B3.size)
  have B5 := B4.trans (b5.mono B4.size)
  have B6 := B5.trans (b6.mono B5.size)
  have B6b := B6.trans (b6b.mono B6.size)
  have B7 := B6b.trans (b7.mono B6b.size)
  have lo3 : w0.heap.size ≤ w3.heap.size := B3.size
  have S7 : St w7 w6b.heap.size nc al' cl' Bl w2.heap.size ad' cd' BD ac' cc' BC live z closed :=
    ⟨A7, own_weaken (oL6b.below b7) (Nat.zero_le _), I6b.of_block (b7.block _ I6b.lt), own_weaken (oD6b.below b7) (Nat.zero_le _), own_weaken (oC6b.below b7) (Nat.zero_le _)⟩
  have oR7 := own_weaken (oRb.below b7) (Nat.zero_le _)
  have oW7 : Own w7 w0.heap.size aW nc BW 3 (fun i => .int .i64 (z i)) := own_weaken (oW.below b7) B6.size
  have loD : 0 < nc → w0.heap.size ≤ BD := fun h => Nat.le_trans lo3 (oD6b h).2.1
  have LOD := hide loD
  have wlt : 0 < nc → BW < w7.heap.size := fun h => (oW7 h).2.2.lt
  clear A7 oL6b I6b oD6b oC6b oRb oW B2 B3 B4 B5 B6 B6b b1 b2 b3 b4 b5 b6 b6b b7 lo3 loD wlt
  have zb : ∀ i, i < nc → 0 ≤ z i ∧ z i ≤ 1073741825 := fun i hi => ⟨(HZ.out i hi).1, by have := (HZ.out i hi).2; omega⟩
  have ZB := hide zb
  clear zb
  go_wp2_with fail
  refine (lead_any w6b.heap.size nc al' cl' Bl w2.heap.size ad' cd' BD ac' cc' BC live z closed leader ar' nr cr' BR 0 reps w7 h20 h20r A.zS A.zR ZB.out S7 oR7.row).mono ?_
  rintro e w8 ⟨s1, z1, rfl, out1, S8, k8⟩
  have oR8 := own_kept oR7 k8 (by decide) (fun h => (S7.lds h).2.2)
  have oW8 : Own w8 w0.heap.size aW nc BW 3 (fun i => .int .i64 (z i)) := fun h => ⟨(oW7 h).1, (oW7 h).2.1, (oW7 h).2.2.of_block (k8.block _ (oW7 h).2.2.lt (Or.inr (WNE.out h)))⟩
  have B8 := B7.trans (k8.below LOD.out B7.size)
  have OUT := hide out1
  clear S7 oR7 oW7 B7 k8 out1
  go_wp2_with fail
  have bA : Below w8.heap.size w8 (w8.alloc (.cells #[.string s1, .slice ar' nr cr'] 35)) := (Below.refl _ _).alloc (Nat.le_refl _) _
  have S9 := st_below S8 bA
  have oR9 := oR8.below bA
  have oW9 := oW8.below bA
  have p0 : (w8.alloc (.cells #[.string s1, .slice ar' nr cr'] 35)).cell? ⟨w8.heap.size, 0, none⟩ = some (.string s1) := by simp [World.cell?_alloc_new]
  have p1 : (w8.alloc (.cells #[.string s1, .slice ar' nr cr'] 35)).cell? ⟨w8.heap.size, 1, none⟩ = some (.slice ar' nr cr') := by simp [World.cell?_alloc_new]
  have B9 := B8.trans (bA.mono B8.size)
  have pw : 0 < nc → w8.heap.size ≠ BW := fun h => by have := (oW8 h).2.2.lt; omega
  have PW := hide pw
  clear bA S8 oR8 oW8 B8 pw
  generalize w8.alloc (.cells #[.string s1, .slice ar' nr cr'] 35) = w9 at S9 oR9 oW9 p0 p1 B9 ⊢
  refine (pos_any al' nc cl' Bl 0 live leader w9 h20 HS.out A.zL A.zS S9.liv.row).mono ?_
  rintro e w10 ⟨rfl, q2, rfl⟩
  have bq : Below w9.heap.size w9 (w9.drewN q2) := below_drewN (Below.refl _ _) _
  have S10 := st_below S9 bq
  have oR10 := oR9.below bq
  have oW10 := oW9.below bq
  have B10 := B9.trans (bq.mono B9.size)
  have p0' : (w9.drewN q2).cell? ⟨w8.heap.size, 0, none⟩ = some (.string s1) := p0
  have p1' : (w9.drewN q2).cell? ⟨w8.heap.size, 1, none⟩ = some (.slice ar' nr cr') := p1
  clear S9 oR9 oW9 p0 p1 B9 bq
  generalize w9.drewN q2 = w10 at S10 oR10 oW10 B10 p0' p1' ⊢
  rcases OUT.out with ⟨hp, rfl, rfl⟩ | ⟨hp, hb, rfl, rfl⟩ | ⟨hp, c, hb, hcn, rfl, rfl⟩
  · have hp' : ¬ pos live s1 nc < 0 := by omega
    clear OUT hp
    go_wp2_with fail
    refine (same_strings ar' ar' nr cr' cr' BR 0 BR 0 reps w10 h20r rfl oR10.row oR10.row).mono ?_
    rintro e w13 ⟨rfl, q5, rfl⟩
    go_wp2_with fail
    refine (loads_leads w6b.heap.size nc al' cl' w2.heap.size ad' cd' ac' cc' (w10.drewN q5) (S10.at_.of_block rfl (Nat.le_refl _))).mono ?_
    rintro e w14 ⟨rfl, rfl⟩
    go_wp2_with fail
    refine (same_ints ad' aW nc cd' cW BD 0 BW 0 z1 (w10.drewN q5) h20 (S10.lds.row.drewN _) (oW10.row.drewN _)).mono ?_
    rintro e w15 ⟨rfl, q6, rfl⟩
    go_wp2
    go_ret
    exact ⟨rfl, below_drewN B10 _⟩
  · clear OUT
    go_wp2_with fail
    refine (choose_any al' nc cl' Bl live aW cW BW z1 ac' cc' BC closed ar' nr cr' BR reps w10 h20 h20r HS.out A.zL A.zR S10.liv.row oW10.row S10.cls.row oR10.row).mono ?_
    rintro e w11 ⟨rfl, q3, rfl⟩
    rw [choose_best nc live z1 closed reps nr HS.out]
    have bq : Below w10.heap.size w10 (w10.drewN q3) := below_drewN (Below.refl _ _) _
    have S11 := st_below S10 bq
    have oR11 := oR10.below bq
    have oW11 := oW10.below bq
    have B11 := B10.trans (bq.mono B10.size)
    have r0 : (w10.drewN q3).cell? ⟨w8.heap.size, 0, none⟩ = some (.string ⟨#[]⟩) := p0'
    have r1 : (w10.drewN q3).cell? ⟨w8.heap.size, 1, none⟩ = some (.slice ar' nr cr') := p1'
    clear S10 oR10 oW10 p0' p1' B10 bq
    generalize w10.drewN q3 = w11 at S11 oR11 oW11 B11 r0 r1 ⊢
    have hb' : ¬ 0 ≤ best closed z1 (fun j => pos live (reps j) nc) nr := by omega
    clear hb
    go_wp2_with fail
    refine (same_strings ar' ar' nr cr' cr' BR 0 BR 0 reps w11 h20r rfl oR11.row oR11.row).mono ?_
    rintro e w13 ⟨rfl, q5, rfl⟩
    go_wp2_with fail
    refine (loads_leads w6b.heap.size nc al' cl' w2.heap.size ad' cd' ac' cc' (w11.drewN q5) (S11.at_.of_block rfl (Nat.le_refl _))).mono ?_
    rintro e w14 ⟨rfl, rfl⟩
    go_wp2_with fail
    refine (same_ints ad' aW nc cd' cW BD 0 BW 0 z1 (w11.drewN q5) h20 (S11.lds.row.drewN _) (oW11.row.drewN _)).mono ?_
    rintro e w15 ⟨rfl, q6, rfl⟩
    go_wp2
    go_ret
    exact ⟨rfl, below_drewN B11 _⟩
  · clear OUT
    go_wp2_with fail
    refine (choose_any al' nc cl' Bl live aW cW BW z ac' cc' BC closed ar' nr cr' BR reps w10 h20 h20r HS.out A.zL A.zR S10.liv.row oW10.row S10.cls.row oR10.row).mono ?_
    rintro e w11 ⟨rfl, q3, rfl⟩
    rw [choose_best nc live z closed reps nr HS.out]
    have bq : Below w10.heap.size w10 (w10.drewN q3) := below_drewN (Below.refl _ _) _
    have S11 := st_below S10 bq
    have oR11 := oR10.below bq
    have oW11 := oW10.below bq
    have B11 := B10.trans (bq.mono B10.size)
    have r0 : (w10.drewN q3).cell? ⟨w8.heap.size, 0, none⟩ = some (.string (live c)) := p0'
    have r1 : (w10.drewN q3).cell? ⟨w8.heap.size, 1, none⟩ = some (.slice ar' nr cr') := p1'
    clear S10 oR10 oW10 p0' p1' B10 bq
    generalize w10.drewN q3 = w11 at S11 oR11 oW11 B11 r0 r1 ⊢
    rw [hb]
    have hn : 0 < nc := by omega
    have hci : (c : Int) < (nc : Int) := by omega
    have hc0 : (0 : Int) ≤ (c : Int) := by omega
    obtain ⟨zlo, zhi⟩ := HZ.out c hcn
    obtain ⟨rfl, loW, rW⟩ := oW11 hn
    obtain ⟨rfl, _, rL⟩ := S11.liv hn
    obtain ⟨hadd, _, rD⟩ := S11.lds hn
    have dW : w11.cell? ⟨BW, c, none⟩ = some (.int .i64 (z c)) := rW.cell hcn
    have fW := rW.frozen c
    have lW : w11.cell? ⟨Bl, c, none⟩ = some (.string (live c)) := rL.cell hcn
    have lne : Bl ≠ BW := row_ne rL rW (by decide)
    have pne := PW.out hn
    have dne : BD ≠ BW := fun e => WNE.out hn e.symm
    have Lne : w6b.heap.size ≠ BW := fun e => by
      have := S11.at_.c0
      rw [e, rW.cell hn] at this
      simp at this
    have AT : LoadsAt (w11.setCell ⟨BW, c, none⟩ (.int .i64 (z c + 1))) w6b.heap.size nc (some ⟨Bl, 0, none⟩) cl' w2.heap.size ad' cd' ac' cc' := S11.at_.of_block (Below.heap_setCell _ _ _ _ Lne) (by simp [World.setCell])
    have LDS : Own (w11.setCell ⟨BW, c, none⟩ (.int .i64 (z c + 1))) 0 ad' nc BD 3 (fun j => .int .i64 (if j = c then z j + 1 else z j)) := fun _ => ⟨hadd, Nat.zero_le _, rD.setOther (a := ⟨BW, c, none⟩) dne _⟩
    have WNT : Own (w11.setCell ⟨BW, c, none⟩ (.int .i64 (z c + 1))) 0 (some ⟨BW, 0, none⟩) nc BW 3 (fun j => .int .i64 (if j = c then z j + 1 else z j)) := fun _ => ⟨rfl, Nat.zero_le _, row_inc rW⟩
    have oRR : Own (w11.setCell ⟨BW, c, none⟩ (.int .i64 (z c + 1))) 0 ar' nr BR 9 (fun i => .string (reps i)) := fun h => ⟨(oR11 h).1, Nat.zero_le _, (oR11 h).2.2.setOther (a := ⟨BW, c, none⟩) (row_ne (oR11 h).2.2 rW (by decide)) _⟩
    have BBB : Below w0.heap.size w0 (w11.setCell ⟨BW, c, none⟩ (.int .i64 (z c + 1))) := B11.setCell (by exact loW) _
    have HADD := hide hadd
    clear hb hadd rW rL rD S11 oW11 oR11 B11 loW
    go_wp2_with fail
    generalize w11.setCell ⟨BW, c, none⟩ (.int .i64 (z c + 1)) = w12 at AT LDS WNT oRR BBB ⊢
    refine (same_strings ar' ar' nr cr' cr' BR 0 BR 0 reps w12 h20r rfl oRR.row oRR.row).mono ?_
    rintro e w13 ⟨rfl, q5, rfl⟩
    go_wp2_with fail
    refine (loads_leads w6b.heap.size nc (some ⟨Bl, 0, none⟩) cl' w2.heap.size ad' cd' ac' cc' (w12.drewN q5) (AT.of_block rfl (Nat.le_refl _))).mono ?_
    rintro e w14 ⟨rfl, rfl⟩
    go_wp2_with fail
    refine (same_ints ad' (some ⟨BW, 0, none⟩) nc cd' cW BD 0 BW 0 (fun j => if j = c then z j + 1 else z j) (w12.drewN q5) h20 (LDS.row.drewN _) (WNT.row.drewN _)).mono ?_
    rintro e w15 ⟨rfl, q6, rfl⟩
    go_wp2
    go_ret
    exact ⟨rfl, below_drewN BBB _⟩
end Go.Proofs.Qxb6603051a.Mw
