/- The count-table law: the main walk. -/
import Derived.Test.Qxb6003329aDoorHelp
namespace Go.Proofs.Qxb6003329aDoor.Lw
open Go.RowKit
open Go.Proofs.Qxb6003329aDoor.Fm
open Go.Proofs.Qxb6003329aDoor.By
open Go.Proofs.Qxb6003329aDoor.Hp
open Go.Proofs.Qxb6003329aDoor.Ad

set_option maxRecDepth 100000 in
set_option maxHeartbeats 4000000 in
theorem law_walk (ag : Option Addr) (n cg bg og : Nat) (s : Nat → ByteArray) (an : Option Addr) (nn cn bn on : Nat) (z : Nat → Int) (ac : Option Addr) (nc cc bc oc : Nat) (c : Nat → Nat → Int) (w : World)
    (hG : Row w ag n bg og (fun i => .string (s i))) (hN : Row w an nn bn on (fun i => .int .i64 (z i))) (hC : Grid w ac nc bc oc c) (hT : Tab w) (hZ : ∀ i, i < nn → -9223372036854775808 ≤ z i ∧ z i ≤ 9223372036854775807) :
    Calls Tryd.prog 3 #[.slice ag n cg, .slice an nn cn, .slice ac nc cc] w (TrueR w) := by
  have HZ := hide hZ
  clear hZ
  go_enter Tryd.func3, Tryd.ntmps3
  go_wp2_with fail
  refine (bytes_any ag n cg bg og s an nn cn ac nc cc w hG).mono ?_
  rintro e w0 ⟨⟨r, rfl, hr⟩, rfl⟩
  cases r
  · clear hr
    go_wp2
    go_ret
    exact ⟨rfl, Below.refl _ _⟩
  have HR := hide (hr rfl)
  clear hr
  by_cases h1 : 1024 < n
  · go_wp2
    go_ret
    exact ⟨rfl, Below.refl _ _⟩
  by_cases h2 : 1024 < nn
  · go_wp2
    go_ret
    exact ⟨rfl, Below.refl _ _⟩
  by_cases h3 : 1024 < nc
  · go_wp2
    go_ret
    exact ⟨rfl, Below.refl _ _⟩
  have d1 : decide ((1024 : Int) < (n : Int)) = false := by simp; omega
  have d2 : decide ((1024 : Int) < (nn : Int)) = false := by simp; omega
  have d3 : decide ((1024 : Int) < (nc : Int)) = false := by simp; omega
  go_upto_block 0 with fail
  clear d1 d2 d3
  go_cut [7] (fun q wc => (∃ x : Int, q = .int .i64 x) ∧ wc = w0)
  case first => 
    go_wp2
    go_loop [7, 8] (fun q i => ∃ (k : Nat) (x : Int), k ≤ n ∧ i = .int .i64 k ∧ q = .int .i64 x ∧ 0 ≤ x ∧ x ≤ 1048576) (fun _ i => n - (intOf i).toNat)
    case atStart => exact ⟨0, _, Nat.zero_le _, rfl, rfl, by omega, by omega⟩
    case round =>
      obtain ⟨k, x, hk, rfl, rfl, x0, x1⟩ := hrel
      by_cases hkl : k < n
      · obtain ⟨rfl, hbl⟩ := hG.1 (by omega)
        have hcx := hG.2 k hkl
        have hz := HR.out k hkl
        by_cases hz2 : 1048576 < x + ((s k).size : Int)
        · go_wp2
          go_ret
          exact ⟨rfl, Below.refl _ _⟩
        · go_wp2
          go_round
          case rel => exact ⟨k + 1, x + ((s k).size : Int), by omega, by go_num, rfl, by omega, by omega⟩
          case measure => simp [intOf]; omega
      · go_wp2_with fail
        go_meet
        case rel => exact ⟨⟨x, rfl⟩, rfl⟩
  case rest =>
    obtain ⟨⟨x, rfl⟩, rfl⟩ := hcut
    clear HR
    by_cases hx : 1048576 < x
    · go_wp2
      go_ret
      exact ⟨rfl, Below.refl _ _⟩
    by_cases e1 : nn ≠ n
    · have e1' : ((nn : Int) == (n : Int)) = false := by rw [beq_eq_false_iff_ne]; omega
      go_wp2
      go_ret
      exact ⟨rfl, Below.refl _ _⟩
    obtain rfl : nn = n := by omega
    by_cases e2 : nc ≠ nn
    · have e2' : ((nc : Int) == (nn : Int)) = false := by rw [beq_eq_false_iff_ne]; omega
      go_wp2
      go_ret
      exact ⟨rfl, Below.refl _ _⟩
    obtain rfl : nc = nn := by omega
    clear e1 e2
    go_upto_block 2 with fail
    go_cut [] (fun w1 => Hid (∀ i, i < nc → ∀ j, j < 4 → -1099511627776 ≤ c i j ∧ c i j ≤ 1099511627776) ∧ w1 = wc)
    case first => 
      go_wp2
      go_loop [10] (fun i => ∃ k : Nat, k ≤ nc ∧ i = .int .i64 k ∧ Hid (∀ i, i < k → ∀ j, j < 4 → -1099511627776 ≤ c i j ∧ c i j ≤ 1099511627776)) (fun i => nc - (intOf i).toNat)
      case atStart => exact ⟨0, Nat.zero_le _, rfl, fun i hi => by omega⟩
      case round =>
        obtain ⟨k, hk, rfl, hb⟩ := hrel
        by_cases hkl : k < nc
        · obtain ⟨rfl, hbl⟩ := hC.1 (by omega)
          go_wp2
          go_loop [11] (fun i => ∃ (j : Nat), j ≤ 4 ∧ i = .int .i64 j ∧ Hid (∀ l, l < j → -1099511627776 ≤ c k l ∧ c k l ≤ 1099511627776)) (fun i => 4 - (intOf i).toNat)
          case atStart => exact ⟨0, by omega, rfl, fun i hi => by omega⟩
          case round =>
            obtain ⟨j, hj, rfl, hbj⟩ := hrel
            by_cases hj4 : j < 4
            · have hcx := hC.2 k hkl j hj4
              by_cases b1 : c k j < -1099511627776
              · go_wp2
                go_ret
                exact ⟨rfl, Below.refl _ _⟩
              by_cases b2 : 1099511627776 < c k j
              · go_wp2
                go_ret
                exact ⟨rfl, Below.refl _ _⟩
              go_wp2
              go_round
              case rel => exact ⟨j + 1, by omega, by go_num, fun l hl => by
                by_cases e : l = j
                · subst e; omega
                · exact hbj.out l (by omega)⟩
              case measure => simp [intOf]; omega
            · obtain rfl : j = 4 := by omega
              go_wp2
              go_round
              case rel => exact ⟨k + 1, by omega, by go_num, fun i hi => by
                by_cases e : i = k
                · subst e; exact hbj.out
                · exact hb.out i (by omega)⟩
              case measure => simp [intOf]; omega
        · obtain rfl : k = nc := by omega
          go_wp2_with fail
          go_meet
          case rel => exact ⟨hb, rfl⟩
    case rest =>
      obtain ⟨HB, rfl⟩ := hcut
      clear hx
      obtain ⟨w0, hw0⟩ : ∃ w0, w0 = wc := ⟨wc, rfl⟩
      subst hw0
      have m22 := make22 nc (by omega)
      have m23 := make23 nc (by omega)
      have m24 := make24 nc (by omega)
      go_upto_block 6 with fail
      clear m22 m23 m24
      have hst := copy_start w0 nc s z c
      generalize (((w0.alloc (.cells (madeCells #[.string ByteArray.empty] nc) 9)).alloc (.cells (madeCells #[.int .i64 0] nc) 3)).alloc (.cells (madeCells #[.int .i64 0, .int .i64 0, .int .i64 0, .int .i64 0] (nc * 4)) 26)) = w1 at hst ⊢
      go_cut [] (fun w2 => Copies w0 nc s z c w2)
      case first =>
        go_wp2
        go_loopw [16] (fun i wr => ∃ k : Nat, k ≤ nc ∧ i = .int .i64 k ∧ CopyI w0 nc k s z c wr) (fun i _ => nc - (intOf i).toNat)
        case atStart => exact ⟨0, Nat.zero_le _, rfl, hst⟩
        case round =>
          obtain ⟨k, hk, rfl, I⟩ := hrel
          by_cases hkl : k < nc
          · obtain ⟨rfl, hbg⟩ := hG.1 (by omega)
            obtain ⟨rfl, hbn⟩ := hN.1 (by omega)
            obtain ⟨rfl, hbc⟩ := hC.1 (by omega)
            have a0 := (hG.below I.be).2 k hkl
            have g0 : wr.cell? ⟨w0.heap.size, k, none⟩ = some (.string ByteArray.empty) := by simpa using I.gr.cell hkl
            have f0 := I.gr.frozen k
            go_upto_region 33 with fail
            have R0 := part_step I.gr
            have N0 := I.nr.setOther (a := ⟨w0.heap.size, k, none⟩) (by show w0.heap.size + 1 ≠ w0.heap.size; omega) (.string (s k))
            have C0 := I.cr.setOther (a := ⟨w0.heap.size, k, none⟩) (by show w0.heap.size + 1 + 1 ≠ w0.heap.size; omega) (.string (s k))
            have B0 := I.be.setCell (p := ⟨w0.heap.size, k, none⟩) (Nat.le_refl _) (.string (s k))
            clear a0 g0 f0 I
            generalize wr.setCell ⟨w0.heap.size, k, none⟩ (.string (s k)) = wr1 at R0 N0 C0 B0 ⊢
            have a1 := (hN.below B0).2 k hkl
            have g1 : wr1.cell? ⟨w0.heap.size + 1, k, none⟩ = some (.int .i64 0) := by simpa using N0.cell hkl
            have f1 := N0.frozen k
            go_upto_region 34 with fail
            have R1 := R0.setOther (a := ⟨w0.heap.size + 1, k, none⟩) (by show w0.heap.size ≠ w0.heap.size + 1; omega) (.int .i64 (z k))
            have N1 := part_step N0
            have C1 := C0.setOther (a := ⟨w0.heap.size + 1, k, none⟩) (by show w0.heap.size + 1 + 1 ≠ w0.heap.size + 1; omega) (.int .i64 (z k))
            have B1 := B0.setCell (p := ⟨w0.heap.size + 1, k, none⟩) (by show w0.heap.size ≤ w0.heap.size + 1; omega) (.int .i64 (z k))
            clear a1 g1 f1 R0 N0 C0 B0
            generalize wr1.setCell ⟨w0.heap.size + 1, k, none⟩ (.int .i64 (z k)) = wr2 at R1 N1 C1 B1 ⊢
            have c0 : wr2.cell? ⟨bc, oc + k * 4, none⟩ = some (.int .i64 (c k 0)) := (hC.below B1).2 k hkl 0 (by omega)
            have c1 := (hC.below B1).2 k hkl 1 (by omega)
            have c2 := (hC.below B1).2 k hkl 2 (by omega)
            have c3 := (hC.below B1).2 k hkl 3 (by omega)
            have g0 : wr2.cell? ⟨w0.heap.size + 1 + 1, k * 4, none⟩ = some (.int .i64 0) := by simpa using C1.cell (i := k * 4) (by omega)
            have v0 : fl c (k * 4) = .int .i64 (c k 0) := fl_at c k 0 (by omega)
            have v1 : fl c (k * 4 + 1) = .int .i64 (c k 1) := fl_at c k 1 (by omega)
            have v2 : fl c (k * 4 + 2) = .int .i64 (c k 2) := fl_at c k 2 (by omega)
            have v3 : fl c (k * 4 + 3) = .int .i64 (c k 3) := fl_at c k 3 (by omega)
            have D1 := part_step (f := fl c) C1
            rw [v0] at D1
            have D2 := part_step (f := fl c) D1
            rw [v1] at D2
            have D3 := part_step (f := fl c) (k := k * 4 + 2) D2
            rw [v2] at D3
            have D4 := part_step (f := fl c) (k := k * 4 + 3) D3
            rw [v3] at D4
            clear v0 v1 v2 v3
            have f0 := C1.frozen (k * 4)
            have f1 := D1.frozen (k * 4 + 1)
            have f2 := D2.frozen (k * 4 + 2)
            have f3 := D3.frozen (k * 4 + 3)
            have g1 := D1.cell (i := k * 4 + 1) (by omega)
            have g2 := D2.cell (i := k * 4 + 2) (by omega)
            have g3 := D3.cell (i := k * 4 + 3) (by omega)
            rw [if_neg (by omega)] at g1 g2 g3
            have R2 := ((((R1.setOther (a := ⟨w0.heap.size + 1 + 1, k * 4, none⟩) (by show w0.heap.size ≠ w0.heap.size + 1 + 1; omega) (.int .i64 (c k 0))).setOther (a := ⟨w0.heap.size + 1 + 1, k * 4 + 1, none⟩) (by show w0.heap.size ≠ w0.heap.size + 1 + 1; omega) (.int .i64 (c k 1))).setOther (a := ⟨w0.heap.size + 1 + 1, k * 4 + 2, none⟩) (by show w0.heap.size ≠ w0.heap.size + 1 + 1; omega) (.int .i64 (c k 2))).setOther (a := ⟨w0.heap.size + 1 + 1, k * 4 + 3, none⟩) (by show w0.heap.size ≠ w0.heap.size + 1 + 1; omega) (.int .i64 (c k 3)))
            have N2 := ((((N1.setOther (a := ⟨w0.heap.size + 1 + 1, k * 4, none⟩) (by show w0.heap.size + 1 ≠ w0.heap.size + 1 + 1; omega) (.int .i64 (c k 0))).setOther (a := ⟨w0.heap.size + 1 + 1, k * 4 + 1, none⟩) (by show w0.heap.size + 1 ≠ w0.heap.size + 1 + 1; omega) (.int .i64 (c k 1))).setOther (a := ⟨w0.heap.size + 1 + 1, k * 4 + 2, none⟩) (by show w0.heap.size + 1 ≠ w0.heap.size + 1 + 1; omega) (.int .i64 (c k 2))).setOther (a := ⟨w0.heap.size + 1 + 1, k * 4 + 3, none⟩) (by show w0.heap.size + 1 ≠ w0.heap.size + 1 + 1; omega) (.int .i64 (c k 3)))
            have B2 := ((((B1.setCell (p := ⟨w0.heap.size + 1 + 1, k * 4, none⟩) (by show w0.heap.size ≤ w0.heap.size + 1 + 1; omega) (.int .i64 (c k 0))).setCell (p := ⟨w0.heap.size + 1 + 1, k * 4 + 1, none⟩) (by show w0.heap.size ≤ w0.heap.size + 1 + 1; omega) (.int .i64 (c k 1))).setCell (p := ⟨w0.heap.size + 1 + 1, k * 4 + 2, none⟩) (by show w0.heap.size ≤ w0.heap.size + 1 + 1; omega) (.int .i64 (c k 2))).setCell (p := ⟨w0.heap.size + 1 + 1, k * 4 + 3, none⟩) (by show w0.heap.size ≤ w0.heap.size + 1 + 1; omega) (.int .i64 (c k 3)))
            have J : CopyI w0 nc (k + 1) s z c _ := ⟨R2, N2, D4.congr (fun q _ => by rw [show k * 4 + 3 + 1 = (k + 1) * 4 by omega]), B2⟩
            clear D1 D2 D3 D4 C1 R1 N1 B1 R2 N2 B2
            go_wp2
            go_roundw
            case rel => exact ⟨k + 1, by omega, by go_num, J⟩
            case measure => simp [intOf]; omega
          · obtain rfl : k = nc := by omega
            go_wp2_with fail
            go_meet
            case rel => exact I.done
      case rest =>
        have C2 := hcut
        clear hst hG hN hC hcut
        go_wp2_with fail
        refine (Dn.new_any wc w0.heap.size C2.be.size (rw6 s z c)).mono ?_
        rintro e w3 ⟨rfl, S3, b3⟩
        have C3 := C2.later b3
        have hlt : w0.heap.size + 1 + 1 < wc.heap.size := C2.cr.lt
        have hTV : wc.heap.size < w3.heap.size := S3.lt
        clear C2 b3
        go_upto_block 8 with fail
        have M0 := main_start S3 C3
        clear S3 C3
        generalize w3.alloc (.cells #[.int .i64 0, .int .i64 0, .int .i64 0, .int .i64 0] 26) = w4 at M0 ⊢
        generalize w3.heap.size = V at hTV M0 ⊢
        generalize wc.heap.size = T at hTV hlt M0 ⊢
        go_cut [] (fun w5 => MainI w0 T V nc nc s z c w5)
        case first =>
          go_wp2
          go_loopw [19] (fun i wr => ∃ k : Nat, k ≤ nc ∧ i = .int .i64 k ∧ MainI w0 T V nc k s z c wr) (fun i _ => nc - (intOf i).toNat)
          case atStart => exact ⟨0, Nat.zero_le _, rfl, M0⟩
          case round =>
            obtain ⟨k, hk, rfl, M⟩ := hrel
            by_cases hkl : k < nc
            · obtain ⟨v, xs, S1, V1, C1⟩ := M
              have cs := C1.cells hkl
              go_upto_region 40 with fail
              go_region_held3 (fun w' => w'.cell? ⟨w0.heap.size, k, none⟩ = some (.string (s k)) ∧ w'.cell? ⟨w0.heap.size + 1, k, none⟩ = some (.int .i64 (z k)) ∧ w'.cell? ⟨w0.heap.size + 1 + 1, k * 4, none⟩ = some (.int .i64 (c k 0)) ∧ w'.cell? ⟨w0.heap.size + 1 + 1, k * 4 + 1, none⟩ = some (.int .i64 (c k 1)) ∧ w'.cell? ⟨w0.heap.size + 1 + 1, k * 4 + 2, none⟩ = some (.int .i64 (c k 2)) ∧ w'.cell? ⟨w0.heap.size + 1 + 1, k * 4 + 3, none⟩ = some (.int .i64 (c k 3)))
                (first | assumption | exact C1.cells hkl | exact C1.drew.cells hkl | exact C6.cells hkl)
                (first | (go_at_call 6; refine (Dn.zadd_any w0.heap.size T v xs k (rw6 s z c) (fun j => sm c k j) (s k) (z k) (fun j => c k j) _ (by first | exact S1 | exact st_drew S1) (hT.below (by first | exact C1.be | exact C1.be.drew)) (by first | exact C1.be.size) (HZ.out k hkl).1 (HZ.out k hkl).2 (fun j hj => by have := HB.out k hkl j hj; omega) (by omega) (fun j hj => sm_small (by omega) HB.out j hj k hk) (fun j hj => HB.out k hkl j hj)).mono ?_; rintro e w6 ⟨rfl, v6, xs6, S6, K6⟩; have C6 := (by first | exact C1.kept hlt K6 | exact C1.drew.kept hlt K6 : Copies w0 nc s z c w6); have V6 : w6.rowIs V 26 4 (fun j => .int .i64 (sm c k j)) := kp_row K6 V1 (by omega) (by decide)))
              have S7 : St w6 w0.heap.size T v6 xs6 (k + 1) (rw6 s z c) (sm c (k + 1) 0) (sm c (k + 1) 1) (sm c (k + 1) 2) (sm c (k + 1) 3) := by
                have h := S6
                rw [show [Value.string (s k), .string (S (z k)), .string (S (c k 0)), .string (S (c k 1)), .string (S (c k 2)), .string (S (c k 3))] = rw6 s z c k from rfl, more_self] at h
                exact h
              clear S6 K6 cs C1 S1 V1
              go_wp2
              go_loopw [20] (fun i wq => ∃ j : Nat, j ≤ 4 ∧ i = .int .i64 j ∧ St wq w0.heap.size T v6 xs6 (k + 1) (rw6 s z c) (sm c (k + 1) 0) (sm c (k + 1) 1) (sm c (k + 1) 2) (sm c (k + 1) 3) ∧ wq.rowIs V 26 4 (fun l => if l < j then .int .i64 (sm c (k + 1) l) else .int .i64 (sm c k l)) ∧ Copies w0 nc s z c wq) (fun i _ => 4 - (intOf i).toNat)
              case atStart => exact ⟨0, by omega, rfl, S7, V6.congr (fun l _ => by simp), C6⟩
              case round =>
                obtain ⟨j, hj, rfl, S8, V8, C8⟩ := hrel
                by_cases hj4 : j < 4
                · have q1 := V8.cell hj4
                  rw [if_neg (by omega)] at q1
                  have q2 := V8.frozen j
                  have q3 := C8.cellc hkl hj4
                  obtain ⟨z1, z2⟩ := sm_small (n := nc) (by omega) HB.out j hj4 k hk
                  obtain ⟨z3, z4⟩ := HB.out k hkl j hj4
                  have S9 := st_other (a := j) (x := .int .i64 (sm c k j + c k j)) S8 V8
                  have V9 := sum_step V8
                  have C9 := C8.other (V := V) (a := j) (by omega) (.int .i64 (sm c k j + c k j))
                  clear S8 V8 C8
                  go_wp2
                  go_region
                  all_goals
                    go_wp2
                    go_roundw
                    case rel => exact ⟨j + 1, by omega, by go_num, st_drew S9, V9, C9.drew⟩
                    case measure => simp [intOf]; omega
                · obtain rfl : j = 4 := by omega
                  go_wp2
                  go_roundw
                  case rel => exact ⟨k + 1, by omega, by go_num, v6, xs6, S8, V8.congr (fun l hl => by simp [hl]), C8⟩
                  case measure => simp [intOf]; omega
            · obtain rfl : k = nc := by omega
              go_wp2_with fail
              go_meet
              case rel => exact M
        case rest =>
          obtain ⟨v, xs, S1, V1, C1⟩ := hcut
          clear M0
          have n26 := neq26 (sm c nc 0) (sm c nc 1) (sm c nc 2) (sm c nc 3)
          have g26 := eg26
          go_upto_region 45 with fail
          go_region_held3 (fun w' => w'.cell? ⟨V, 0, none⟩ = some (.int .i64 (sm c nc 0)) ∧ w'.cell? ⟨V, 1, none⟩ = some (.int .i64 (sm c nc 1)) ∧ w'.cell? ⟨V, 2, none⟩ = some (.int .i64 (sm c nc 2)) ∧ w'.cell? ⟨V, 3, none⟩ = some (.int .i64 (sm c nc 3)))
            (first | assumption | exact vcells V1 | exact vcells V1.drew | exact vcells V6)
            (first | (go_at_call 7; refine (Dn.total_any w0.heap.size T v xs nc (rw6 s z c) (fun j => sm c nc j) _ (by first | exact S1 | exact st_drew S1)).mono ?_; rintro e w6 ⟨rfl, b6⟩; have S6 := (by first | exact st_below S1 b6 | exact st_below (st_drew S1) b6 : St w6 w0.heap.size T v xs nc (rw6 s z c) (sm c nc 0) (sm c nc 1) (sm c nc 2) (sm c nc 3)); have C6 := (by first | exact C1.later b6 | exact C1.drew.later b6 : Copies w0 nc s z c w6); have V6 := V1.of_block (b6.block _ V1.lt)))
          all_goals
            clear n26 g26 S1 V1 C1 b6
            go_wp2_with fail
            refine (Dn.zdone_any w0.heap.size T v xs nc (rw6 s z c) (fun j => sm c nc j) w6 S6 (hT.below C6.be) C6.be.size (fun j hj => by have := sm_small (n := nc) (by omega) HB.out j hj nc (Nat.le_refl _); omega) (by omega)).mono ?_
            rintro e w7 ⟨g, cap, xs7, rfl, R7, K7⟩
            have H7 : Chk w0 V nc s z c g cap xs7 w7 := ⟨R7, kp_row K7 V6 (by omega) (by decide), C6.kept hlt K7⟩
            clear S6 C6 V6 R7 K7
            go_upto_block 12 with fail
            go_cut [] (fun w8 => Chk w0 V nc s z c g cap xs7 w8)
            case first =>
              go_wp2
              go_loopw [22] (fun i wr => ∃ k : Nat, k ≤ nc ∧ i = .int .i64 k ∧ Chk w0 V nc s z c g cap xs7 wr) (fun i _ => nc - (intOf i).toNat)
              case atStart => exact ⟨0, Nat.zero_le _, rfl, H7⟩
              case round =>
                obtain ⟨k, hk, rfl, H8⟩ := hrel
                by_cases hkl : k < nc
                · obtain ⟨hh, ch, p0, p1, p2, p3⟩ := H8.row hkl
                  have P3 := hide p3
                  clear p3
                  obtain ⟨t0, t1, -⟩ := H8.co.cells hkl
                  go_upto_region 54 with fail
                  go_quiet (fail)
                  have H9 := H8.drewN nq
                  clear p0 p1 H8 t0
                  have p2' : (wr.drewN nq).cell? ⟨hh, 1, none⟩ = some (.string (S (z k))) := p2
                  have t1' : (wr.drewN nq).cell? ⟨w0.heap.size + 1, k, none⟩ = some (.int .i64 (z k)) := t1
                  have P3' : Hid (∀ j, j < 4 → (wr.drewN nq).cell? ⟨hh, 2 + j, none⟩ = some (.string (S (c k j)))) := P3.out
                  clear p2 t1 P3
                  generalize wr.drewN nq = w9 at H9 p2' t1' P3' ⊢
                  go_wp2_with fail
                  refine (Pr.parse_any (z k) (HZ.out k hkl).1 (HZ.out k hkl).2 w9).mono ?_
                  rintro e w10 ⟨rfl, rfl⟩
                  go_wp2
                  go_loop [26] (fun i => ∃ j : Nat, j ≤ 4 ∧ i = .int .i64 j) (fun i => 4 - (intOf i).toNat)
                  case atStart => exact ⟨0, by omega, rfl⟩
                  case round =>
                    obtain ⟨j, hj, rfl⟩ := hrel
                    by_cases hj4 : j < 4
                    · have a1 := P3'.out j hj4
                      have a2 := H9.co.cellc hkl hj4
                      obtain ⟨z3, z4⟩ := HB.out k hkl j hj4
                      go_wp2_with fail
                      refine (Pr.parse_any (c k j) (by omega) (by omega) _).mono ?_
                      rintro e w11 ⟨rfl, rfl⟩
                      go_wp2
                      go_round
                      case rel => exact ⟨j + 1, by omega, by go_num⟩
                      case measure => simp [intOf]; omega
                    · obtain rfl : j = 4 := by omega
                      go_wp2
                      go_roundw
                      case rel => exact ⟨k + 1, by omega, by go_num, H9⟩
                      case measure => simp [intOf]; omega
                · obtain rfl : k = nc := by omega
                  go_wp2_with fail
                  go_meet
                  case rel => exact H8
            case rest =>
              obtain ⟨hh, ch, p0, p1, p2, p3⟩ := hcut.last
              have P3 := hide p3
              clear p3
              have H9 := hcut
              clear hcut
              go_wp2
              go_loop [30] (fun i => ∃ j : Nat, j ≤ 4 ∧ i = .int .i64 j) (fun i => 4 - (intOf i).toNat)
              case atStart => exact ⟨0, by omega, rfl⟩
              case round =>
                obtain ⟨j, hj, rfl⟩ := hrel
                by_cases hj4 : j < 4
                · have a1 := P3.out j hj4
                  have a2 := H9.vr.cell hj4
                  obtain ⟨z3, z4⟩ := sm_small (n := nc) (by omega) HB.out j hj4 nc (Nat.le_refl _)
                  go_wp2_with fail
                  refine (Pr.parse_any (sm c nc j) (by omega) (by omega) _).mono ?_
                  rintro e w11 ⟨rfl, rfl⟩
                  go_wp2
                  go_round
                  case rel => exact ⟨j + 1, by omega, by go_num⟩
                  case measure => simp [intOf]; omega
                · obtain rfl : j = 4 := by omega
                  go_wp2
                  go_ret
                  exact ⟨rfl, H9.co.be⟩
end Go.Proofs.Qxb6003329aDoor.Lw
