/- The Lead laws: the method Lead. -/
import Derived.Test.Qxb6603051aIndex
namespace Go.Proofs.Qxb6603051a.Ld
open Go.RowKit Go.Maps
open Go.Proofs.Qxb6603051a.Pl
open Go.Proofs.Qxb6603051a.Sm
open Go.Proofs.Qxb6603051a.Md
open Go.Proofs.Qxb6603051a.Ix

/-- What the method is told of the world: the loads, and what their fields lead to. -/
structure St (w : World) (L n : Nat) (al : Option Addr) (cl Bl BI : Nat) (ad : Option Addr) (cd BD : Nat) (ac : Option Addr) (cc BC : Nat) (live : Nat → ByteArray) (leads : Nat → Int) (closed : Nat → Bool) : Prop where
  at_ : LoadsAt w L n al cl BI ad cd ac cc
  liv : Own w 0 al n Bl 9 (fun i => .string (live i))
  idx : IndexIs w BI live n
  lds : Own w 0 ad n BD 3 (fun i => .int .i64 (leads i))
  cls : Own w 0 ac n BC 4 (fun i => .bool (closed i))

/-- The placement's box, and the room for the result. -/
def boxed (w : World) (leader : ByteArray) (ar : Option Addr) (nr cr : Nat) : World :=
  (w.alloc (.cells #[.string leader, .slice ar nr cr] 35)).alloc (.cells #[.string ⟨#[]⟩, .slice none 0 0] 35)

theorem boxed_below (w : World) (leader : ByteArray) (ar : Option Addr) (nr cr : Nat) : Below w.heap.size w (boxed w leader ar nr cr) :=
  ((Below.refl _ _).alloc (Nat.le_refl _) _).alloc (by simp) _

theorem boxed_look {w : World} {BI n : Nat} {live : Nat → ByteArray} (h : IndexIs w BI live n) (leader : ByteArray) (ar : Option Addr) (nr cr : Nat) (s : ByteArray) (hs : s.size ≤ maxLen) (nq : Nat) :
    (Instr.lookup 23 (.map (some BI)) (.string s) true).run Try.prog ((boxed w leader ar nr cr).drewN nq) = .ok (.tuple #[.int .i64 (if 0 ≤ pos live s n then pos live s n else 0), .bool (decide (0 ≤ pos live s n))]) ((boxed w leader ar nr cr).drewN nq) := by
  have hI : IndexIs ((boxed w leader ar nr cr).drewN nq) BI live n := h.of_block ((boxed_below w leader ar nr cr).block _ h.lt)
  exact hI.look s hs

set_option maxRecDepth 100000 in
set_option maxHeartbeats 1000000 in
theorem lead_live (L n : Nat) (al : Option Addr) (cl Bl BI : Nat) (ad : Option Addr) (cd BD : Nat) (ac : Option Addr) (cc BC : Nat) (live : Nat → ByteArray) (leads : Nat → Int) (closed : Nat → Bool)
    (leader : ByteArray) (ar : Option Addr) (nr cr : Nat) (w : World) (hs : leader.size ≤ maxLen) (S : St w L n al cl Bl BI ad cd BD ac cc BC live leads closed) (hp : 0 ≤ pos live leader n) :
    Calls Try.prog 16 #[.pointer (some ⟨L, 0, none⟩), .agg #[.string leader, .slice ar nr cr]] w fun e w' => e = .returned (.agg #[.string leader, .slice ar nr cr]) ∧ Below w.heap.size w w' := by
  have hL := S.at_.lt
  have hL1 : L < w.heap.size + 1 := by omega
  have c1 := S.at_.c1
  have hlk : ∀ nq, (Instr.lookup 23 (.map (some BI)) (.string leader) true).run Try.prog ((boxed w leader ar nr cr).drewN nq) = .ok (.tuple #[.int .i64 (pos live leader n), .bool true]) ((boxed w leader ar nr cr).drewN nq) := fun nq => by
    simpa [hp] using boxed_look S.idx leader ar nr cr leader hs nq
  unfold boxed at hlk
  have HP := hide hp
  clear hp
  go_enter Try.func16, Try.ntmps16
  go_wp2
  go_quiet (fail)
  go_wp2
  exact bodyPost_ret (v := .agg #[.string leader, .slice ar nr cr]) (by simp [results, Try.results16, go_sem]) rfl ⟨rfl, ((below_drewN (boxed_below w leader ar nr cr) _).setCell (by show w.heap.size ≤ w.heap.size + 1; omega) _).setCell (by show w.heap.size ≤ w.heap.size + 1; omega) _⟩

/-- How the method ends where the leader is not live. -/
def LeadR (w : World) (n BD : Nat) (live : Nat → ByteArray) (leads : Nat → Int) (best : Int) (ar : Option Addr) (nr cr : Nat) (e : Ending) (w' : World) : Prop :=
  (best < 0 ∧ e = .returned (.agg #[.string ⟨#[]⟩, .slice ar nr cr]) ∧ Below w.heap.size w w') ∨
  ∃ c : Nat, best = c ∧ c < n ∧ e = .returned (.agg #[.string (live c), .slice ar nr cr]) ∧ w.grownBy w' (some BD) ∧ w'.rowIs BD 3 n (fun j => .int .i64 (if j = c then leads j + 1 else leads j))

theorem best_step_no {closed : Nat → Bool} {leads p : Nat → Int} {k : Nat} (h : p k < 0) : best closed leads p (k + 1) = best closed leads p k := by
  conv => lhs; unfold best
  rw [if_neg (fun h' => by omega)]
theorem best_step_first {closed : Nat → Bool} {leads p : Nat → Int} {k : Nat} (h : 0 ≤ p k) (hb : best closed leads p k < 0) : best closed leads p (k + 1) = p k := by
  conv => lhs; unfold best
  rw [if_pos ⟨h, Or.inl hb⟩]
theorem best_step_yes {closed : Nat → Bool} {leads p : Nat → Int} {k a b : Nat} (h : p k = a) (hb : best closed leads p k = b) (he : eb closed leads a b = true) : best closed leads p (k + 1) = a := by
  conv => lhs; unfold best
  rw [if_pos ⟨by omega, Or.inr (by rw [h, hb]; simpa using he)⟩, h]
theorem best_step_not {closed : Nat → Bool} {leads p : Nat → Int} {k a b : Nat} (h : p k = a) (hb : best closed leads p k = b) (he : eb closed leads a b = false) : best closed leads p (k + 1) = b := by
  conv => lhs; unfold best
  rw [if_neg (fun h' => by
    rcases h'.2 with h2 | h2
    · omega
    · rw [h, hb] at h2; simp [he] at h2), hb]

theorem gb_refl (w : World) (row : Option Nat) : w.grownBy w row := ⟨rfl, rfl, rfl, Nat.le_refl _, fun _ _ _ => rfl⟩
theorem gb_below {w w' : World} (h : Below w.heap.size w w') (row : Option Nat) : w.grownBy w' row := ⟨h.os, h.tape, h.output, h.size, fun k hk _ => h.block k hk⟩
theorem gb_set {w w' : World} {BD : Nat} (h : w.grownBy w' (some BD)) (a : Addr) (v : Value) (ha : w.heap.size ≤ a.block ∨ a.block = BD) : w.grownBy (w'.setCell a v) (some BD) :=
  ⟨h.os, h.tape, h.output, by simpa [World.setCell] using h.size, fun k hk hne => by
    rw [Below.heap_setCell _ _ _ _ (by rcases ha with ha | ha; (· omega); (· rw [ha]; exact fun e => hne (by rw [e])))]
    exact h.block k hk hne⟩

theorem row_inc {w : World} {BD n c : Nat} {leads : Nat → Int} (h : w.rowIs BD 3 n (fun i => .int .i64 (leads i))) : (w.setCell ⟨BD, c, none⟩ (.int .i64 (leads c + 1))).rowIs BD 3 n (fun j => .int .i64 (if j = c then leads j + 1 else leads j)) :=
  (h.set c _).congr fun j _ => by
    by_cases e : j = c
    · subst e; simp
    · simp [e]

theorem row_ne {w : World} {b b' t t' n n' : Nat} {f f' : Nat → Value} (h : w.rowIs b t n f) (h' : w.rowIs b' t' n' f') (ht : t ≠ t') : b ≠ b' := by
  rintro rfl
  obtain ⟨c, hc, _⟩ := h
  obtain ⟨c', hc', _⟩ := h'
  rw [hc] at hc'
  simp only [Option.some.injEq, Obj.cells.injEq] at hc'
  exact ht hc'.2.1

theorem lead_end {w W : World} {BD n c : Nat} {leads : Nat → Int} (hb : Below w.heap.size w W) (hrow : w.rowIs BD 3 n (fun i => .int .i64 (leads i))) (v1 v2 v3 v4 : Value) :
    w.grownBy (((((W.setCell ⟨w.heap.size, 0, none⟩ v1).setCell ⟨BD, c, none⟩ (.int .i64 (leads c + 1))).setCell ⟨w.heap.size, 0, none⟩ v2).setCell ⟨w.heap.size + 1, 0, none⟩ v3).setCell ⟨w.heap.size + 1, 1, none⟩ v4) (some BD) ∧
    (((((W.setCell ⟨w.heap.size, 0, none⟩ v1).setCell ⟨BD, c, none⟩ (.int .i64 (leads c + 1))).setCell ⟨w.heap.size, 0, none⟩ v2).setCell ⟨w.heap.size + 1, 0, none⟩ v3).setCell ⟨w.heap.size + 1, 1, none⟩ v4).rowIs BD 3 n (fun j => .int .i64 (if j = c then leads j + 1 else leads j)) := by
  have hlt := hrow.lt
  have h0 : BD ≠ w.heap.size := by omega
  have h1 : BD ≠ w.heap.size + 1 := by omega
  have n0 : w.heap.size ≤ w.heap.size + 1 := by omega
  refine ⟨gb_set (gb_set (gb_set (gb_set (gb_set (gb_below hb _) _ _ (Or.inl (Nat.le_refl _))) _ _ (Or.inr rfl)) _ _ (Or.inl (Nat.le_refl _))) _ _ (Or.inl n0)) _ _ (Or.inl n0), ?_⟩
  have r := hrow.of_block (hb.block _ hlt)
  exact (((row_inc (r.setOther (a := ⟨w.heap.size, 0, none⟩) h0 v1)).setOther (a := ⟨w.heap.size, 0, none⟩) h0 v2).setOther (a := ⟨w.heap.size + 1, 0, none⟩) h1 v3).setOther (a := ⟨w.heap.size + 1, 1, none⟩) h1 v4

set_option maxRecDepth 100000 in
set_option maxHeartbeats 2000000 in
theorem lead_dead (L n : Nat) (al : Option Addr) (cl Bl BI : Nat) (ad : Option Addr) (cd BD : Nat) (ac : Option Addr) (cc BC : Nat) (live : Nat → ByteArray) (leads : Nat → Int) (closed : Nat → Bool)
    (leader : ByteArray) (ar : Option Addr) (nr cr br or : Nat) (reps : Nat → ByteArray) (w : World) (h20 : n ≤ 1048576) (h20r : nr ≤ 1048576) (hs : leader.size ≤ maxLen) (hrs : ∀ i, i < nr → (reps i).size ≤ maxLen)
    (hlb : ∀ i, i < n → 0 ≤ leads i ∧ leads i ≤ 1073741825)
    (S : St w L n al cl Bl BI ad cd BD ac cc BC live leads closed) (hrr : Row w ar nr br or (fun i => .string (reps i))) (hp : pos live leader n < 0) :
    Calls Try.prog 16 #[.pointer (some ⟨L, 0, none⟩), .agg #[.string leader, .slice ar nr cr]] w (LeadR w n BD live leads (best closed leads (fun j => pos live (reps j) n) nr) ar nr cr) := by
  have hL := S.at_.lt
  have hL1 : L < w.heap.size + 1 := by omega
  have c1 := S.at_.c1
  have hlk : ∀ nq, (Instr.lookup 23 (.map (some BI)) (.string leader) true).run Try.prog ((boxed w leader ar nr cr).drewN nq) = .ok (.tuple #[.int .i64 0, .bool false]) ((boxed w leader ar nr cr).drewN nq) := fun nq => by
    have hp' : ¬ 0 ≤ pos live leader n := by omega
    simpa [hp'] using boxed_look S.idx leader ar nr cr leader hs nq
  unfold boxed at hlk
  have HP := hide hp
  have HRS := hide hrs
  have HLB := hide hlb
  have HRR := hide hrr
  clear hp hrs hlb hrr
  go_enter Try.func16, Try.ntmps16
  go_wp2
  go_quiet (fail)
  go_wp2
  clear hlk
  go_loopw [7, 27] (fun b i wr => ∃ k q : Nat, k ≤ nr ∧ i = .int .i64 k ∧ b = .int .i64 (best closed leads (fun j => pos live (reps j) n) k) ∧ wr = (boxed w leader ar nr cr).drewN q) (fun _ i _ => nr - (intOf i).toNat)
  case atStart => exact ⟨0, _, Nat.zero_le _, rfl, rfl, rfl⟩
  case round =>
    obtain ⟨k, q, hk, rfl, rfl, rfl⟩ := hrel
    by_cases hkl : k < nr
    · obtain ⟨rfl, hbr⟩ := HRR.out.1 (by omega)
      have hbr1 : br < w.heap.size + 1 := by omega
      have hcx := HRR.out.2 k hkl
      have hlk := boxed_look S.idx leader (some ⟨br, or, none⟩) nr cr (reps k) (HRS.out k hkl)
      have hpr := pos_range live (reps k) n
      by_cases hpk : 0 ≤ pos live (reps k) n
      · obtain ⟨a, ha⟩ : ∃ a : Nat, pos live (reps k) n = (a : Int) := ⟨(pos live (reps k) n).toNat, by omega⟩
        have han : a < n := by omega
        have hlk' : ∀ nq, (Instr.lookup 23 (.map (some BI)) (.string (reps k)) true).run Try.prog ((boxed w leader (some ⟨br, or, none⟩) nr cr).drewN nq) = .ok (.tuple #[.int .i64 a, .bool true]) ((boxed w leader (some ⟨br, or, none⟩) nr cr).drewN nq) := fun nq => by
          have := hlk nq
          rw [if_pos hpk, ha] at this
          simpa using this
        have HA := hide ha
        clear hlk hpr hpk ha
        by_cases hb0 : best closed leads (fun j => pos live (reps j) n) k < 0
        · have HB : Hid (best closed leads (fun j => pos live (reps j) n) (k + 1) = (a : Int)) := (best_step_first (by show 0 ≤ pos live (reps k) n; rw [HA.out]; omega) hb0).trans HA.out
          unfold boxed at hlk' ⊢
          go_wp2
          go_roundw
          case rel => exact ⟨k + 1, q, by omega, by go_num, by rw [HB.out], rfl⟩
          case measure => simp [intOf]; omega
        · have hbr2 := best_range (closed := closed) (leads := leads) (p := fun j => pos live (reps j) n) (n := n) (by omega) (fun j => pos_range live (reps j) n) k
          obtain ⟨b, hb⟩ : ∃ b : Nat, best closed leads (fun j => pos live (reps j) n) k = (b : Int) := ⟨(best closed leads (fun j => pos live (reps j) n) k).toNat, by omega⟩
          have hbn : b < n := by omega
          have hnb : ¬ (b : Int) < 0 := by omega
          have hbel := below_drewN (boxed_below w leader (some ⟨br, or, none⟩) nr cr) q
          have E := elected L n al cl BI ad cd BD ac cc BC leads closed a b ((boxed w leader (some ⟨br, or, none⟩) nr cr).drewN q) han hbn (S.at_.of_block (hbel.block _ hL) hbel.size) (S.lds.row.below hbel) (S.cls.row.below hbel)
          have HE' := hide E
          clear E hbel
          cases he : eb closed leads a b
          · have HB : Hid (best closed leads (fun j => pos live (reps j) n) (k + 1) = (b : Int)) := best_step_not HA.out hb he
            have HE := hide he
            clear he
            rw [hb]
            have HB0 := hide hb
            clear hb hb0 hbr2
            unfold boxed at hlk' HE' ⊢
            go_wp2_with fail
            refine HE'.out.mono ?_
            rintro e w' ⟨rfl, q', rfl⟩
            rw [HE.out]
            go_wp2
            go_roundw
            case rel => exact ⟨k + 1, q + q', by omega, by go_num, by rw [HB.out], by rw [← dd]⟩
            case measure => simp [intOf]; omega
          · have HB : Hid (best closed leads (fun j => pos live (reps j) n) (k + 1) = (a : Int)) := best_step_yes HA.out hb he
            have HE := hide he
            clear he
            rw [hb]
            have HB0 := hide hb
            clear hb hb0 hbr2
            unfold boxed at hlk' HE' ⊢
            go_wp2_with fail
            refine HE'.out.mono ?_
            rintro e w' ⟨rfl, q', rfl⟩
            rw [HE.out]
            go_wp2
            go_roundw
            case rel => exact ⟨k + 1, q + q', by omega, by go_num, by rw [HB.out], by rw [← dd]⟩
            case measure => simp [intOf]; omega
      · have HB : Hid (best closed leads (fun j => pos live (reps j) n) (k + 1) = best closed leads (fun j => pos live (reps j) n) k) := best_step_no (by show pos live (reps k) n < 0; omega)
        have hlk' : ∀ nq, (Instr.lookup 23 (.map (some BI)) (.string (reps k)) true).run Try.prog ((boxed w leader (some ⟨br, or, none⟩) nr cr).drewN nq) = .ok (.tuple #[.int .i64 0, .bool false]) ((boxed w leader (some ⟨br, or, none⟩) nr cr).drewN nq) := fun nq => by
          simpa [hpk] using hlk nq
        clear hlk hpr hpk
        unfold boxed at hlk' ⊢
        go_wp2
        go_roundw
        case rel => exact ⟨k + 1, q, by omega, by go_num, by rw [HB.out], rfl⟩
        case measure => simp [intOf]; omega
    · obtain rfl : k = nr := by omega
      clear hkl
      have hbel := below_drewN (boxed_below w leader ar k cr) q
      have hbr2 := best_range (closed := closed) (leads := leads) (p := fun j => pos live (reps j) n) (n := n) (by omega) (fun j => pos_range live (reps j) n) k
      by_cases hb0 : best closed leads (fun j => pos live (reps j) n) k < 0
      · have fin : Below w.heap.size w (((((boxed w leader ar k cr).drewN q).setCell ⟨w.heap.size, 0, none⟩ (.string ⟨#[]⟩)).setCell ⟨w.heap.size + 1, 0, none⟩ (.string ⟨#[]⟩)).setCell ⟨w.heap.size + 1, 1, none⟩ (.slice ar k cr)) :=
          ((hbel.setCell (Nat.le_refl _) _).setCell (by show w.heap.size ≤ w.heap.size + 1; omega) _).setCell (by show w.heap.size ≤ w.heap.size + 1; omega) _
        unfold boxed at fin ⊢
        have HF := hide fin
        clear fin hbel hbr2
        go_wp2
        exact bodyPost_ret (v := .agg #[.string ⟨#[]⟩, .slice ar k cr]) (by simp [results, Try.results16, go_sem]) rfl (Or.inl ⟨hb0, rfl, HF.out⟩)
      · obtain ⟨c, hc⟩ : ∃ c : Nat, best closed leads (fun j => pos live (reps j) n) k = (c : Int) := ⟨(best closed leads (fun j => pos live (reps j) n) k).toNat, by omega⟩
        have hcn : c < n := by omega
        have hcni : (c : Int) < (n : Int) := by omega
        have hc0 : (0 : Int) ≤ (c : Int) := by omega
        have HC := hide hc
        rw [hc]
        clear hc hb0 hbr2
        obtain ⟨rfl, _, hrow⟩ := S.lds (by omega)
        obtain ⟨rfl, _, hlrow⟩ := S.liv (by omega)
        have d1 := hrow.cell hcn
        have d2 := hrow.frozen c
        have dlt := hrow.lt
        have dlt1 : BD < w.heap.size + 1 := by omega
        have l1 := hlrow.cell hcn
        have llt := hlrow.lt
        have llt1 : Bl < w.heap.size + 1 := by omega
        have lne : Bl ≠ BD := row_ne hlrow hrow (by decide)
        have c0 := S.at_.c0
        have c3 := S.at_.c3
        have Lne : L ≠ BD := by
          rintro rfl
          rw [hrow.cell (by omega : 0 < n)] at c0
          simp at c0
        have lb := HLB.out c hcn
        obtain ⟨lb0, lb1⟩ := lb
        have hend := lead_end (c := c) hbel hrow (.string ⟨#[]⟩) (.string (live c)) (.string (live c)) (.slice ar k cr)
        have HEND := hide hend
        clear hend hrow hlrow hbel
        unfold boxed at HEND ⊢
        go_wp2
        exact bodyPost_ret (v := .agg #[.string (live c), .slice ar k cr]) (by simp [results, Try.results16, go_sem]) rfl (Or.inr ⟨c, HC.out, hcn, rfl, HEND.out.1, HEND.out.2⟩)
end Go.Proofs.Qxb6603051a.Ld
