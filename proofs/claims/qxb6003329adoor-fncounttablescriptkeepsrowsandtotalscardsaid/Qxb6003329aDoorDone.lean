/- The count-table law: the method done, and the small shims. -/
import Derived.Test.Qxb6003329aDoorAdd
import Derived.Deep.RegionHeld3
namespace Go.Proofs.Qxb6003329aDoor.Dn
open Go.RowKit
open Go.Proofs.Qxb6003329aDoor.Fm
open Go.Proofs.Qxb6003329aDoor.Ad

/-- Records, each of six cells. -/
structure Recs (w : World) (lo : Nat) (v : Value) (xs : List Value) (m : Nat) (R : Nat → List Value) : Prop where
  own : w.ownsRow lo 22 1 v m xs
  rows : ∀ i, i < m → ∃ x, xs[i]? = some x ∧ w.ownsRow lo 9 1 x 6 (R i)

/-- What 'done' leaves. -/
def DoneR (w : World) (lo T m : Nat) (R : Nat → List Value) (L : List Value) (e : Ending) (w' : World) : Prop :=
  ∃ g cap xs', e = .returned (.slice (some ⟨g, 0, none⟩) (m + 1) cap) ∧ Recs w' lo (.slice (some ⟨g, 0, none⟩) (m + 1) cap) xs' (m + 1) (more R m L) ∧ Kp w w' lo T

theorem dcells {w W : World} {lo T : Nat} {v : Value} {xs : List Value} {m : Nat} {R : Nat → List Value} {t0 t1 t2 t3 : Int} (S0 : St w lo T v xs m R t0 t1 t2 t3) (hb : Below w.heap.size w W) :
    W.cell? ⟨T, 0, none⟩ = some v ∧ W.cell? ⟨T, 1, none⟩ = some (.int .i64 t0) ∧ W.cell? ⟨T, 2, none⟩ = some (.int .i64 t1) ∧ W.cell? ⟨T, 3, none⟩ = some (.int .i64 t2) ∧ W.cell? ⟨T, 4, none⟩ = some (.int .i64 t3) := by
  have := (st_below S0 hb).blk
  simp [World.cell?, this]

theorem below_all {w W : World} (hb : Below w.heap.size w W) (o : Obj) : Below w.heap.size w (W.alloc o) := hb.alloc hb.size o
theorem below_drw {w W : World} (hb : Below w.heap.size w W) : Below w.heap.size w W.drew := hb.drew

theorem dleaf {w w3 w4 : World} {lo T : Nat} {v : Value} {xs : List Value} {m : Nat} {R : Nat → List Value} {t0 t1 t2 t3 : Int} {y : Value} {L : List Value} {g7 cap7 : Nat} {Y : Obj}
    (S0 : St w lo T v xs m R t0 t1 t2 t3) (hlo : lo ≤ w.heap.size) (hb3 : Below w.heap.size w w3) (own6 : w3.ownsRow lo 9 1 y 6 L) (own7 : w4.ownsRow lo 22 1 (.slice (some ⟨g7, 0, none⟩) (m + 1) cap7) (m + 1) (xs ++ [y])) (hgr7 : (w3.alloc Y).grownBy w4 v.ownBlock) :
    Recs w4 lo (.slice (some ⟨g7, 0, none⟩) (m + 1) cap7) (xs ++ [y]) (m + 1) (more R m L) ∧ Kp w w4 lo T ∧
      (w4.cell? ⟨T, 0, none⟩ = some v ∧ w4.cell? ⟨T, 1, none⟩ = some (.int .i64 t0) ∧ w4.cell? ⟨T, 2, none⟩ = some (.int .i64 t1) ∧ w4.cell? ⟨T, 3, none⟩ = some (.int .i64 t2) ∧ w4.cell? ⟨T, 4, none⟩ = some (.int .i64 t3)) := by
  have S3 := st_below S0 hb3
  have hz3 := hb3.size
  have hTne : some T ≠ v.ownBlock := fun e => by
    obtain ⟨cur, hc, _⟩ := own_type S0.own e.symm
    rw [S0.blk] at hc
    simp at hc
  have b34 : ∀ k, k < w3.heap.size → some k ≠ v.ownBlock → w4.heap[k]? = w3.heap[k]? := fun k hk hne => by
    rw [hgr7.block k (by simp; omega) hne, Below.heap_alloc _ _ _ hk]
  have blk4 : w4.heap[T]? = some (.cells #[v, .int .i64 t0, .int .i64 t1, .int .i64 t2, .int .i64 t3] 36 (0, 0)) := (b34 T S3.lt hTne).trans S3.blk
  have row9 : ∀ x L', w3.ownsRow lo 9 1 x 6 L' → w4.ownsRow lo 9 1 x 6 L' := fun x L' ho => own_of_block ho (fun k hk => by
    obtain ⟨cur, hc, _, hlt⟩ := own_type ho hk
    have k2 : some k ≠ v.ownBlock := fun e => by
      obtain ⟨cur', hc', _⟩ := own_type S3.own e.symm
      rw [hc] at hc'
      simp at hc'
    exact b34 k hlt k2)
  have hl : xs.length = m := by have := S0.own.1; omega
  refine ⟨⟨own7, fun i hi => ?_⟩, ⟨hgr7.os.trans hb3.os, hgr7.tape.trans hb3.tape, hgr7.output.trans hb3.output, ?_, ?_, ?_⟩, by simp [World.cell?, blk4]⟩
  · by_cases e : i = m
    · subst e
      refine ⟨y, ?_, ?_⟩
      · rw [List.getElem?_append_right (by omega), hl]
        simp
      · have : more R i L i = L := by simp [more]
        rw [this]
        exact row9 y L own6
    · obtain ⟨x, hx, ho⟩ := S3.rows i (by omega)
      refine ⟨x, ?_, ?_⟩
      · rw [List.getElem?_append_left (by omega)]
        exact hx
      · have : more R m L i = R i := by simp [more, e]
        rw [this]
        exact row9 x (R i) ho
  · have h1 := hgr7.size
    simp at h1
    omega
  · intro k hk hT hn
    have k2 : some k ≠ v.ownBlock := fun e => by
      obtain ⟨cur, hc, _⟩ := own_type S0.own e.symm
      exact hn cur hc
    rw [b34 k (by omega) k2, hb3.block k hk]
  · intro k hk
    have k2 : some k ≠ v.ownBlock := fun e => by
      obtain ⟨_, _, hl, _⟩ := own_type S0.own e.symm
      omega
    rw [b34 k (by omega) k2, hb3.block k (by omega)]

theorem grown_below {w W w1 : World} {G : Nat} (h : Below w.heap.size w W) (hg : W.grownBy w1 (some G)) (hG : w.heap.size ≤ G) : Below w.heap.size w w1 := h.grown hg h.size (fun k hk => by cases hk; exact hG)

theorem counts_bel (t : Nat → Int) (hc : ∀ i, i < 4 → -9223372036854775808 ≤ t i ∧ t i ≤ 9223372036854775807) {w : World} {W : World} (hT : Tab w) (h : Below w.heap.size w W) :
    Calls Tryd.prog 13 #[.agg #[.int .i64 (t 0), .int .i64 (t 1), .int .i64 (t 2), .int .i64 (t 3)]] W fun e w' => ∃ B, e = .returned (.slice (some ⟨B, 0, none⟩) 4 4) ∧ w'.rowIs B 9 4 (fun i => .string (S (t i))) ∧ Below w.heap.size w w' ∧ Below W.heap.size W w' :=
  (counts_any t hc W (hT.below h)).mono fun _ _ ⟨B, he, _, hr, hb⟩ => ⟨B, he, hr, h.trans (hb.mono h.size), hb⟩

set_option maxRecDepth 100000 in
set_option maxHeartbeats 4000000 in
theorem done_any (lo T : Nat) (v : Value) (xs : List Value) (m : Nat) (R : Nat → List Value) (t : Nat → Int) (w : World) (S0 : St w lo T v xs m R (t 0) (t 1) (t 2) (t 3)) (hT : Tab w) (hlo : lo ≤ w.heap.size)
    (hc : ∀ i, i < 4 → -9223372036854775808 ≤ t i ∧ t i ≤ 9223372036854775807) (hm : m ≤ 1048576) :
    Calls Tryd.prog 11 #[.pointer (some ⟨T, 0, none⟩)] w (DoneR w lo T m R [.string ⟨#[116, 111, 116, 97, 108]⟩, .string ⟨#[]⟩, .string (S (t 0)), .string (S (t 1)), .string (S (t 2)), .string (S (t 3))]) := by
  have HC := hide hc
  clear hc
  have hTl := S0.lt
  have hB0 : Below w.heap.size w w := Below.refl _ _
  go_enter Tryd.func11, Tryd.ntmps11
  go_wp2
  go_region_held3 (fun w' => w'.cell? ⟨T, 0, none⟩ = some v ∧ w'.cell? ⟨T, 1, none⟩ = some (.int .i64 (t 0)) ∧ w'.cell? ⟨T, 2, none⟩ = some (.int .i64 (t 1)) ∧ w'.cell? ⟨T, 3, none⟩ = some (.int .i64 (t 2)) ∧ w'.cell? ⟨T, 4, none⟩ = some (.int .i64 (t 3)))
    (first | assumption | exact dcells S0 (by assumption) | exact dcells S0 (below_drw (by assumption)) | exact dcells S0 (below_all (by assumption) _) | exact dcells S0 (below_all (below_drw (by assumption)) _))
    (first
      | (refine step_inner rfl (.tmp 7) (.tmp 12) rfl lo _ _ ⟨#[116, 111, 116, 97, 108]⟩ ⟨#[]⟩ (fun i => S (t i)) rfl rfl ?_ ?_ ?_ ?_; (first | exact own_two _ _ (by first | omega | (have := hb2.size; omega)) | exact own_of_block (own_two ⟨#[116, 111, 116, 97, 108]⟩ ⟨#[]⟩ (by first | omega | exact hlo)) (fun k hk => hl2.block k (by simp [Value.ownBlock] at hk; subst hk; simp))); (first | exact hrB | exact hrB.alloc _); (first | omega | (simp; omega) | (have := hb2.size; omega) | (have := hb2.size; simp; omega)); intro g6 cap6 w3 own6 hgr3 hlt3; have hb3 : Below w.heap.size w w3 := grown_below (by first | assumption | exact below_all (by assumption) _) hgr3 (by first | exact Nat.le_refl _ | exact hb2.size))
      | (refine step_outer rfl (.tmp 6) (.tmp 14) rfl lo w3.heap.size m v (.slice (some ⟨g6, 0, none⟩) 6 cap6) xs rfl rfl ?_ ?_ rfl hm ?_ ?_; exact (st_below S0 hb3).own.alloc _; simp [World.cell?_alloc_new]; (have := hb3.size; simp; omega); intro g7 cap7 w4 own7 hgr7; obtain ⟨hrec, hkp, hdc⟩ := dleaf S0 hlo hb3 own6 own7 hgr7)
      | (go_at_call 13; refine (counts_bel t HC.out hT (by first | assumption | exact below_drw (by assumption) | exact below_all (by assumption) _ | exact below_all (below_drw (by assumption)) _)).mono ?_; rintro e w2 ⟨B, rfl, hrB, hb2, hl2⟩))
  all_goals
    go_wp2
    go_ret
    exact ⟨g7, cap7, _, rfl, hrec, hkp⟩

/-! ### the shims -/
theorem zdone_any (lo T : Nat) (v : Value) (xs : List Value) (m : Nat) (R : Nat → List Value) (t : Nat → Int) (w : World) (S0 : St w lo T v xs m R (t 0) (t 1) (t 2) (t 3)) (hT : Tab w) (hlo : lo ≤ w.heap.size)
    (hc : ∀ i, i < 4 → -9223372036854775808 ≤ t i ∧ t i ≤ 9223372036854775807) (hm : m ≤ 1048576) :
    Calls Tryd.prog 8 #[.pointer (some ⟨T, 0, none⟩)] w (DoneR w lo T m R [.string ⟨#[116, 111, 116, 97, 108]⟩, .string ⟨#[]⟩, .string (S (t 0)), .string (S (t 1)), .string (S (t 2)), .string (S (t 3))]) := by
  go_enter Tryd.func8, Tryd.ntmps8
  go_wp2_with fail
  refine (done_any lo T v xs m R t w S0 hT hlo hc hm).mono ?_
  rintro e w' ⟨g, cap, xs', rfl, hr, hk⟩
  go_wp2
  go_ret
  exact ⟨g, cap, xs', rfl, hr, hk⟩

theorem new_any (w : World) (lo : Nat) (hlo : lo ≤ w.heap.size) (R : Nat → List Value) :
    Calls Tryd.prog 5 #[] w fun e w' => e = .returned (.pointer (some ⟨w.heap.size, 0, none⟩)) ∧ St w' lo w.heap.size (.slice none 0 0) [] 0 R 0 0 0 0 ∧ Below w.heap.size w w' := by
  go_enter Tryd.func5, Tryd.ntmps5
  go_wp2
  go_ret
  exact ⟨rfl, ⟨by show (w.heap.push _)[w.heap.size]? = _; simp, hlo, World.ownsRow_nil _ _ _ _, fun i hi => by omega⟩, (Below.refl _ _).alloc (Nat.le_refl _) _⟩

theorem total_any (lo T : Nat) (v : Value) (xs : List Value) (m : Nat) (R : Nat → List Value) (t : Nat → Int) (w : World) (S0 : St w lo T v xs m R (t 0) (t 1) (t 2) (t 3)) :
    Calls Tryd.prog 7 #[.pointer (some ⟨T, 0, none⟩)] w fun e w' => e = .returned (.agg #[.int .i64 (t 0), .int .i64 (t 1), .int .i64 (t 2), .int .i64 (t 3)]) ∧ Below w.heap.size w w' := by
  obtain ⟨_, q0, q1, q2, q3⟩ := dcells S0 (Below.refl _ _)
  have hTl := S0.lt
  go_enter Tryd.func7, Tryd.ntmps7
  go_wp2
  exact bodyPost_ret (v := .agg #[.int .i64 (t 0), .int .i64 (t 1), .int .i64 (t 2), .int .i64 (t 3)]) (by simp [results, Tryd.results7, go_sem]) rfl ⟨rfl, (Below.refl _ _).alloc (Nat.le_refl _) _⟩

/-- .. the shim of 'add'. -/
theorem zadd_any (lo T : Nat) (v : Value) (xs : List Value) (m : Nat) (R : Nat → List Value) (t : Nat → Int) (g : ByteArray) (n : Int) (c : Nat → Int) (w : World) (S0 : St w lo T v xs m R (t 0) (t 1) (t 2) (t 3)) (hT : Tab w) (hlo : lo ≤ w.heap.size)
    (hn0 : -9223372036854775808 ≤ n) (hn1 : n ≤ 9223372036854775807) (hc : ∀ i, i < 4 → -9223372036854775808 ≤ c i ∧ c i ≤ 9223372036854775807) (hm : m ≤ 1048576)
    (htb : ∀ j, j < 4 → -4503599627370496 ≤ t j ∧ t j ≤ 4503599627370496) (hcb : ∀ j, j < 4 → -1099511627776 ≤ c j ∧ c j ≤ 1099511627776) :
    Calls Tryd.prog 6 #[.pointer (some ⟨T, 0, none⟩), .string g, .int .i64 n, .agg #[.int .i64 (c 0), .int .i64 (c 1), .int .i64 (c 2), .int .i64 (c 3)]] w (AddR w lo T m R [.string g, .string (S n), .string (S (c 0)), .string (S (c 1)), .string (S (c 2)), .string (S (c 3))] t c) := by
  have bA : Below w.heap.size w (w.alloc (.cells #[.int .i64 (c 0), .int .i64 (c 1), .int .i64 (c 2), .int .i64 (c 3)] 26)) := (Below.refl _ _).alloc (Nat.le_refl _) _
  have A := add_any lo T v xs m R t g n c _ (st_below S0 bA) (hT.below bA) (Nat.le_trans hlo bA.size) hn0 hn1 hc hm htb hcb
  have HA := hide A
  clear A hc htb hcb
  go_enter Tryd.func6, Tryd.ntmps6
  go_wp2_with fail
  refine HA.out.mono ?_
  rintro e w' ⟨rfl, v', xs', S1, K1⟩
  go_wp2
  go_end0
  refine ⟨rfl, v', xs', S1, ⟨K1.os.trans bA.os, K1.tape.trans bA.tape, K1.output.trans bA.output, Nat.le_trans bA.size K1.size, fun k hk hT hn => ?_, fun k hk => ?_⟩⟩
  · have e := bA.block k hk
    rw [K1.block k (by have := bA.size; omega) hT (fun cur => by rw [e]; exact hn cur), e]
  · rw [K1.low k hk, bA.block k (by omega)]
end Go.Proofs.Qxb6003329aDoor.Dn
