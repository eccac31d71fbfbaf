/- The count-table law: the method add. -/
import Derived.Test.Qxb6003329aDoorFmt
import Derived.Deep.RegionLaw
import Derived.Deep.AppendLies
import Derived.Deep.DeepCutAuto
namespace Go.Proofs.Qxb6003329aDoor.Ad
open Go.RowKit
open Go.Proofs.Qxb6003329aDoor.Fm

theorem info22 : (Tryd.prog.info? 22).map (fun i => (i.zero, i.size, i.bytes)) = some (some (.slice none 0 0), 1, 24) := by kernel_rfl

/-- The table's block, its records, and each record's six cells. -/
structure St (w : World) (lo T : Nat) (v : Value) (xs : List Value) (m : Nat) (R : Nat → List Value) (t0 t1 t2 t3 : Int) : Prop where
  blk : w.heap[T]? = some (.cells #[v, .int .i64 t0, .int .i64 t1, .int .i64 t2, .int .i64 t3] 36 (0, 0))
  loT : lo ≤ T
  own : w.ownsRow lo 22 1 v m xs
  rows : ∀ i, i < m → ∃ x, xs[i]? = some x ∧ w.ownsRow lo 9 1 x 6 (R i)

theorem St.cell0 {w : World} {lo T : Nat} {v : Value} {xs : List Value} {m : Nat} {R : Nat → List Value} {t0 t1 t2 t3 : Int} (h : St w lo T v xs m R t0 t1 t2 t3) : w.cell? ⟨T, 0, none⟩ = some v := by simp [World.cell?, h.blk]
theorem St.lt {w : World} {lo T : Nat} {v : Value} {xs : List Value} {m : Nat} {R : Nat → List Value} {t0 t1 t2 t3 : Int} (h : St w lo T v xs m R t0 t1 t2 t3) : T < w.heap.size := (Array.getElem?_eq_some_iff.1 h.blk).1

section
variable {w : World} {ops : Array Oper} {o : Oper} {a : Act} {K : Act → World → Prop} {Q : Exit → Act → World → Prop} {E : Prop}

theorem step_inner (hgd : o.guard = none) (s x : Operand) (ho : o.op = .call { callee := .builtin .append, args := #[s, x], argTypes := #[22, 22] }) (lo G B : Nat) (x0 x1 : ByteArray) (f : Nat → ByteArray)
    (hs : a.eval s = .slice (some ⟨G, 0, none⟩) 2 2) (hx : a.eval x = .slice (some ⟨B, 0, none⟩) 4 4)
    (hown : w.ownsRow lo 9 1 (.slice (some ⟨G, 0, none⟩) 2 2) 2 [.string x0, .string x1]) (hrow : w.rowIs B 9 4 (fun i => .string (f i))) (hlo : lo ≤ w.heap.size)
    (h : ∀ g cap w', w'.ownsRow lo 9 1 (.slice (some ⟨g, 0, none⟩) 6 cap) 6 [.string x0, .string x1, .string (f 0), .string (f 1), .string (f 2), .string (f 3)] → w.grownBy w' (some G) → g < w'.heap.size → K (a.put o.dst (.slice (some ⟨g, 0, none⟩) 6 cap)) w') :
    if Region.wanted o (yielded ops a.tmps) = true then Oper.wp Tryd.prog o a w K Q else E := by
  obtain ⟨i0, hi, hz0, hz1, hz2⟩ := info_parts info9
  refine step_append_lies w hgd s x 22 ho lo 9 i0 (.string ByteArray.empty) 1 16 Tryd.underlying22 hi hz0 hz1 hz2 rfl (by decide) _ 2 _ hs hown ⟨B, 0, none⟩ 4 4 [.string (f 0), .string (f 1), .string (f 2), .string (f 3)] hx rfl ?_ ?_ (by decide) (by decide) (by decide) hlo _ rfl ?_
  · intro j u hj
    have hj4 : j < 4 := by
      rcases Nat.lt_or_ge j 4 with h4 | h4
      · exact h4
      · rw [List.getElem?_eq_none (by simpa using h4)] at hj; cases hj
    have hc := hrow.cell hj4
    have e : ((⟨B, 0, none⟩ : Addr).add j) = ⟨B, j, none⟩ := by unfold Addr.add; split <;> simp_all
    rw [e, hc]
    rcases (show j = 0 ∨ j = 1 ∨ j = 2 ∨ j = 3 by omega) with rfl | rfl | rfl | rfl <;> simpa using hj
  · intro u hu
    simp only [List.mem_cons, List.mem_nil_iff, or_false] at hu
    rcases hu with rfl | rfl | rfl | rfl <;> rfl
  · intro g cap w' hown' hgrow _ hlt
    exact h g cap w' hown' hgrow hlt

theorem step_outer (hgd : o.guard = none) (s x : Operand) (ho : o.op = .call { callee := .builtin .append, args := #[s, x], argTypes := #[31, 31] }) (lo H m : Nat) (v y : Value) (xs : List Value)
    (hs : a.eval s = v) (hx : a.eval x = .slice (some ⟨H, 0, none⟩) 1 1)
    (hown : w.ownsRow lo 22 1 v m xs) (hcell : w.cell? ⟨H, 0, none⟩ = some y) (hy : y.oneCell' = true) (hm : m ≤ 1048576) (hlo : lo ≤ w.heap.size)
    (h : ∀ g cap w', w'.ownsRow lo 22 1 (.slice (some ⟨g, 0, none⟩) (m + 1) cap) (m + 1) (xs ++ [y]) → w.grownBy w' v.ownBlock → K (a.put o.dst (.slice (some ⟨g, 0, none⟩) (m + 1) cap)) w') :
    if Region.wanted o (yielded ops a.tmps) = true then Oper.wp Tryd.prog o a w K Q else E := by
  obtain ⟨i0, hi, hz0, hz1, hz2⟩ := info_parts info22
  refine step_append_lies w hgd s x 31 ho lo 22 i0 (.slice none 0 0) 1 24 Tryd.underlying31 hi hz0 hz1 hz2 rfl (by decide) v m xs hs hown ⟨H, 0, none⟩ 1 1 [y] hx rfl ?_ ?_ (by decide) (by unfold maxLen; omega) (by omega) hlo _ rfl ?_
  · intro j u hj
    have hj0 : j = 0 := by
      rcases Nat.eq_zero_or_pos j with h0 | h0
      · exact h0
      · rw [List.getElem?_eq_none (by simp; omega)] at hj; cases hj
    subst hj0
    have : y = u := by simpa using hj
    subst this
    simpa [Addr.add] using hcell
  · intro u hu
    simp only [List.mem_cons, List.mem_nil_iff, or_false] at hu
    subst hu
    exact hy
  · intro g cap w' hown' hgrow _ _
    exact h g cap w' hown' hgrow
end

/-- The four counts lie in their box. -/
def Box (H : Nat) (c : Nat → Int) (w : World) : Prop :=
  w.cell? ⟨H, 0, none⟩ = some (.int .i64 (c 0)) ∧ w.cell? ⟨H, 1, none⟩ = some (.int .i64 (c 1)) ∧ w.cell? ⟨H, 2, none⟩ = some (.int .i64 (c 2)) ∧ w.cell? ⟨H, 3, none⟩ = some (.int .i64 (c 3))

def boxO (c : Nat → Int) : Obj := .cells #[.int .i64 (c 0), .int .i64 (c 1), .int .i64 (c 2), .int .i64 (c 3)] 26

/-- All that was there when the statement began is there still, and the box of the counts with it. -/
def Inv (w : World) (c : Nat → Int) (W : World) : Prop := Below (w.heap.size + 1) (w.alloc (boxO c)) W

theorem inv_start (w : World) (c : Nat → Int) : Inv w c (w.alloc (boxO c)) := Below.refl _ _
theorem inv_alloc {w : World} {c : Nat → Int} {W : World} (h : Inv w c W) (o : Obj) : Inv w c (W.alloc o) := Below.alloc h (by have := h.size; simpa using this) o
theorem inv_drew {w : World} {c : Nat → Int} {W : World} (h : Inv w c W) : Inv w c W.drew := Below.drew h
theorem inv_size {w : World} {c : Nat → Int} {W : World} (h : Inv w c W) : w.heap.size + 1 ≤ W.heap.size := by have := h.size; simpa using this
theorem inv_below {w : World} {c : Nat → Int} {W w1 : World} (h : Inv w c W) (hb : Below W.heap.size W w1) : Inv w c w1 := h.trans (hb.mono (inv_size h))
theorem inv_grown {w : World} {c : Nat → Int} {W w1 : World} {G : Nat} (h : Inv w c W) (hg : W.grownBy w1 (some G)) (hG : w.heap.size + 1 ≤ G) : Inv w c w1 :=
  Below.grown h hg (inv_size h) (fun k hk => by cases hk; exact hG)
theorem inv_old {w : World} {c : Nat → Int} {W : World} (h : Inv w c W) : Below w.heap.size w W :=
  ((Below.refl _ _).alloc (Nat.le_refl _) _).trans (h.mono (Nat.le_succ _))
theorem inv_box {w : World} {c : Nat → Int} {W : World} (h : Inv w c W) : Box w.heap.size c W := by
  have hc : ∀ j, W.cell? ⟨w.heap.size, j, none⟩ = (w.alloc (boxO c)).cell? ⟨w.heap.size, j, none⟩ := fun j => h.cell (p := ⟨w.heap.size, j, none⟩) (Nat.lt_succ_self _)
  unfold Box
  rw [hc, hc, hc, hc]
  unfold boxO
  simp [World.cell?_alloc_new]

theorem itoa_inv (n : Int) (h0 : -9223372036854775808 ≤ n) (h1 : n ≤ 9223372036854775807) {w : World} {c : Nat → Int} {W : World} (hT : Tab w) (h : Inv w c W) :
    Calls Tryd.prog 12 #[.int .i64 n] W fun e w' => e = .returned (.string (S n)) ∧ Inv w c w' ∧ Below W.heap.size W w' :=
  (itoa_any n h0 h1 W (hT.below (inv_old h))).mono fun _ _ ⟨he, hb⟩ => ⟨he, inv_below h hb, hb⟩

theorem counts_inv {w : World} {c : Nat → Int} {W : World} (hc : ∀ i, i < 4 → -9223372036854775808 ≤ c i ∧ c i ≤ 9223372036854775807) (hT : Tab w) (h : Inv w c W) :
    Calls Tryd.prog 13 #[.agg #[.int .i64 (c 0), .int .i64 (c 1), .int .i64 (c 2), .int .i64 (c 3)]] W fun e w' => ∃ B, e = .returned (.slice (some ⟨B, 0, none⟩) 4 4) ∧ w'.rowIs B 9 4 (fun i => .string (S (c i))) ∧ Inv w c w' ∧ Below W.heap.size W w' :=
  (counts_any c hc W (hT.below (inv_old h))).mono fun _ _ ⟨B, he, _, hr, hb⟩ => ⟨B, he, hr, inv_below h hb, hb⟩

theorem own_of_block {w w' : World} {lo : Nat} {e : TypeId} {sz : Nat} {v : Value} {n : Nat} {xs : List Value} (h : w.ownsRow lo e sz v n xs) (hb : ∀ k, v.ownBlock = some k → w'.heap[k]? = w.heap[k]?) : w'.ownsRow lo e sz v n xs := by
  refine ⟨h.1, ?_⟩
  rcases h.2 with hn | ⟨g, cap, cur, rfl, hg, hh, r⟩
  · exact Or.inl hn
  · exact Or.inr ⟨g, cap, cur, rfl, hg, (hb g rfl).trans hh, r⟩

theorem own_type {w : World} {lo : Nat} {e : TypeId} {sz : Nat} {v : Value} {n : Nat} {xs : List Value} (h : w.ownsRow lo e sz v n xs) {k : Nat} (hk : v.ownBlock = some k) : ∃ cur, w.heap[k]? = some (.cells cur e (0, 0)) ∧ lo ≤ k ∧ k < w.heap.size := by
  rcases h.2 with ⟨rfl, _⟩ | ⟨g, cap, cur, rfl, hg, hh, r⟩
  · cases hk
  · have : g = k := by simpa [Value.ownBlock] using hk
    subst this
    exact ⟨cur, hh, hg, (Array.getElem?_eq_some_iff.1 hh).1⟩

/-- All that was there is as it was, but for the table's block and for rows of records. -/
structure Kp (w wc : World) (lo T : Nat) : Prop where
  os : wc.os = w.os
  tape : wc.tape = w.tape
  output : wc.output = w.output
  size : w.heap.size ≤ wc.heap.size
  block : ∀ k, k < w.heap.size → k ≠ T → (∀ cur, w.heap[k]? ≠ some (.cells cur 22 (0, 0))) → wc.heap[k]? = w.heap[k]?
  low : ∀ k, k < lo → wc.heap[k]? = w.heap[k]?

/-- The records with one row more. -/
def more (R : Nat → List Value) (m : Nat) (L : List Value) : Nat → List Value := fun i => if i = m then L else R i

def Mid (w : World) (lo T m : Nat) (R : Nat → List Value) (L : List Value) (t0 t1 t2 t3 : Int) (c : Nat → Int) (wc : World) : Prop :=
  ∃ v' xs', St wc lo T v' xs' (m + 1) (more R m L) t0 t1 t2 t3 ∧ Box w.heap.size c wc ∧ Kp w wc lo T

theorem st_below {w W : World} {lo T : Nat} {v : Value} {xs : List Value} {m : Nat} {R : Nat → List Value} {t0 t1 t2 t3 : Int} (h : St w lo T v xs m R t0 t1 t2 t3) (hb : Below w.heap.size w W) : St W lo T v xs m R t0 t1 t2 t3 :=
  ⟨(hb.block _ h.lt).trans h.blk, h.loT, own_of_block h.own (fun k hk => by obtain ⟨_, _, _, hlt⟩ := own_type h.own hk; exact hb.block k hlt),
   fun i hi => by
    obtain ⟨x, hx, ho⟩ := h.rows i hi
    exact ⟨x, hx, own_of_block ho (fun k hk => by obtain ⟨_, _, _, hlt⟩ := own_type ho hk; exact hb.block k hlt)⟩⟩

theorem leaf {w w3 w4 : World} {lo T : Nat} {v : Value} {xs : List Value} {m : Nat} {R : Nat → List Value} {t0 t1 t2 t3 : Int} {c : Nat → Int} {y : Value} {L : List Value} {g7 cap7 : Nat} {Y : Obj}
    (S0 : St w lo T v xs m R t0 t1 t2 t3) (hlo : lo ≤ w.heap.size) (hI3 : Inv w c w3) (own6 : w3.ownsRow lo 9 1 y 6 L) (own7 : w4.ownsRow lo 22 1 (.slice (some ⟨g7, 0, none⟩) (m + 1) cap7) (m + 1) (xs ++ [y])) (hgr7 : (w3.alloc Y).grownBy w4 v.ownBlock) :
    Mid w lo T m R L t0 t1 t2 t3 c (w4.setCell ⟨T, 0, none⟩ (.slice (some ⟨g7, 0, none⟩) (m + 1) cap7)) := by
  have S3 := st_below S0 (inv_old hI3)
  have hTne : some T ≠ v.ownBlock := fun e => by
    obtain ⟨cur, hc, _⟩ := own_type S0.own e.symm
    rw [S0.blk] at hc
    simp at hc
  have hz3 := inv_size hI3
  have b34 : ∀ k, k < w3.heap.size → some k ≠ v.ownBlock → w4.heap[k]? = w3.heap[k]? := fun k hk hne => by
    rw [hgr7.block k (by simp; omega) hne, Below.heap_alloc _ _ _ hk]
  have blk4 : w4.heap[T]? = some (.cells #[v, .int .i64 t0, .int .i64 t1, .int .i64 t2, .int .i64 t3] 36 (0, 0)) := (b34 T S3.lt hTne).trans S3.blk
  have hg7 : g7 ≠ T := fun e => by
    obtain ⟨cur, hc, _⟩ := own_type own7 (k := g7) rfl
    rw [e, blk4] at hc
    simp at hc
  have b45 : ∀ k, k ≠ T → (w4.setCell ⟨T, 0, none⟩ (.slice (some ⟨g7, 0, none⟩) (m + 1) cap7)).heap[k]? = w4.heap[k]? := fun k hk => Below.heap_setCell _ _ _ _ hk
  have row9 : ∀ x L', w3.ownsRow lo 9 1 x 6 L' → (w4.setCell ⟨T, 0, none⟩ (.slice (some ⟨g7, 0, none⟩) (m + 1) cap7)).ownsRow lo 9 1 x 6 L' := fun x L' ho => own_of_block ho (fun k hk => by
    obtain ⟨cur, hc, _, hlt⟩ := own_type ho hk
    have k1 : k ≠ T := fun e => by rw [e, S3.blk] at hc; simp at hc
    have k2 : some k ≠ v.ownBlock := fun e => by
      obtain ⟨cur', hc', _⟩ := own_type S3.own e.symm
      rw [hc] at hc'
      simp at hc'
    rw [b45 k k1, b34 k hlt k2])
  refine ⟨_, xs ++ [y], ⟨?_, S0.loT, own_of_block own7 (fun k hk => ?_), fun i hi => ?_⟩, ?_, ?_⟩
  · simp [World.setCell, Array.getElem?_modify, blk4]
  · have : g7 = k := by simpa [Value.ownBlock] using hk
    exact b45 k (by rw [← this]; exact hg7)
  · by_cases e : i = m
    · subst e
      refine ⟨y, ?_, ?_⟩
      · have hl : xs.length = i := by have := S0.own.1; omega
        rw [List.getElem?_append_right (by omega), hl]
        simp
      · have : more R i L i = L := by simp [more]
        rw [this]
        exact row9 y L own6
    · obtain ⟨x, hx, ho⟩ := S3.rows i (by omega)
      refine ⟨x, ?_, ?_⟩
      · have hl : xs.length = m := by have := S0.own.1; omega
        rw [List.getElem?_append_left (by omega)]
        exact hx
      · have : more R m L i = R i := by simp [more, e]
        rw [this]
        exact row9 x (R i) ho
  · have hb3 := inv_box hI3
    have hHne : some w.heap.size ≠ v.ownBlock := fun e => by
      obtain ⟨_, _, _, hlt⟩ := own_type S0.own e.symm
      omega
    have hc : ∀ j, (w4.setCell ⟨T, 0, none⟩ (.slice (some ⟨g7, 0, none⟩) (m + 1) cap7)).cell? ⟨w.heap.size, j, none⟩ = w3.cell? ⟨w.heap.size, j, none⟩ := fun j =>
      World.cell?_of_block (w := w3) ((b45 w.heap.size (by have := S0.lt; omega)).trans (b34 w.heap.size (by omega) hHne))
    unfold Box
    rw [hc, hc, hc, hc]
    exact hb3
  · have ho := inv_old hI3
    refine ⟨?_, ?_, ?_, ?_, ?_, ?_⟩
    · exact hgr7.os.trans ho.os
    · exact hgr7.tape.trans ho.tape
    · exact hgr7.output.trans ho.output
    · have h1 := hgr7.size
      have h2 : (w4.setCell ⟨T, 0, none⟩ (.slice (some ⟨g7, 0, none⟩) (m + 1) cap7)).heap.size = w4.heap.size := by simp [World.setCell]
      rw [h2]
      simp at h1
      omega
    · intro k hk hT hn
      have k2 : some k ≠ v.ownBlock := fun e => by
        obtain ⟨cur, hc, _⟩ := own_type S0.own e.symm
        exact hn cur hc
      rw [b45 k hT, b34 k (by omega) k2, ho.block k hk]
    · intro k hk
      have k2 : some k ≠ v.ownBlock := fun e => by
        obtain ⟨_, _, hl, _⟩ := own_type S0.own e.symm
        omega
      rw [b45 k (by have := S0.loT; omega), b34 k (by omega) k2, ho.block k (by omega)]

theorem leaf_cell {w w3 w4 : World} {lo T : Nat} {v : Value} {xs : List Value} {m : Nat} {R : Nat → List Value} {t0 t1 t2 t3 : Int} {c : Nat → Int} {Y : Obj}
    (S0 : St w lo T v xs m R t0 t1 t2 t3) (hI3 : Inv w c w3) (hgr7 : (w3.alloc Y).grownBy w4 v.ownBlock) : w4.cell? ⟨T, 0, none⟩ = some v ∧ w4.frozen? ⟨T, 0, none⟩ = false := by
  have S3 := st_below S0 (inv_old hI3)
  have hTne : some T ≠ v.ownBlock := fun e => by
    obtain ⟨cur, hc, _⟩ := own_type S0.own e.symm
    rw [S0.blk] at hc
    simp at hc
  have blk4 : w4.heap[T]? = some (.cells #[v, .int .i64 t0, .int .i64 t1, .int .i64 t2, .int .i64 t3] 36 (0, 0)) := by
    have := S3.lt
    rw [hgr7.block T (by simp; omega) hTne, Below.heap_alloc _ _ _ this]
    exact S3.blk
  exact ⟨by simp [World.cell?, blk4], by simp [World.frozen?, blk4]⟩

theorem own_two {W : World} {lo : Nat} (x0 x1 : ByteArray) (hlo : lo ≤ W.heap.size) : (W.alloc (.cells #[.string x0, .string x1] 9)).ownsRow lo 9 1 (.slice (some ⟨W.heap.size, 0, none⟩) 2 2) 2 [.string x0, .string x1] :=
  World.ownsRow_lit W #[.string x0, .string x1] 2 hlo (by decide) rfl

/-- The totals when the first k counts have been added. -/
def tt (t c : Nat → Int) (k j : Nat) : Int := if j < k then t j + c j else t j

theorem st_total {w : World} {lo T : Nat} {v : Value} {xs : List Value} {m : Nat} {R : Nat → List Value} {t0 t1 t2 t3 s0 s1 s2 s3 : Int} {a : Nat} {x : Value} (h : St w lo T v xs m R t0 t1 t2 t3)
    (hx : (#[v, .int .i64 t0, .int .i64 t1, .int .i64 t2, .int .i64 t3] : Array Value).setIfInBounds a x = #[v, .int .i64 s0, .int .i64 s1, .int .i64 s2, .int .i64 s3]) :
    St (w.setCell ⟨T, a, none⟩ x) lo T v xs m R s0 s1 s2 s3 := by
  have hne : ∀ {e : TypeId} {sz : Nat} {u : Value} {n : Nat} {ys : List Value}, e ≠ 36 → w.ownsRow lo e sz u n ys → (w.setCell ⟨T, a, none⟩ x).ownsRow lo e sz u n ys := fun he ho => own_of_block ho (fun k hk => by
    obtain ⟨cur, hc, _⟩ := own_type ho hk
    exact Below.heap_setCell _ _ _ _ (fun e => by
      have e' : k = T := e
      rw [e', h.blk] at hc
      simp at hc
      exact he hc.2.symm))
  exact ⟨by simp [World.setCell, Array.getElem?_modify, h.blk, hx], h.loT, hne (by decide) h.own, fun i hi => by
    obtain ⟨y, hy, ho⟩ := h.rows i hi
    exact ⟨y, hy, hne (by decide) ho⟩⟩

theorem kp_total {w W : World} {lo T : Nat} (h : Kp w W lo T) (hl : lo ≤ T) (a : Nat) (x : Value) : Kp w (W.setCell ⟨T, a, none⟩ x) lo T :=
  ⟨h.os, h.tape, h.output, by have := h.size; simpa [World.setCell] using this, fun k hk hT hn => (Below.heap_setCell _ _ _ _ hT).trans (h.block k hk hT hn), fun k hk => (Below.heap_setCell _ _ _ _ (by show k ≠ T; omega)).trans (h.low k hk)⟩

theorem st_drew {w : World} {lo T : Nat} {v : Value} {xs : List Value} {m : Nat} {R : Nat → List Value} {t0 t1 t2 t3 : Int} (h : St w lo T v xs m R t0 t1 t2 t3) : St w.drew lo T v xs m R t0 t1 t2 t3 := ⟨h.blk, h.loT, h.own, h.rows⟩
theorem kp_drew {w W : World} {lo T : Nat} (h : Kp w W lo T) : Kp w W.drew lo T := ⟨h.os, h.tape, h.output, h.size, h.block, h.low⟩

/-- What 'add' leaves. -/
def AddR (w : World) (lo T m : Nat) (R : Nat → List Value) (L : List Value) (t c : Nat → Int) (e : Ending) (w' : World) : Prop :=
  e = .returned (.tuple #[]) ∧ ∃ v' xs', St w' lo T v' xs' (m + 1) (more R m L) (t 0 + c 0) (t 1 + c 1) (t 2 + c 2) (t 3 + c 3) ∧ Kp w w' lo T

set_option maxRecDepth 100000 in
set_option maxHeartbeats 8000000 in
theorem add_any (lo T : Nat) (v : Value) (xs : List Value) (m : Nat) (R : Nat → List Value) (t : Nat → Int) (g : ByteArray) (n : Int) (c : Nat → Int) (w : World) (S0 : St w lo T v xs m R (t 0) (t 1) (t 2) (t 3)) (hT : Tab w) (hlo : lo ≤ w.heap.size)
    (hn0 : -9223372036854775808 ≤ n) (hn1 : n ≤ 9223372036854775807) (hc : ∀ i, i < 4 → -9223372036854775808 ≤ c i ∧ c i ≤ 9223372036854775807) (hm : m ≤ 1048576) (htb : ∀ j, j < 4 → -4503599627370496 ≤ t j ∧ t j ≤ 4503599627370496) (hcb : ∀ j, j < 4 → -1099511627776 ≤ c j ∧ c j ≤ 1099511627776) :
    Calls Tryd.prog 10 #[.pointer (some ⟨T, 0, none⟩), .string g, .int .i64 n, .agg #[.int .i64 (c 0), .int .i64 (c 1), .int .i64 (c 2), .int .i64 (c 3)]] w (AddR w lo T m R [.string g, .string (S n), .string (S (c 0)), .string (S (c 1)), .string (S (c 2)), .string (S (c 3))] t c) := by
  have HTB := hide htb
  have HCB := hide hcb
  clear htb hcb
  have HC := hide hc
  clear hc
  have hTl := S0.lt
  have tc0 := S0.cell0
  have hI0 := inv_start w c
  unfold boxO at hI0
  have hTl1 : T < w.heap.size + 1 := by omega
  go_enter Tryd.func10, Tryd.ntmps10
  go_wp2
  go_cut [] (fun wc => Mid w lo T m R [.string g, .string (S n), .string (S (c 0)), .string (S (c 1)), .string (S (c 2)), .string (S (c 3))] (t 0) (t 1) (t 2) (t 3) c wc)
  case first =>
    go_region_law (first
        | (refine step_inner rfl (.tmp 18) (.tmp 20) rfl lo _ _ g (S n) (fun i => S (c i)) rfl rfl ?_ ?_ ?_ ?_; (first | exact own_two _ _ (by omega) | exact own_of_block (own_two g (S n) (by omega)) (fun k hk => hb2.block k (by have := inv_size hI1; simp [Value.ownBlock] at hk; subst hk; simp))); (first | exact hrB | exact hrB.alloc _); (first | omega | (simp; omega)); intro g6 cap6 w3 own6 hgr3 hlt3; have hI3 : Inv w c w3 := inv_grown (by first | assumption | exact inv_alloc (by assumption) _) hgr3 (by first | exact inv_size hI1 | exact inv_size hI2); have tc3 : w3.cell? ⟨T, 0, none⟩ = some v := (st_below S0 (inv_old hI3)).cell0; have hs3 : w.heap.size < w3.heap.size := inv_size hI3; have ht3 : T < w3.heap.size := Nat.lt_trans S0.lt hs3)
        | (refine step_outer rfl (.tmp 14) (.tmp 22) rfl lo w3.heap.size m v (.slice (some ⟨g6, 0, none⟩) 6 cap6) xs rfl rfl ?_ ?_ rfl hm ?_ ?_; exact (st_below S0 (inv_old hI3)).own.alloc _; simp [World.cell?_alloc_new]; (simp; omega); intro g7 cap7 w4 own7 hgr7; have hmid := leaf S0 hlo hI3 own6 own7 hgr7; obtain ⟨tc4, tf4⟩ := leaf_cell S0 hI3 hgr7)
        | (go_simp; go_at_call 12; refine (itoa_inv n hn0 hn1 hT (by first | assumption | exact inv_drew (by assumption) | exact inv_alloc (by assumption) _)).mono ?_; rintro e w1 ⟨rfl, hI1, hb1⟩; have hs1 : w.heap.size < w1.heap.size := inv_size hI1; have ht1 : T < w1.heap.size := Nat.lt_trans S0.lt hs1; have tc1 : w1.cell? ⟨T, 0, none⟩ = some v := (st_below S0 (inv_old hI1)).cell0; obtain ⟨bx10, bx11, bx12, bx13⟩ := inv_box hI1)
        | (go_simp; go_at_call 13; refine (counts_inv HC.out hT (by first | assumption | exact inv_drew (by assumption) | exact inv_alloc (by assumption) _)).mono ?_; rintro e w2 ⟨B, rfl, hrB, hI2, hb2⟩; have hs2 : w.heap.size < w2.heap.size := inv_size hI2; have ht2 : T < w2.heap.size := Nat.lt_trans S0.lt hs2; have tc2 : w2.cell? ⟨T, 0, none⟩ = some v := (st_below S0 (inv_old hI2)).cell0))
    all_goals (go_wp2_with fail; go_meet; case rel => exact hmid)
  case rest =>
    obtain ⟨v', xs', S1, ⟨bx0, bx1, bx2, bx3⟩, K1⟩ := hcut
    clear hI0 tc0
    have i0 := idx0
    have i1 := idx1
    have i2 := idx2
    have i3 := idx3
    go_wp2
    go_loopw [27] (fun i wr => ∃ k : Nat, k ≤ 4 ∧ i = .int .i64 k ∧ St wr lo T v' xs' (m + 1) (more R m [.string g, .string (S n), .string (S (c 0)), .string (S (c 1)), .string (S (c 2)), .string (S (c 3))]) (tt t c k 0) (tt t c k 1) (tt t c k 2) (tt t c k 3) ∧ Kp w wr lo T) (fun i _ => 4 - (intOf i).toNat)
    case atStart => exact ⟨0, by omega, rfl, by simpa [tt] using S1, K1⟩
    case round =>
      obtain ⟨k, hk, rfl, S2, K2⟩ := hrel
      by_cases hk4 : k = 4
      · subst hk4
        have SF : St wr lo T v' xs' (m + 1) (more R m [.string g, .string (S n), .string (S (c 0)), .string (S (c 1)), .string (S (c 2)), .string (S (c 3))]) (t 0 + c 0) (t 1 + c 1) (t 2 + c 2) (t 3 + c 3) := by simpa [tt] using S2
        go_wp2
        go_end0
        exact ⟨rfl, v', xs', SF, K2⟩
      · rcases (show k = 0 ∨ k = 1 ∨ k = 2 ∨ k = 3 by omega) with rfl | rfl | rfl | rfl
        · have q1 : wr.cell? ⟨T, 1 + 0, none⟩ = some (.int .i64 (t 0)) := by simp [World.cell?, S2.blk, tt]
          have q2 : wr.frozen? ⟨T, 1 + 0, none⟩ = false := by simp [World.frozen?, S2.blk]
          simp only [Nat.reduceAdd] at q1 q2
          obtain ⟨z1, z2⟩ := HTB.out 0 (by omega)
          obtain ⟨z3, z4⟩ := HCB.out 0 (by omega)
          have S3 : St (wr.setCell ⟨T, 1, none⟩ (.int .i64 (t 0 + c 0))) lo T v' xs' (m + 1) (more R m [.string g, .string (S n), .string (S (c 0)), .string (S (c 1)), .string (S (c 2)), .string (S (c 3))]) (tt t c (0 + 1) 0) (tt t c (0 + 1) 1) (tt t c (0 + 1) 2) (tt t c (0 + 1) 3) := st_total S2 (by simp [tt])
          have K3 : Kp w (wr.setCell ⟨T, 1, none⟩ (.int .i64 (t 0 + c 0))) lo T := kp_total K2 S2.loT _ _
          clear S2 K2
          go_wp2
          go_region
          all_goals
            go_wp2
            go_roundw
            case rel => exact ⟨0 + 1, by omega, by go_num, st_drew S3, kp_drew K3⟩
            case measure => simp [intOf]
        · have q1 : wr.cell? ⟨T, 1 + 1, none⟩ = some (.int .i64 (t 1)) := by simp [World.cell?, S2.blk, tt]
          have q2 : wr.frozen? ⟨T, 1 + 1, none⟩ = false := by simp [World.frozen?, S2.blk]
          simp only [Nat.reduceAdd] at q1 q2
          obtain ⟨z1, z2⟩ := HTB.out 1 (by omega)
          obtain ⟨z3, z4⟩ := HCB.out 1 (by omega)
          have S3 : St (wr.setCell ⟨T, 2, none⟩ (.int .i64 (t 1 + c 1))) lo T v' xs' (m + 1) (more R m [.string g, .string (S n), .string (S (c 0)), .string (S (c 1)), .string (S (c 2)), .string (S (c 3))]) (tt t c (1 + 1) 0) (tt t c (1 + 1) 1) (tt t c (1 + 1) 2) (tt t c (1 + 1) 3) := st_total S2 (by simp [tt])
          have K3 : Kp w (wr.setCell ⟨T, 2, none⟩ (.int .i64 (t 1 + c 1))) lo T := kp_total K2 S2.loT _ _
          clear S2 K2
          go_wp2
          go_region
          all_goals
            go_wp2
            go_roundw
            case rel => exact ⟨1 + 1, by omega, by go_num, st_drew S3, kp_drew K3⟩
            case measure => simp [intOf]
        · have q1 : wr.cell? ⟨T, 1 + 2, none⟩ = some (.int .i64 (t 2)) := by simp [World.cell?, S2.blk, tt]
          have q2 : wr.frozen? ⟨T, 1 + 2, none⟩ = false := by simp [World.frozen?, S2.blk]
          simp only [Nat.reduceAdd] at q1 q2
          obtain ⟨z1, z2⟩ := HTB.out 2 (by omega)
          obtain ⟨z3, z4⟩ := HCB.out 2 (by omega)
          have S3 : St (wr.setCell ⟨T, 3, none⟩ (.int .i64 (t 2 + c 2))) lo T v' xs' (m + 1) (more R m [.string g, .string (S n), .string (S (c 0)), .string (S (c 1)), .string (S (c 2)), .string (S (c 3))]) (tt t c (2 + 1) 0) (tt t c (2 + 1) 1) (tt t c (2 + 1) 2) (tt t c (2 + 1) 3) := st_total S2 (by simp [tt])
          have K3 : Kp w (wr.setCell ⟨T, 3, none⟩ (.int .i64 (t 2 + c 2))) lo T := kp_total K2 S2.loT _ _
          clear S2 K2
          go_wp2
          go_region
          all_goals
            go_wp2
            go_roundw
            case rel => exact ⟨2 + 1, by omega, by go_num, st_drew S3, kp_drew K3⟩
            case measure => simp [intOf]
        · have q1 : wr.cell? ⟨T, 1 + 3, none⟩ = some (.int .i64 (t 3)) := by simp [World.cell?, S2.blk, tt]
          have q2 : wr.frozen? ⟨T, 1 + 3, none⟩ = false := by simp [World.frozen?, S2.blk]
          simp only [Nat.reduceAdd] at q1 q2
          obtain ⟨z1, z2⟩ := HTB.out 3 (by omega)
          obtain ⟨z3, z4⟩ := HCB.out 3 (by omega)
          have S3 : St (wr.setCell ⟨T, 4, none⟩ (.int .i64 (t 3 + c 3))) lo T v' xs' (m + 1) (more R m [.string g, .string (S n), .string (S (c 0)), .string (S (c 1)), .string (S (c 2)), .string (S (c 3))]) (tt t c (3 + 1) 0) (tt t c (3 + 1) 1) (tt t c (3 + 1) 2) (tt t c (3 + 1) 3) := st_total S2 (by simp [tt])
          have K3 : Kp w (wr.setCell ⟨T, 4, none⟩ (.int .i64 (t 3 + c 3))) lo T := kp_total K2 S2.loT _ _
          clear S2 K2
          go_wp2
          go_region
          all_goals
            go_wp2
            go_roundw
            case rel => exact ⟨3 + 1, by omega, by go_num, st_drew S3, kp_drew K3⟩
            case measure => simp [intOf]
end Go.Proofs.Qxb6003329aDoor.Ad
