/- Plain mathematics for the Lead laws: the order of byte strings, places in a sorted row, the election. No Go here. -/
namespace Go.Proofs.Qxb6603051a.Pl

/-! ### The order of byte strings -/
def lessL : List UInt8 → List UInt8 → Bool
  | _, [] => false
  | [], _ :: _ => true
  | x :: xs, y :: ys => if x = y then lessL xs ys else decide (x < y)

theorem lessL_irrefl : ∀ a, lessL a a = false
  | [] => rfl
  | x :: xs => by simp [lessL, lessL_irrefl xs]

theorem lessL_trans : ∀ a b c, lessL a b = true → lessL b c = true → lessL a c = true
  | a, [], c, h, _ => by cases a <;> simp [lessL] at h
  | a, y :: ys, [], _, h => by simp [lessL] at h
  | [], y :: ys, z :: zs, _, _ => by simp [lessL]
  | x :: xs, y :: ys, z :: zs, h1, h2 => by
    simp only [lessL] at h1 h2 ⊢
    by_cases e1 : x = y
    · subst e1
      by_cases e2 : x = z
      · subst e2
        simp only [if_true] at h1 h2 ⊢
        exact lessL_trans xs ys zs h1 h2
      · rw [if_neg e2] at h2 ⊢
        exact h2
    · rw [if_neg e1] at h1
      by_cases e2 : y = z
      · subst e2
        rw [if_neg e1]
        exact h1
      · rw [if_neg e2] at h2
        have h1' : x < y := by simpa using h1
        have h2' : y < z := by simpa using h2
        rw [UInt8.lt_iff_toNat_lt] at h1' h2'
        have hne : x ≠ z := fun e => by subst e; omega
        rw [if_neg hne]
        simp only [decide_eq_true_eq, UInt8.lt_iff_toNat_lt]
        omega

theorem lessL_total : ∀ a b, lessL a b = false → lessL b a = false → a = b
  | [], [], _, _ => rfl
  | [], _ :: _, h, _ => by simp [lessL] at h
  | _ :: _, [], _, h => by simp [lessL] at h
  | x :: xs, y :: ys, h1, h2 => by
    simp only [lessL] at h1 h2
    by_cases e : x = y
    · subst e
      simp only [if_true] at h1 h2
      rw [lessL_total xs ys h1 h2]
    · rw [if_neg e] at h1
      rw [if_neg (fun h => e h.symm)] at h2
      exfalso
      simp only [decide_eq_false_iff_not, UInt8.lt_iff_toNat_lt] at h1 h2
      exact e (UInt8.toNat_inj.1 (by omega))

def lessB (a b : ByteArray) : Bool := lessL a.data.toList b.data.toList
def lessD (a b : ByteArray) (k : Nat) : Bool := lessL (a.data.toList.drop k) (b.data.toList.drop k)

theorem ba_ext {a b : ByteArray} (h : a.data.toList = b.data.toList) : a = b := by
  cases a; cases b; simp_all [← Array.toList_inj]

theorem lessB_zero (a b : ByteArray) : lessB a b = lessD a b 0 := rfl

theorem drop_at (a : ByteArray) (k : Nat) (h : k < a.size) : a.data.toList.drop k = a[k] :: a.data.toList.drop (k + 1) := by
  rw [List.drop_eq_getElem_cons (by simpa using h)]; rfl

theorem lessD_eq (a b : ByteArray) (k : Nat) (ha : k < a.size) (hb : k < b.size) (h : a[k].toNat = b[k].toNat) : lessD a b k = lessD a b (k + 1) := by
  unfold lessD
  rw [drop_at a k ha, drop_at b k hb]
  have : a[k] = b[k] := UInt8.toNat_inj.1 h
  simp only [lessL, this, if_true]

theorem lessD_ne (a b : ByteArray) (k : Nat) (ha : k < a.size) (hb : k < b.size) (h : a[k].toNat ≠ b[k].toNat) : lessD a b k = decide (a[k].toNat < b[k].toNat) := by
  unfold lessD
  rw [drop_at a k ha, drop_at b k hb]
  have : a[k] ≠ b[k] := fun e => h (by rw [e])
  simp only [lessL, if_neg this, UInt8.lt_iff_toNat_lt]

theorem lessD_end (a b : ByteArray) (k : Nat) (ha : k ≤ a.size) (hb : k ≤ b.size) (h : k = a.size ∨ k = b.size) : lessD a b k = decide (a.size < b.size) := by
  unfold lessD
  by_cases hb' : k = b.size
  · rw [List.drop_of_length_le (l := b.data.toList) (by simp; omega)]
    cases List.drop k a.data.toList <;> (simp only [lessL]; symm; simp; omega)
  · have hka : k = a.size := by omega
    rw [List.drop_of_length_le (l := a.data.toList) (by simp; omega), drop_at b k (by omega)]
    simp only [lessL]
    symm; simp; omega

theorem lessB_irrefl (a : ByteArray) : lessB a a = false := lessL_irrefl _
theorem lessB_trans {a b c : ByteArray} (h1 : lessB a b = true) (h2 : lessB b c = true) : lessB a c = true := lessL_trans _ _ _ h1 h2
theorem lessB_total {a b : ByteArray} (h1 : lessB a b = false) (h2 : lessB b a = false) : a = b := ba_ext (lessL_total _ _ h1 h2)

/-! ### A sorted row, and places in it -/
def Sorted (live : Nat → ByteArray) (n : Nat) : Prop := ∀ i j, i < j → j < n → lessB (live i) (live j) = true

theorem sorted_of_next {live : Nat → ByteArray} {n : Nat} (h : ∀ i, i + 1 < n → lessB (live i) (live (i + 1)) = true) : Sorted live n := by
  intro i j hij hjn
  obtain ⟨d, rfl⟩ : ∃ d, j = i + 1 + d := ⟨j - (i + 1), by omega⟩
  clear hij
  induction d with
  | zero => exact h i (by omega)
  | succ d ih => exact lessB_trans (ih (by omega)) (h (i + 1 + d) (by omega))

def pos (live : Nat → ByteArray) (id : ByteArray) : Nat → Int
  | 0 => -1
  | n + 1 => if live n = id then n else pos live id n

theorem pos_range (live : Nat → ByteArray) (id : ByteArray) : ∀ n, -1 ≤ pos live id n ∧ pos live id n < n
  | 0 => by simp [pos]
  | n + 1 => by
    have := pos_range live id n
    unfold pos
    split <;> omega

theorem pos_none {live : Nat → ByteArray} {id : ByteArray} : ∀ {n}, (∀ i, i < n → live i ≠ id) → pos live id n = -1
  | 0, _ => rfl
  | n + 1, h => by
    unfold pos
    rw [if_neg (h n (by omega))]
    exact pos_none fun i hi => h i (by omega)

theorem pos_spec {live : Nat → ByteArray} {id : ByteArray} : ∀ {n}, 0 ≤ pos live id n → live (pos live id n).toNat = id
  | 0, h => by simp [pos] at h
  | n + 1, h => by
    unfold pos at h ⊢
    split
    · rename_i e; simpa using e
    · rename_i e; rw [if_neg e] at h; exact pos_spec h

theorem sorted_inj {live : Nat → ByteArray} {n i j : Nat} (hs : Sorted live n) (hi : i < n) (hj : j < n) (e : live i = live j) : i = j := by
  rcases Nat.lt_trichotomy i j with h | h | h
  · have := hs i j h hj; rw [e, lessB_irrefl] at this; cases this
  · exact h
  · have := hs j i h hi; rw [e, lessB_irrefl] at this; cases this

theorem pos_at {live : Nat → ByteArray} {n i : Nat} (hs : Sorted live n) (hi : i < n) : pos live (live i) n = i := by
  by_cases h : 0 ≤ pos live (live i) n
  · have h1 := pos_spec h
    have h2 := pos_range live (live i) n
    have := sorted_inj hs (i := (pos live (live i) n).toNat) (by omega) hi h1
    omega
  · exfalso
    have key : ∀ m, i < m → 0 ≤ pos live (live i) m := by
      intro m
      induction m with
      | zero => intro h; omega
      | succ m ih =>
        intro hm
        unfold pos
        split
        · omega
        · rename_i e
          by_cases e2 : i = m
          · subst e2; exact absurd rfl e
          · exact ih (by omega)
    exact h (key n hi)

/-- Where the search ends. -/
theorem pos_found {live : Nat → ByteArray} {n lo : Nat} {id : ByteArray} (hs : Sorted live n) (hlo : lo < n) (e : live lo = id) : pos live id n = lo := by
  subst e; exact pos_at hs hlo

theorem pos_missed {live : Nat → ByteArray} {n lo : Nat} {id : ByteArray} (hs : Sorted live n) (h1 : ∀ i, i < lo → lessB (live i) id = true) (h2 : ∀ i, lo ≤ i → i < n → lessB (live i) id = false)
    (hne : lo < n → live lo ≠ id) : pos live id n = -1 := by
  refine pos_none fun i hi e => ?_
  by_cases hil : i < lo
  · have := h1 i hil; rw [e, lessB_irrefl] at this; cases this
  · by_cases e2 : i = lo
    · subst e2; exact hne hi e
    · have := h2 lo (Nat.le_refl _) (by omega)
      rw [← e] at this
      rw [hs lo i (by omega) hi] at this
      cases this

/-! ### The election -/
def eb (closed : Nat → Bool) (leads : Nat → Int) (a b : Nat) : Bool :=
  if closed a != closed b then !closed a else if leads a != leads b then decide (leads a < leads b) else decide (a < b)

variable {closed : Nat → Bool} {leads : Nat → Int}

theorem eb_iff (a b : Nat) : eb closed leads a b = true ↔ (closed a = false ∧ closed b = true) ∨ (closed a = closed b ∧ (leads a < leads b ∨ (leads a = leads b ∧ a < b))) := by
  unfold eb
  by_cases h : closed a = closed b
  · have h' : (closed a != closed b) = false := by simp [h]
    rw [h', if_neg (by simp)]
    by_cases h2 : leads a = leads b
    · have h2' : (leads a != leads b) = false := by simp [h2]
      rw [h2', if_neg (by simp)]
      simp [h, h2]
    · have h2' : (leads a != leads b) = true := by simp [h2]
      rw [h2', if_pos rfl]
      simp [h, h2]
  · have h' : (closed a != closed b) = true := by simp [h]
    rw [h', if_pos rfl]
    cases ha : closed a <;> cases hb : closed b <;> simp_all

theorem eb_irrefl (a : Nat) : eb closed leads a a = false := by simp [eb]

theorem eb_trans {a b c : Nat} (h1 : eb closed leads a b = true) (h2 : eb closed leads b c = true) : eb closed leads a c = true := by
  rw [eb_iff] at *
  rcases h1 with ⟨x1, x2⟩ | ⟨x1, x2⟩ <;> rcases h2 with ⟨y1, y2⟩ | ⟨y1, y2⟩
  · rw [x2] at y1; cases y1
  · exact Or.inl ⟨x1, by rw [← y1]; exact x2⟩
  · exact Or.inl ⟨by rw [x1]; exact y1, y2⟩
  · refine Or.inr ⟨x1.trans y1, ?_⟩
    omega

theorem eb_total {a b : Nat} (h1 : eb closed leads a b = false) (h2 : eb closed leads b a = false) : a = b := by
  have n1 : ¬ (eb closed leads a b = true) := by simp [h1]
  have n2 : ¬ (eb closed leads b a = true) := by simp [h2]
  rw [eb_iff] at n1 n2
  by_cases h : closed a = closed b
  · have a1 : ¬ (leads a < leads b) := fun hh => n1 (Or.inr ⟨h, Or.inl hh⟩)
    have a2 : ¬ (leads b < leads a) := fun hh => n2 (Or.inr ⟨h.symm, Or.inl hh⟩)
    have a3 : ¬ (a < b) := fun hh => n1 (Or.inr ⟨h, Or.inr ⟨by omega, hh⟩⟩)
    have a4 : ¬ (b < a) := fun hh => n2 (Or.inr ⟨h.symm, Or.inr ⟨by omega, hh⟩⟩)
    omega
  · exfalso
    cases ha : closed a <;> cases hb : closed b
    · exact h (by rw [ha, hb])
    · exact n1 (Or.inl ⟨ha, hb⟩)
    · exact n2 (Or.inl ⟨hb, ha⟩)
    · exact h (by rw [ha, hb])

/-- The best of the first k places. -/
def best (closed : Nat → Bool) (leads : Nat → Int) (p : Nat → Int) : Nat → Int
  | 0 => -1
  | k + 1 => if 0 ≤ p k ∧ (best closed leads p k < 0 ∨ eb closed leads (p k).toNat (best closed leads p k).toNat = true) then p k else best closed leads p k

/-- c is the best of the first m places. -/
def IsBest (closed : Nat → Bool) (leads : Nat → Int) (p : Nat → Int) (m : Nat) (c : Int) : Prop :=
  (c = -1 ∧ ∀ j, j < m → p j < 0) ∨ (0 ≤ c ∧ (∃ j, j < m ∧ p j = c) ∧ ∀ j, j < m → 0 ≤ p j → eb closed leads (p j).toNat c.toNat = false)

theorem best_isBest (p : Nat → Int) : ∀ m, IsBest closed leads p m (best closed leads p m)
  | 0 => Or.inl ⟨rfl, fun j hj => by omega⟩
  | k + 1 => by
    have ih := best_isBest p k
    unfold best
    by_cases h : 0 ≤ p k ∧ (best closed leads p k < 0 ∨ eb closed leads (p k).toNat (best closed leads p k).toNat = true)
    · rw [if_pos h]
      obtain ⟨h0, h1⟩ := h
      refine Or.inr ⟨h0, ⟨k, by omega, rfl⟩, fun j hj hpj => ?_⟩
      by_cases e : j = k
      · subst e; exact eb_irrefl _
      · rcases ih with ⟨_, ih⟩ | ⟨hb0, _, ih⟩
        · have := ih j (by omega); omega
        · have h2 := ih j (by omega) hpj
          have h3 : eb closed leads (p k).toNat (best closed leads p k).toNat = true := by
            rcases h1 with h1 | h1
            · omega
            · exact h1
          cases hc : eb closed leads (p j).toNat (p k).toNat
          · rfl
          · rw [eb_trans hc h3] at h2; cases h2
    · rw [if_neg h]
      rcases ih with ⟨hb, ih⟩ | ⟨hb0, ⟨j0, hj0, e0⟩, ih⟩
      · refine Or.inl ⟨hb, fun j hj => ?_⟩
        by_cases e : j = k
        · subst e
          rcases Int.lt_or_le (p j) 0 with hl | hl
          · exact hl
          · exact absurd ⟨hl, Or.inl (by omega)⟩ h
        · exact ih j (by omega)
      · refine Or.inr ⟨hb0, ⟨j0, by omega, e0⟩, fun j hj hpj => ?_⟩
        by_cases e : j = k
        · subst e
          cases hc : eb closed leads (p j).toNat (best closed leads p j).toNat
          · rfl
          · exact absurd ⟨hpj, Or.inr hc⟩ h
        · exact ih j (by omega) hpj

theorem isBest_unique {p : Nat → Int} {m : Nat} {c d : Int} (hc : IsBest closed leads p m c) (hd : IsBest closed leads p m d) : c = d := by
  rcases hc with ⟨rfl, hc⟩ | ⟨c0, ⟨j, hj, ej⟩, hc⟩ <;> rcases hd with ⟨rfl, hd⟩ | ⟨d0, ⟨i, hi, ei⟩, hd⟩
  · rfl
  · have := hc i hi; omega
  · have := hd j hj; omega
  · have h1 := hc i hi (by omega)
    have h2 := hd j hj (by omega)
    rw [ei] at h1
    rw [ej] at h2
    have := eb_total h2 h1
    omega

theorem best_range {p : Nat → Int} {n : Int} (hn : 0 ≤ n) (hp : ∀ j, -1 ≤ p j ∧ p j < n) (m : Nat) : -1 ≤ best closed leads p m ∧ best closed leads p m < n := by
  rcases best_isBest (closed := closed) (leads := leads) p m with ⟨h, _⟩ | ⟨h, ⟨j, _, e⟩, _⟩
  · omega
  · have := hp j; omega

end Go.Proofs.Qxb6603051a.Pl
