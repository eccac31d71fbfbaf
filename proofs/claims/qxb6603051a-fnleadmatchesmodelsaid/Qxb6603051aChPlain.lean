/- Plain mathematics: the choice by successive filters is the best place. No Go here. -/
import Derived.Test.Qxb6603051aPlain
namespace Go.Proofs.Qxb6603051a.Ch
open Go.Proofs.Qxb6603051a.Pl

def anyL (p : Nat → Int) : Nat → Bool
  | 0 => false
  | k + 1 => anyL p k || decide (0 ≤ p k)

def anyO (closed : Nat → Bool) (p : Nat → Int) : Nat → Bool
  | 0 => false
  | k + 1 => anyO closed p k || (decide (0 ≤ p k) && !closed (p k).toNat)

def elig (O : Bool) (closed : Nat → Bool) (p : Nat → Int) (j : Nat) : Bool := decide (0 ≤ p j) && !(O && closed (p j).toNat)

def lst (O : Bool) (closed : Nat → Bool) (leads : Nat → Int) (p : Nat → Int) : Nat → Bool × Int
  | 0 => (false, 0)
  | k + 1 => if elig O closed p k = true ∧ ((lst O closed leads p k).1 = false ∨ leads (p k).toNat < (lst O closed leads p k).2) then (true, leads (p k).toNat) else lst O closed leads p k

def pk (O : Bool) (closed : Nat → Bool) (leads : Nat → Int) (p : Nat → Int) (least : Int) (reps : Nat → ByteArray) : Nat → Bool × ByteArray
  | 0 => (false, ⟨#[]⟩)
  | k + 1 => if (elig O closed p k = true ∧ leads (p k).toNat = least) ∧ ((pk O closed leads p least reps k).1 = false ∨ lessB (reps k) (pk O closed leads p least reps k).2 = true) then (true, reps k) else pk O closed leads p least reps k

variable {O : Bool} {closed : Nat → Bool} {leads : Nat → Int} {p : Nat → Int} {reps : Nat → ByteArray} {least : Int}

theorem anyL_true : ∀ {m}, anyL p m = true → ∃ j, j < m ∧ 0 ≤ p j
  | 0, h => by cases h
  | k + 1, h => by
    unfold anyL at h
    rw [Bool.or_eq_true] at h
    rcases h with h | h
    · obtain ⟨j, hj, h⟩ := anyL_true h
      exact ⟨j, by omega, h⟩
    · exact ⟨k, by omega, by simpa using h⟩

theorem anyL_false : ∀ {m}, anyL p m = false → ∀ j, j < m → p j < 0
  | 0, _, j, hj => by omega
  | k + 1, h, j, hj => by
    unfold anyL at h
    rw [Bool.or_eq_false_iff] at h
    by_cases e : j = k
    · subst e
      have := h.2
      simp at this
      omega
    · exact anyL_false h.1 j (by omega)

theorem anyO_true : ∀ {m}, anyO closed p m = true → ∃ j, j < m ∧ 0 ≤ p j ∧ closed (p j).toNat = false
  | 0, h => by cases h
  | k + 1, h => by
    unfold anyO at h
    rw [Bool.or_eq_true] at h
    rcases h with h | h
    · obtain ⟨j, hj, h⟩ := anyO_true h
      exact ⟨j, by omega, h⟩
    · simp only [Bool.and_eq_true, decide_eq_true_eq, Bool.not_eq_true'] at h
      exact ⟨k, by omega, h.1, h.2⟩

theorem anyO_false : ∀ {m}, anyO closed p m = false → ∀ j, j < m → 0 ≤ p j → closed (p j).toNat = true
  | 0, _, j, hj, _ => by omega
  | k + 1, h, j, hj, hp => by
    unfold anyO at h
    rw [Bool.or_eq_false_iff] at h
    by_cases e : j = k
    · subst e
      have := h.2
      simpa [hp] using this
    · exact anyO_false h.1 j (by omega) hp

theorem elig_iff (j : Nat) : elig O closed p j = true ↔ 0 ≤ p j ∧ (O = true → closed (p j).toNat = false) := by
  unfold elig
  cases O <;> simp

theorem lst_spec : ∀ m, ((lst O closed leads p m).1 = false → ∀ j, j < m → elig O closed p j = false) ∧
    ((lst O closed leads p m).1 = true → (∃ j, j < m ∧ elig O closed p j = true ∧ leads (p j).toNat = (lst O closed leads p m).2) ∧ ∀ j, j < m → elig O closed p j = true → (lst O closed leads p m).2 ≤ leads (p j).toNat)
  | 0 => ⟨fun _ j hj => by omega, (fun h => by cases h)⟩
  | k + 1 => by
    have ih := lst_spec k
    unfold lst
    by_cases c : elig O closed p k = true ∧ ((lst O closed leads p k).1 = false ∨ leads (p k).toNat < (lst O closed leads p k).2)
    · rw [if_pos c]
      refine ⟨(fun h => by cases h), fun _ => ⟨⟨k, by omega, c.1, rfl⟩, fun j hj he => ?_⟩⟩
      show leads (p k).toNat ≤ leads (p j).toNat
      by_cases e : j = k
      · subst e; omega
      · cases hf : (lst O closed leads p k).1
        · rw [ih.1 hf j (by omega)] at he; cases he
        · have := (ih.2 hf).2 j (by omega) he
          rcases c.2 with c2 | c2
          · rw [hf] at c2; cases c2
          · omega
    · rw [if_neg c]
      refine ⟨fun h j hj => ?_, fun h => ?_⟩
      · by_cases e : j = k
        · subst e
          cases he : elig O closed p j
          · rfl
          · exact absurd ⟨he, Or.inl h⟩ c
        · exact ih.1 h j (by omega)
      · obtain ⟨⟨j0, hj0, h1, h2⟩, h3⟩ := ih.2 h
        refine ⟨⟨j0, by omega, h1, h2⟩, fun j hj he => ?_⟩
        by_cases e : j = k
        · subst e
          rcases Int.lt_or_le (leads (p j).toNat) (lst O closed leads p j).2 with hl | hl
          · exact absurd ⟨he, Or.inr hl⟩ c
          · exact hl
        · exact h3 j (by omega) he

theorem pk_spec : ∀ m, ((pk O closed leads p least reps m).1 = false → ∀ j, j < m → ¬ (elig O closed p j = true ∧ leads (p j).toNat = least)) ∧
    ((pk O closed leads p least reps m).1 = true → (∃ j, j < m ∧ (elig O closed p j = true ∧ leads (p j).toNat = least) ∧ reps j = (pk O closed leads p least reps m).2) ∧
      ∀ j, j < m → (elig O closed p j = true ∧ leads (p j).toNat = least) → lessB (reps j) (pk O closed leads p least reps m).2 = false)
  | 0 => ⟨fun _ j hj => by omega, (fun h => by cases h)⟩
  | k + 1 => by
    have ih := pk_spec k
    unfold pk
    by_cases c : (elig O closed p k = true ∧ leads (p k).toNat = least) ∧ ((pk O closed leads p least reps k).1 = false ∨ lessB (reps k) (pk O closed leads p least reps k).2 = true)
    · rw [if_pos c]
      refine ⟨(fun h => by cases h), fun _ => ⟨⟨k, by omega, c.1, rfl⟩, fun j hj he => ?_⟩⟩
      show lessB (reps j) (reps k) = false
      by_cases e : j = k
      · subst e; exact lessB_irrefl _
      · cases hf : (pk O closed leads p least reps k).1
        · exact absurd he (ih.1 hf j (by omega))
        · have h1 := (ih.2 hf).2 j (by omega) he
          rcases c.2 with c2 | c2
          · rw [hf] at c2; cases c2
          · cases hc : lessB (reps j) (reps k)
            · rfl
            · rw [lessB_trans hc c2] at h1; cases h1
    · rw [if_neg c]
      refine ⟨fun h j hj => ?_, fun h => ?_⟩
      · by_cases e : j = k
        · subst e
          exact fun he => c ⟨he, Or.inl h⟩
        · exact ih.1 h j (by omega)
      · obtain ⟨⟨j0, hj0, h1, h2⟩, h3⟩ := ih.2 h
        refine ⟨⟨j0, by omega, h1, h2⟩, fun j hj he => ?_⟩
        by_cases e : j = k
        · subst e
          cases hc : lessB (reps j) (pk O closed leads p least reps j).2
          · rfl
          · exact absurd ⟨he, Or.inr hc⟩ c
        · exact h3 j (by omega) he

/-- What the choice answers. -/
def choose (n : Nat) (live : Nat → ByteArray) (leads : Nat → Int) (closed : Nat → Bool) (reps : Nat → ByteArray) (m : Nat) : Int :=
  let p := fun j => pos live (reps j) n
  let O := anyO closed p m
  if anyL p m = false then -1
  else if (pk O closed leads p (lst O closed leads p m).2 reps m).1 = false then -1
  else pos live (pk O closed leads p (lst O closed leads p m).2 reps m).2 n

theorem choose_best (n : Nat) (live : Nat → ByteArray) (leads : Nat → Int) (closed : Nat → Bool) (reps : Nat → ByteArray) (m : Nat) (hs : Sorted live n) :
    choose n live leads closed reps m = best closed leads (fun j => pos live (reps j) n) m := by
  refine isBest_unique (closed := closed) (leads := leads) (p := fun j => pos live (reps j) n) (m := m) ?_ (best_isBest _ _)
  unfold choose
  simp only
  generalize hp : (fun j => pos live (reps j) n) = p
  have hpj : ∀ j, p j = pos live (reps j) n := fun j => by rw [← hp]
  generalize hO : anyO closed p m = O
  by_cases hL : anyL p m = false
  · rw [if_pos hL]
    exact Or.inl ⟨rfl, anyL_false hL⟩
  · rw [if_neg hL]
    have hL' : anyL p m = true := by simpa using hL
    -- one is eligible
    obtain ⟨je, hje, ee⟩ : ∃ j, j < m ∧ elig O closed p j = true := by
      cases hOv : O
      · obtain ⟨j, hj, h⟩ := anyL_true hL'
        exact ⟨j, hj, (elig_iff j).2 ⟨h, fun h => by cases h⟩⟩
      · rw [hOv] at hO
        obtain ⟨j, hj, h1, h2⟩ := anyO_true hO
        exact ⟨j, hj, (elig_iff j).2 ⟨h1, fun _ => h2⟩⟩
    have hl := lst_spec (O := O) (closed := closed) (leads := leads) (p := p) m
    generalize hlm : lst O closed leads p m = lm at hl
    have hl1 : lm.1 = true := by
      cases h : lm.1
      · rw [hl.1 h je hje] at ee; cases ee
      · rfl
    obtain ⟨⟨jl, hjl, el, vl⟩, hmin⟩ := hl.2 hl1
    have hk := pk_spec (O := O) (closed := closed) (leads := leads) (p := p) (least := lm.2) (reps := reps) m
    generalize hpm : pk O closed leads p lm.2 reps m = pm at hk
    have hp1 : pm.1 = true := by
      cases h : pm.1
      · exact absurd ⟨el, vl⟩ (hk.1 h jl hjl)
      · rfl
    rw [if_neg (by simp [hp1])]
    obtain ⟨⟨j0, hj0, ⟨e0, v0⟩, hr0⟩, hleast⟩ := hk.2 hp1
    have he0 := (elig_iff (O := O) (closed := closed) (p := p) j0).1 e0
    have hc0 : pos live pm.2 n = p j0 := by rw [hpj, hr0]
    rw [hc0]
    refine Or.inr ⟨he0.1, ⟨j0, hj0, rfl⟩, fun j hj h0 => ?_⟩
    cases hc : eb closed leads (p j).toNat (p j0).toNat
    · rfl
    · exfalso
      rw [eb_iff] at hc
      rcases hc with ⟨x1, x2⟩ | ⟨x1, x2⟩
      · cases hOv : O
        · rw [hOv] at hO
          rw [anyO_false hO j hj h0] at x1; cases x1
        · rw [he0.2 hOv] at x2; cases x2
      · have ej : elig O closed p j = true := (elig_iff j).2 ⟨h0, fun h => by rw [x1]; exact he0.2 h⟩
        have hm := hmin j hj ej
        rcases x2 with x2 | ⟨x2, x3⟩
        · omega
        · have h1 := hleast j hj ⟨ej, by omega⟩
          have r0 := pos_range live (reps j0) n
          rw [← hpj] at r0
          have s1 : live (p j).toNat = reps j := by rw [hpj]; exact pos_spec (by rw [← hpj]; exact h0)
          have s2 : live (p j0).toNat = reps j0 := by rw [hpj]; exact pos_spec (by rw [← hpj]; exact he0.1)
          have := hs (p j).toNat (p j0).toNat x3 (by omega)
          rw [s1, s2, hr0, h1] at this
          cases this

theorem pk_size {b : Nat} (m : Nat) (h : ∀ i, i < m → (reps i).size ≤ b) : (pk O closed leads p least reps m).2.size ≤ b := by
  induction m with
  | zero => exact Nat.zero_le _
  | succ k ih =>
    unfold pk
    split
    · exact h k (by omega)
    · exact ih (fun i hi => h i (by omega))

/-! ### the steps -/
theorem elig_neg {k : Nat} (h : p k < 0) : elig O closed p k = false := by
  cases he : elig O closed p k
  · rfl
  · have := ((elig_iff k).1 he).1; omega
theorem elig_shut {k a : Nat} (h : p k = a) (hc : closed a = true) : elig true closed p k = false := by
  cases he : elig true closed p k
  · rfl
  · have := ((elig_iff k).1 he).2 rfl
    rw [h] at this
    simp [hc] at this
theorem elig_open {k a : Nat} (h : p k = a) (hc : closed a = false) : elig O closed p k = true := (elig_iff k).2 ⟨by omega, fun _ => by rw [h]; simpa using hc⟩
theorem elig_any {k a : Nat} (h : p k = a) : elig false closed p k = true := (elig_iff k).2 ⟨by omega, fun h => by cases h⟩

theorem lst_skip {k : Nat} (h : elig O closed p k = false) : lst O closed leads p (k + 1) = lst O closed leads p k := by
  conv => lhs; unfold lst
  rw [if_neg (fun hh => by rw [h] at hh; cases hh.1)]
theorem lst_take {k a : Nat} (h : elig O closed p k = true) (ha : p k = a) (hh : (lst O closed leads p k).1 = false ∨ leads a < (lst O closed leads p k).2) : lst O closed leads p (k + 1) = (true, leads a) := by
  conv => lhs; unfold lst
  rw [if_pos ⟨h, by rw [ha]; simpa using hh⟩, ha]
  simp
theorem lst_pass {k a : Nat} (ha : p k = a) (h1 : (lst O closed leads p k).1 = true) (h2 : ¬ leads a < (lst O closed leads p k).2) : lst O closed leads p (k + 1) = lst O closed leads p k := by
  conv => lhs; unfold lst
  rw [if_neg]
  rintro ⟨_, h | h⟩
  · rw [h1] at h; cases h
  · rw [ha] at h; exact h2 (by simpa using h)

theorem pk_skip {k : Nat} (h : elig O closed p k = false) : pk O closed leads p least reps (k + 1) = pk O closed leads p least reps k := by
  conv => lhs; unfold pk
  rw [if_neg (fun hh => by rw [h] at hh; cases hh.1.1)]
theorem pk_other {k a : Nat} (ha : p k = a) (h : leads a ≠ least) : pk O closed leads p least reps (k + 1) = pk O closed leads p least reps k := by
  conv => lhs; unfold pk
  rw [if_neg]
  rintro ⟨⟨_, h2⟩, _⟩
  rw [ha] at h2
  exact h (by simpa using h2)
theorem pk_take {k a : Nat} (h : elig O closed p k = true) (ha : p k = a) (hl : leads a = least) (hh : (pk O closed leads p least reps k).1 = false ∨ lessB (reps k) (pk O closed leads p least reps k).2 = true) : pk O closed leads p least reps (k + 1) = (true, reps k) := by
  conv => lhs; unfold pk
  rw [if_pos ⟨⟨h, by rw [ha]; simpa using hl⟩, hh⟩]
theorem pk_pass {k : Nat} (h1 : (pk O closed leads p least reps k).1 = true) (h2 : lessB (reps k) (pk O closed leads p least reps k).2 = false) : pk O closed leads p least reps (k + 1) = pk O closed leads p least reps k := by
  conv => lhs; unfold pk
  rw [if_neg]
  rintro ⟨_, h | h⟩
  · rw [h1] at h; cases h
  · rw [h2] at h; cases h
end Go.Proofs.Qxb6603051a.Ch
