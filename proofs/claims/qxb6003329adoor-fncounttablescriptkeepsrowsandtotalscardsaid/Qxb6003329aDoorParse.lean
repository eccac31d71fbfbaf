/- The count-table law: what the law's reader reads off a number's decimal text is that number. -/
import Derived.Test.Qxb6003329aDoorFmt
namespace Go.Proofs.Qxb6003329aDoor.Pr
open Go.RowKit
open Go.Proofs.Qxb6003329aDoor.Fm

/-! ### plain: the digits of a number -/
def val (l : List UInt8) : Nat := l.foldl (fun a c => a * 10 + (c.toNat - 48)) 0

theorem val_snoc (l : List UInt8) (c : UInt8) : val (l ++ [c]) = val l * 10 + (c.toNat - 48) := by simp [val]

theorem dig_nat (d : Nat) (h : d < 10) : (UInt8.ofNat (48 + d)).toNat = 48 + d := by
  rw [UInt8.toNat_ofNat']
  omega

theorem dd_val (u : Nat) : val (Lib.decDigits u) = u := by
  induction u using Nat.strongRecOn with
  | _ u ih =>
    rw [Lib.decDigits]
    split
    · rename_i h
      show val [UInt8.ofNat (48 + u)] = u
      simp only [val, List.foldl]
      rw [dig_nat u h]
      omega
    · rename_i h
      rw [val_snoc, ih (u / 10) (by omega), dig_nat _ (by omega)]
      omega

theorem dd_dig (u : Nat) : ∀ c ∈ Lib.decDigits u, 48 ≤ c.toNat ∧ c.toNat ≤ 57 := by
  induction u using Nat.strongRecOn with
  | _ u ih =>
    rw [Lib.decDigits]
    split
    · rename_i h
      intro c hc
      rw [List.mem_singleton] at hc
      subst hc
      rw [dig_nat u h]
      omega
    · rename_i h
      intro c hc
      rw [List.mem_append] at hc
      rcases hc with hc | hc
      · exact ih (u / 10) (by omega) c hc
      · rw [List.mem_singleton] at hc
        subst hc
        rw [dig_nat _ (by omega)]
        omega

theorem dd_ne (u : Nat) : Lib.decDigits u ≠ [] := by
  rw [Lib.decDigits]
  split <;> simp

theorem dd_head (u : Nat) (hu : u ≠ 0) : (Lib.decDigits u).head?.map UInt8.toNat ≠ some 48 := by
  induction u using Nat.strongRecOn with
  | _ u ih =>
    rw [Lib.decDigits]
    split
    · rename_i h
      simp only [List.head?_cons, Option.map_some]
      rw [dig_nat u h]
      intro e
      simp at e
      omega
    · rename_i h
      have := ih (u / 10) (by omega) (by omega)
      have hn := dd_ne (u / 10)
      cases hl : Lib.decDigits (u / 10) with
      | nil => exact absurd hl hn
      | cons a l => rw [hl] at this; simpa using this

theorem dd_len (k : Nat) : ∀ u, u < 10 ^ (k + 1) → (Lib.decDigits u).length ≤ k + 1 := by
  induction k with
  | zero =>
    intro u hu
    rw [Lib.decDigits, dif_pos (by simpa using hu)]
    simp
  | succ k ih =>
    intro u hu
    rw [Lib.decDigits]
    split
    · simp
    · rw [List.length_append]
      have := ih (u / 10) (by rw [Nat.pow_succ] at hu; omega)
      simp
      omega

theorem dd_zero : Lib.decDigits 0 = [48] := by rw [Lib.decDigits, dif_pos (by omega)]; rfl

theorem val_take_lt (l : List UInt8) (hd : ∀ c ∈ l, 48 ≤ c.toNat ∧ c.toNat ≤ 57) : ∀ k, val (l.take k) < 10 ^ k
  | 0 => by simp [val]
  | k + 1 => by
    have ih := val_take_lt l hd k
    by_cases h : k < l.length
    · rw [List.take_succ_eq_append_getElem h, val_snoc, Nat.pow_succ]
      have := hd l[k] (List.getElem_mem h)
      omega
    · rw [List.take_of_length_le (by omega)]
      rw [List.take_of_length_le (by omega)] at ih
      rw [Nat.pow_succ]
      omega

/-! ### the reader -/
/-- What the reader is told of the digits. -/
structure Dig (d : ByteArray) (u : Nat) : Prop where
  pos : 0 < d.size
  len : d.size ≤ 19
  dig : ∀ k, (h : k < d.size) → 48 ≤ d[k].toNat ∧ d[k].toNat ≤ 57
  head : ∀ (h : 0 < d.size), d[0].toNat = 48 → d.size = 1
  val : val d.data.toList = u

theorem dig_of (u : Nat) (hu : u ≤ 9223372036854775808) : Dig ⟨(Lib.decDigits u).toArray⟩ u := by
  have hl : (⟨(Lib.decDigits u).toArray⟩ : ByteArray).size = (Lib.decDigits u).length := by show (Lib.decDigits u).toArray.size = _; simp
  refine ⟨?_, ?_, ?_, ?_, ?_⟩
  · rw [hl]; exact List.length_pos_iff.2 (dd_ne u)
  · rw [hl]; exact dd_len 18 u (by omega)
  · intro k h
    have : (⟨(Lib.decDigits u).toArray⟩ : ByteArray)[k] = (Lib.decDigits u)[k]'(by rw [← hl]; exact h) := rfl
    rw [this]
    exact dd_dig u _ (List.getElem_mem _)
  · intro h h48
    rw [hl]
    have e : (⟨(Lib.decDigits u).toArray⟩ : ByteArray)[0] = (Lib.decDigits u)[0]'(by rw [← hl]; exact h) := rfl
    rw [e] at h48
    by_cases hu0 : u = 0
    · subst hu0; rw [dd_zero]; rfl
    · exfalso
      apply dd_head u hu0
      rw [List.head?_eq_getElem?, List.getElem?_eq_getElem (by rw [← hl]; exact h)]
      simp [h48]
  · show val (Lib.decDigits u).toArray.toList = u
    simp [dd_val]

def pv (d : ByteArray) (k : Nat) : Nat := val (d.data.toList.take k)

theorem pv_succ (d : ByteArray) (k : Nat) (h : k < d.size) : pv d (k + 1) = pv d k * 10 + (d[k].toNat - 48) := by
  unfold pv
  rw [List.take_succ_eq_append_getElem (by simpa using h), val_snoc]
  rfl

theorem pv_lt {d : ByteArray} {u : Nat} (D : Dig d u) (k : Nat) : pv d k < 10 ^ k := by
  refine val_take_lt _ (fun c hc => ?_) k
  obtain ⟨i, hi, rfl⟩ := List.getElem_of_mem hc
  exact D.dig i (by simpa using hi)

theorem pv_end {d : ByteArray} {u : Nat} (D : Dig d u) : pv d d.size = u := by
  unfold pv
  rw [List.take_of_length_le (by simp)]
  exact D.val

theorem pv_18 {d : ByteArray} {u k : Nat} (D : Dig d u) (hk : k < d.size) : pv d k ≤ 999999999999999999 := by
  have h1 := pv_lt D k
  have h2 : (10 : Nat) ^ k ≤ 10 ^ 18 := Nat.pow_le_pow_right (by omega) (by have := D.len; omega)
  omega

theorem mag_eq {d : ByteArray} {k y : Nat} (h : pv d (k + 1) = pv d k * 10 + (y - 48)) (hy : 48 ≤ y) : Value.int .u64 ((pv d k : Int) * 10 + ((y : Int) - 48)) = Value.int .u64 (pv d (k + 1) : Int) := by
  rw [h]
  congr 1
  omega

theorem head_or {d : ByteArray} {u : Nat} (D : Dig d u) : (((d[0]'D.pos).toNat : Int) == 48) = true ∧ ((d.size : Int) != 1) = false ∨ (((d[0]'D.pos).toNat : Int) == 48) = false := by
  by_cases h : (d[0]'D.pos).toNat = 48
  · exact Or.inl ⟨by simp [h], by have := D.head D.pos h; simp [this]⟩
  · exact Or.inr (by simp; omega)

theorem ext_whole (d : ByteArray) : d.extract 0 d.size = d := by simp

set_option maxRecDepth 100000 in
set_option maxHeartbeats 1000000 in
theorem parse_pos (d : ByteArray) (u : Nat) (hu : u ≤ 9223372036854775807) (D : Dig d u) (w : World) :
    Calls Tryd.prog 9 #[.string d] w fun e w' => e = .returned (.tuple #[.int .i64 (u : Int), .bool true]) ∧ w' = w := by
  have hp := D.pos
  have hl := D.len
  have hd0 := D.dig 0 hp
  have hm45 : ((d[0].toNat : Int) == 45) = false := by
    rw [beq_eq_false_iff_ne]
    omega
  have hpi : (0 : Int) < (d.size : Int) := by omega
  have hz : ((d.size : Int) == 0) = false := by
    rw [beq_eq_false_iff_ne]
    omega
  have h19 : decide ((19 : Int) < (d.size : Int)) = false := by simp; omega
  have hext := ext_whole d
  obtain ⟨d0a, d0b⟩ := hd0
  have hPE := hide (pv_end D)
  rcases head_or D with ⟨h48, h1⟩ | h48
  all_goals
    go_enter Tryd.func9, Tryd.ntmps9
    go_wp2
    go_loop [7, 8] (fun mg j => ∃ k : Nat, k ≤ d.size ∧ j = .int .i64 k ∧ mg = .int .u64 (pv d k : Int)) (fun _ j => d.size - (intOf j).toNat)
    case atStart => exact ⟨0, Nat.zero_le _, rfl, rfl⟩
    case round =>
      obtain ⟨k, hk, rfl, rfl⟩ := hrel
      by_cases hkl : k < d.size
      · have x18 := pv_18 D hkl
        have hdk := D.dig k hkl
        have HS := hide (pv_succ d k hkl)
        obtain ⟨da, db⟩ := hdk
        have dai : (48 : Int) ≤ (d[k].toNat : Int) := by omega
        have dbi : (d[k].toNat : Int) ≤ 57 := by omega
        have x18i : (pv d k : Int) ≤ 999999999999999999 := by omega
        clear hext
        go_wp2
        go_round
        case rel => exact ⟨k + 1, by omega, by go_num, mag_eq HS.out da⟩
        case measure => simp [intOf]; omega
      · obtain rfl : k = d.size := by omega
        have hui : (u : Int) ≤ 9223372036854775807 := by omega
        rw [hPE.out]
        clear hext hkl
        go_wp2
        go_ret2
        exact ⟨rfl, rfl⟩

set_option maxRecDepth 100000 in
set_option maxHeartbeats 1000000 in
theorem parse_neg (s d : ByteArray) (u : Nat) (hu0 : 1 ≤ u) (hu : u ≤ 9223372036854775807) (D : Dig d u) (hs : s.size = d.size + 1) (h45 : (s[0]'(by omega)).toNat = 45) (hext : s.extract 1 s.size = d) (w : World) :
    Calls Tryd.prog 9 #[.string s] w fun e w' => e = .returned (.tuple #[.int .i64 (-(u : Int)), .bool true]) ∧ w' = w := by
  have hp := D.pos
  have hl := D.len
  have hd0 := D.dig 0 hp
  have hsp : 0 < s.size := by omega
  have hm45 : ((s[0].toNat : Int) == 45) = true := by simp [h45]
  have hspi : (0 : Int) < (s.size : Int) := by omega
  have hs1 : (1 : Int) ≤ (s.size : Int) := by omega
  have hs1n : 1 ≤ s.size := by omega
  have HSZ := hide hs
  clear hs h45
  have hpi : (0 : Int) < (d.size : Int) := by omega
  have hz : ((d.size : Int) == 0) = false := by
    rw [beq_eq_false_iff_ne]
    omega
  have h19 : decide ((19 : Int) < (d.size : Int)) = false := by simp; omega
  obtain ⟨d0a, d0b⟩ := hd0
  have hPE := hide (pv_end D)
  rcases head_or D with ⟨h48, h1⟩ | h48
  all_goals
    go_enter Tryd.func9, Tryd.ntmps9
    go_wp2
    go_loop [7, 8] (fun mg j => ∃ k : Nat, k ≤ d.size ∧ j = .int .i64 k ∧ mg = .int .u64 (pv d k : Int)) (fun _ j => d.size - (intOf j).toNat)
    case atStart => exact ⟨0, Nat.zero_le _, rfl, rfl⟩
    case round =>
      obtain ⟨k, hk, rfl, rfl⟩ := hrel
      by_cases hkl : k < d.size
      · have x18 := pv_18 D hkl
        have hdk := D.dig k hkl
        have HS := hide (pv_succ d k hkl)
        obtain ⟨da, db⟩ := hdk
        have dai : (48 : Int) ≤ (d[k].toNat : Int) := by omega
        have dbi : (d[k].toNat : Int) ≤ 57 := by omega
        have x18i : (pv d k : Int) ≤ 999999999999999999 := by omega
        clear hext
        go_wp2
        go_round
        case rel => exact ⟨k + 1, by omega, by go_num, mag_eq HS.out da⟩
        case measure => simp [intOf]; omega
      · obtain rfl : k = d.size := by omega
        have hui : (u : Int) ≤ 9223372036854775807 := by omega
        have hu0i : (1 : Int) ≤ (u : Int) := by omega
        have hne0 : ((u : Int) == 0) = false := by rw [beq_eq_false_iff_ne]; omega
        have hgt : decide ((9223372036854775808 : Int) < (u : Int)) = false := by rw [decide_eq_false_iff_not]; omega
        have heq : ((u : Int) == 9223372036854775808) = false := by rw [beq_eq_false_iff_ne]; omega
        rw [hPE.out]
        clear hext hkl
        go_wp2
        go_ret2
        exact ⟨rfl, rfl⟩

set_option maxRecDepth 100000 in
set_option maxHeartbeats 1000000 in
theorem parse_min (s d : ByteArray) (u : Nat) (hu : u = 9223372036854775808) (D : Dig d u) (hs : s.size = d.size + 1) (h45 : (s[0]'(by omega)).toNat = 45) (hext : s.extract 1 s.size = d) (w : World) :
    Calls Tryd.prog 9 #[.string s] w fun e w' => e = .returned (.tuple #[.int .i64 (-9223372036854775808), .bool true]) ∧ w' = w := by
  have HU := hide hu
  clear hu
  have hp := D.pos
  have hl := D.len
  have hd0 := D.dig 0 hp
  have hsp : 0 < s.size := by omega
  have hm45 : ((s[0].toNat : Int) == 45) = true := by simp [h45]
  have hspi : (0 : Int) < (s.size : Int) := by omega
  have hs1 : (1 : Int) ≤ (s.size : Int) := by omega
  have hs1n : 1 ≤ s.size := by omega
  have HSZ := hide hs
  clear hs h45
  have hpi : (0 : Int) < (d.size : Int) := by omega
  have hz : ((d.size : Int) == 0) = false := by
    rw [beq_eq_false_iff_ne]
    omega
  have h19 : decide ((19 : Int) < (d.size : Int)) = false := by simp; omega
  obtain ⟨d0a, d0b⟩ := hd0
  have hPE := hide (pv_end D)
  rcases head_or D with ⟨h48, h1⟩ | h48
  all_goals
    go_enter Tryd.func9, Tryd.ntmps9
    go_wp2
    go_loop [7, 8] (fun mg j => ∃ k : Nat, k ≤ d.size ∧ j = .int .i64 k ∧ mg = .int .u64 (pv d k : Int)) (fun _ j => d.size - (intOf j).toNat)
    case atStart => exact ⟨0, Nat.zero_le _, rfl, rfl⟩
    case round =>
      obtain ⟨k, hk, rfl, rfl⟩ := hrel
      by_cases hkl : k < d.size
      · have x18 := pv_18 D hkl
        have hdk := D.dig k hkl
        have HS := hide (pv_succ d k hkl)
        obtain ⟨da, db⟩ := hdk
        have dai : (48 : Int) ≤ (d[k].toNat : Int) := by omega
        have dbi : (d[k].toNat : Int) ≤ 57 := by omega
        have x18i : (pv d k : Int) ≤ 999999999999999999 := by omega
        clear hext
        go_wp2
        go_round
        case rel => exact ⟨k + 1, by omega, by go_num, mag_eq HS.out da⟩
        case measure => simp [intOf]; omega
      · obtain rfl : k = d.size := by omega
        have hne0 : ((u : Int) == 0) = false := by rw [beq_eq_false_iff_ne]; have := HU.out; omega
        have hgt : decide ((9223372036854775808 : Int) < (u : Int)) = false := by rw [decide_eq_false_iff_not]; have := HU.out; omega
        have heq : ((u : Int) == 9223372036854775808) = true := by rw [beq_iff_eq]; have := HU.out; omega
        rw [hPE.out]
        clear hext hkl
        go_wp2
        go_ret2
        exact ⟨rfl, rfl⟩


/-- The reader reads a number's decimal text as that number. -/
theorem parse_any (n : Int) (h0 : -9223372036854775808 ≤ n) (h1 : n ≤ 9223372036854775807) (w : World) :
    Calls Tryd.prog 9 #[.string (S n)] w fun e w' => e = .returned (.tuple #[.int .i64 n, .bool true]) ∧ w' = w := by
  by_cases hn : n < 0
  · obtain ⟨u, rfl⟩ : ∃ u : Nat, n = -(u : Int) := ⟨n.natAbs, by omega⟩
    have hu1 : 1 ≤ u := by omega
    have e : S (-(u : Int)) = ⟨(45 :: Lib.decDigits u).toArray⟩ := by
      unfold S Lib.itoa
      rw [if_pos hn]
      simp
    have D := dig_of u (by omega)
    have hsz : (S (-(u : Int))).size = (⟨(Lib.decDigits u).toArray⟩ : ByteArray).size + 1 := by
      rw [e]
      show (45 :: Lib.decDigits u).toArray.size = (Lib.decDigits u).toArray.size + 1
      simp
    have h45 : ((S (-(u : Int)))[0]'(by rw [hsz]; omega)).toNat = 45 := by
      have : ∀ (b : ByteArray) (hb : b = ⟨(45 :: Lib.decDigits u).toArray⟩) (h : 0 < b.size), (b[0]'h).toNat = 45 := by
        intro b hb h
        subst hb
        rfl
      exact this _ e _
    have hext : (S (-(u : Int))).extract 1 (S (-(u : Int))).size = ⟨(Lib.decDigits u).toArray⟩ := by
      rw [e]
      apply ByteArray.ext
      rw [ByteArray.data_extract]
      show (45 :: Lib.decDigits u).toArray.extract 1 (45 :: Lib.decDigits u).toArray.size = (Lib.decDigits u).toArray
      simp
    by_cases hm : u = 9223372036854775808
    · have := parse_min _ _ u hm D hsz h45 hext w
      rw [show (-(u : Int)) = -9223372036854775808 from by omega] at this ⊢
      exact this
    · exact parse_neg _ _ u hu1 (by omega) D hsz h45 hext w
  · obtain ⟨u, rfl⟩ : ∃ u : Nat, n = (u : Int) := ⟨n.toNat, by omega⟩
    have e : S (u : Int) = ⟨(Lib.decDigits u).toArray⟩ := by
      unfold S Lib.itoa
      rw [if_neg hn]
      simp
    rw [e]
    exact parse_pos _ u (by omega) (dig_of u (by omega)) w
end Go.Proofs.Qxb6003329aDoor.Pr
