/- The Lead laws: the comparisons, the search, the size of it all, the fit. -/
import Derived.Test.Qxb6603051aSmall
import Derived.Maps.OwnSet
namespace Go.Proofs.Qxb6603051a.Md
open Go.RowKit Go.Maps Go.WideMaps Go.WideElems
open Go.Proofs.Qxb6603051a.Pl
open Go.Proofs.Qxb6603051a.Sm

theorem hide {p : Prop} (h : p) : Hid p := h

theorem law : Keyed Try.prog 9 := string_keyed Try.underlying9
theorem zeroE (w : World) : (zeroValue 3).run Try.prog w = .ok (.int .i64 0) w := by kernel_rfl

/-- A map value that can be read: nil, or a block that is a map from strings to ints. -/
def MapArg (w : World) (m : Option Nat) : Prop := m = none ∨ ∃ H : Type, ∃ bm n, ∃ D : DataW H, m = some bm ∧ w.ownsMap Try.prog 9 (plainElem Try.prog 3) bm n D

theorem map_len {w : World} {m : Option Nat} (h : MapArg w m) : ∃ sz : Nat, ∀ nq ty, (Builtin.len_ #[23] ty #[.map m]).run Try.prog (w.drewN nq) = .ok (.int .i64 sz) (w.drewN nq) := by
  rcases h with rfl | ⟨H, bm, n, D, rfl, h⟩
  · exact ⟨0, fun nq ty => Maps.len_nil Try.underlying23 ty⟩
  · exact ⟨_, fun nq ty => World.ownsMap.len (w := w.drewN nq) h Try.underlying23 ty⟩

theorem map_look {w : World} {m : Option Nat} (h : MapArg w m) (s : ByteArray) (hs : s.size ≤ maxLen) :
    ∃ (c : Int) (ok : Bool), ∀ nq, (Instr.lookup 23 (.map m) (.string s) true).run Try.prog (w.drewN nq) = .ok (.tuple #[.int .i64 c, .bool ok]) (w.drewN nq) := by
  have hkey : keyOf Try.prog 9 (.string s) = some (.string s.data.toList) := keyOf_string_mk Try.underlying9 hs
  rcases h with rfl | ⟨H, bm, n, D, rfl, h⟩
  · exact ⟨0, false, fun nq => by simpa using Maps.look_nil (w := w.drewN nq) true law Try.underlying23 (zeroE _) hkey⟩
  · obtain ⟨v, ps, hrun, hv⟩ := h.look_ok law Try.underlying23 (zeroE w) (plainElem_int (H := H) Try.underlying3 (a := 0) (by decide)) hkey
    obtain ⟨c, rfl, _, _⟩ := plainElem_int_inv Try.underlying3 hv
    refine ⟨c, Maps.has D (.string s.data.toList), fun nq => ?_⟩
    obtain ⟨v', ps', hrun', hv'⟩ := World.ownsMap.look_ok (w := w.drewN nq) h law Try.underlying23 (zeroE _) (plainElem_int (H := H) Try.underlying3 (a := 0) (by decide)) hkey
    obtain ⟨c', rfl, hc', _⟩ := plainElem_int_inv Try.underlying3 hv'
    obtain ⟨c0, e0, hc0, _⟩ := plainElem_int_inv Try.underlying3 hv
    simp only [Value.int.injEq, true_and] at e0
    subst e0
    simp only [Prod.mk.injEq] at hc' hc0
    have : c' = c := by
      have := hc'.1.symm.trans hc0.1
      simpa using this
    subst this
    exact hrun'

/-- 'cb1SameStrings' at two slices of the same strings, both nil or neither. -/
theorem same_strings (a1 a2 : Option Addr) (len c1 c2 b1 o1 b2 o2 : Nat) (s : Nat → ByteArray) (w : World) (h20 : len ≤ 1048576) (hn : a1.isNone = a2.isNone)
    (h1 : Row w a1 len b1 o1 (fun i => .string (s i))) (h2 : Row w a2 len b2 o2 (fun i => .string (s i))) :
    Calls Try.prog 19 #[.slice a1 len c1, .slice a2 len c2] w fun e w' => e = .returned (.bool true) ∧ ∃ n, w' = w.drewN n := by
  by_cases h0 : 0 < len
  · obtain ⟨rfl, hb1⟩ := h1.1 h0
    obtain ⟨rfl, hb2⟩ := h2.1 h0
    clear hn
    have hq1 := fun w => Lib.run_eql_slice_nil (P := Try.prog) w 22 9 (some ⟨b1, o1, none⟩) len c1 0 0 Try.underlying22
    have hq2 := fun w => Lib.run_eql_slice_nil (P := Try.prog) w 22 9 (some ⟨b2, o2, none⟩) len c2 0 0 Try.underlying22
    go_enter Try.func19, Try.ntmps19
    go_wp2
    go_loopw [5] (fun i wr => ∃ k n : Nat, k ≤ len ∧ i = .int .i64 k ∧ wr = w.drewN n) (fun i _ => len - (intOf i).toNat)
    case atStart => exact ⟨0, 0, Nat.zero_le _, rfl, rfl⟩
    case round =>
      obtain ⟨k, n, hk, rfl, rfl⟩ := hrel
      clear hq1 hq2
      by_cases hkl : k < len
      · have hx1 := h1.2 k hkl
        have hx2 := h2.2 k hkl
        have hki : (k : Int) < (len : Int) := by omega
        go_wp2
        go_quiet (fail)
        go_wp2
        go_roundw
        case rel => exact ⟨k + 1, _, by omega, by go_num, rfl⟩
        case measure => simp [intOf]; omega
      · go_wp2
        go_ret
        exact ⟨rfl, n, rfl⟩
  · obtain rfl : len = 0 := by omega
    have hq1 := fun w => Lib.run_eql_slice_nil (P := Try.prog) w 22 9 a1 0 c1 0 0 Try.underlying22
    have hq2 := fun w => Lib.run_eql_slice_nil (P := Try.prog) w 22 9 a2 0 c2 0 0 Try.underlying22
    have hne : (a1.isNone != a2.isNone) = false := by simp [hn]
    have HN := hide hn
    clear hn
    go_enter Try.func19, Try.ntmps19
    go_wp2
    refine wp_loop_rounds 1 ?_
    rw [rounds_succ]
    go_wp2
    go_ret
    exact ⟨rfl, 0, rfl⟩

theorem same_ints (a1 a2 : Option Addr) (len c1 c2 b1 o1 b2 o2 : Nat) (s : Nat → Int) (w : World) (h20 : len ≤ 1048576)
    (h1 : Row w a1 len b1 o1 (fun i => .int .i64 (s i))) (h2 : Row w a2 len b2 o2 (fun i => .int .i64 (s i))) :
    Calls Try.prog 20 #[.slice a1 len c1, .slice a2 len c2] w fun e w' => e = .returned (.bool true) ∧ ∃ n, w' = w.drewN n := by
  go_enter Try.func20, Try.ntmps20
  go_wp2
  go_loopw [5] (fun i wr => ∃ k n : Nat, k ≤ len ∧ i = .int .i64 k ∧ wr = w.drewN n) (fun i _ => len - (intOf i).toNat)
  case atStart => exact ⟨0, 0, Nat.zero_le _, rfl, rfl⟩
  case round =>
    obtain ⟨k, n, hk, rfl, rfl⟩ := hrel
    by_cases hkl : k < len
    · obtain ⟨rfl, hb1⟩ := h1.1 (by omega)
      obtain ⟨rfl, hb2⟩ := h2.1 (by omega)
      have hx1 := h1.2 k hkl
      have hx2 := h2.2 k hkl
      have hki : (k : Int) < (len : Int) := by omega
      go_wp2
      go_quiet (fail)
      go_wp2
      go_roundw
      case rel => exact ⟨k + 1, _, by omega, by go_num, rfl⟩
      case measure => simp [intOf]; omega
    · go_wp2
      go_ret
      exact ⟨rfl, n, rfl⟩

/-- 'cb1PosIn' is the place in the sorted row. -/
theorem pos_any (ao : Option Addr) (len cap b off : Nat) (live : Nat → ByteArray) (id : ByteArray) (w : World) (h20 : len ≤ 1048576) (hs : Sorted live len) (hz : ∀ i, i < len → (live i).size ≤ maxLen) (hid : id.size ≤ maxLen)
    (hr : Row w ao len b off (fun i => .string (live i))) :
    Calls Try.prog 17 #[.slice ao len cap, .string id] w fun e w' => e = .returned (.int .i64 (pos live id len)) ∧ ∃ n, w' = w.drewN n := by
  have HZ := hide hz
  have HS : Hid (Sorted live len) := hs
  have HI := hide hid
  clear hz hs hid
  go_enter Try.func17, Try.ntmps17
  go_wp2
  go_loopw [5, 6] (fun a c wr => ∃ lo hi n : Nat, lo ≤ hi ∧ hi ≤ len ∧ a = .int .i64 lo ∧ c = .int .i64 hi ∧ wr = w.drewN n ∧ Hid ((∀ i, i < lo → lessB (live i) id = true) ∧ (∀ i, hi ≤ i → i < len → lessB (live i) id = false))) (fun a c _ => (intOf c).toNat - (intOf a).toNat)
  case atStart => exact ⟨0, len, 0, Nat.zero_le _, Nat.le_refl _, rfl, rfl, rfl, ⟨fun i hi => by omega, fun i h1 h2 => by omega⟩⟩
  case round =>
    obtain ⟨lo, hi, n, hlh, hhl, rfl, rfl, rfl, HR⟩ := hrel
    by_cases hlt : lo < hi
    · obtain ⟨rfl, hbl⟩ := hr.1 (by omega)
      obtain ⟨m, hm⟩ : ∃ m, m = lo + (hi - lo) / 2 := ⟨_, rfl⟩
      have hm1 : lo ≤ m := by omega
      have hm2 : m < hi := by omega
      have hmi : (lo : Int) + ((hi : Int) - (lo : Int)) / 2 = (m : Int) := by omega
      have hcx := hr.2 m (by omega)
      clear hm
      cases hl : lessB (live m) id
      · have HR' : Hid ((∀ i, i < lo → lessB (live i) id = true) ∧ (∀ i, m ≤ i → i < len → lessB (live i) id = false)) := by
          refine ⟨HR.out.1, fun i h1 h2 => ?_⟩
          by_cases e : i = m
          · subst e; exact hl
          · cases hc : lessB (live i) id
            · rfl
            · rw [lessB_trans (HS.out m i (by omega) h2) hc] at hl; cases hl
        have HL : Hid (lessB (live m) id = false) := hl
        clear hl
        go_wp2_with fail
        refine (less_any _ _ _ (HZ.out m (by omega)) HI.out).mono ?_
        rintro e w' ⟨rfl, nq, rfl⟩
        rw [HL.out]
        go_wp2
        go_roundw
        case rel => exact ⟨lo, m, _, by omega, by omega, rfl, rfl, rfl, HR'⟩
        case measure => simp [intOf]; omega
      · have HR' : Hid ((∀ i, i < m + 1 → lessB (live i) id = true) ∧ (∀ i, hi ≤ i → i < len → lessB (live i) id = false)) := by
          refine ⟨fun i h1 => ?_, HR.out.2⟩
          by_cases e : i = m
          · subst e; exact hl
          · exact lessB_trans (HS.out i m (by omega) (by omega)) hl
        have HL : Hid (lessB (live m) id = true) := hl
        clear hl
        go_wp2_with fail
        refine (less_any _ _ _ (HZ.out m (by omega)) HI.out).mono ?_
        rintro e w' ⟨rfl, nq, rfl⟩
        rw [HL.out]
        go_wp2
        go_roundw
        case rel => exact ⟨m + 1, hi, _, by omega, by omega, by go_num, rfl, rfl, HR'⟩
        case measure => simp [intOf]; omega
    · obtain rfl : lo = hi := by omega
      by_cases hll : lo < len
      · obtain ⟨rfl, hbl⟩ := hr.1 (by omega)
        have hcx := hr.2 lo hll
        have hlli : (lo : Int) < (len : Int) := by omega
        by_cases he : live lo = id
        · have hq : ((live lo).toList == id.toList) = true := by simp [he]
          have HP : Hid (pos live id len = (lo : Int)) := pos_found HS.out hll he
          clear he
          go_wp2
          go_ret
          exact ⟨by rw [HP.out]; rfl, n, rfl⟩
        · have hq : ((live lo).toList == id.toList) = false := by
            rw [beq_eq_false_iff_ne]
            intro h
            rw [ByteArray.toList_eq, ByteArray.toList_eq] at h
            exact he (ba_ext h)
          have HP : Hid (pos live id len = -1) := pos_missed HS.out HR.out.1 HR.out.2 (fun _ => he)
          clear he
          go_wp2
          go_ret
          exact ⟨by rw [HP.out]; rfl, n, rfl⟩
      · have HP : Hid (pos live id len = -1) := pos_missed HS.out HR.out.1 HR.out.2 (fun h => absurd h hll)
        have hlli : decide ((lo : Int) < (len : Int)) = false := by simp; omega
        go_wp2
        go_ret
        exact ⟨by rw [HP.out]; rfl, n, rfl⟩

/-! ### The size of the input, and its fit -/
theorem loads_bytes (al : Option Addr) (n cl bl ol : Nat) (live : Nat → ByteArray) (m : Option Nat) (ad : Option Addr) (nd cd : Nat) (ac : Option Addr) (nc cc : Nat) (w : World)
    (hm : n ≤ 9223372036854775807) (hr : Row w al n bl ol (fun i => .string (live i))) (hmap : MapArg w m) :
    Calls Try.prog 38 #[.slice al n cl, .map m, .slice ad nd cd, .slice ac nc cc] w fun e w' => (∃ r : Int, e = .returned (.int .i64 r) ∧ 0 ≤ r ∧ r ≤ 1048577 ∧ (r ≤ 1048576 → n ≤ 1048576)) ∧ w' = w := by
  obtain ⟨sz, hlen⟩ := map_len hmap
  have hlen0 : ∀ ty, (Builtin.len_ #[23] ty #[.map m]).run Try.prog w = .ok (.int .i64 sz) w := fun ty => hlen 0 ty
  clear hlen
  go_enter Try.func38, Try.ntmps38
  go_wp2_with fail
  refine (strings_any 0 al n cl bl ol live (by omega) (by omega) _ hm hr).mono ?_
  rintro e w' ⟨⟨r, rfl, r0, r1, r2⟩, rfl⟩
  have R2 := hide r2
  clear r2
  go_wp2_with fail
  refine (addw_any r _ 24 r0 r1 (by omega) (by omega) _).mono ?_
  rintro e w' ⟨⟨x, rfl, x0, x1, x2⟩, rfl⟩
  have X2 := hide x2
  clear x2
  go_wp2_with fail
  refine (addw_any x _ 8 x0 x1 (by omega) (by omega) _).mono ?_
  rintro e w' ⟨⟨y, rfl, y0, y1, y2⟩, rfl⟩
  have Y2 := hide y2
  clear y2
  go_wp2_with fail
  refine (addw_any y _ 1 y0 y1 (by omega) (by omega) _).mono ?_
  rintro e w' ⟨⟨z, rfl, z0, z1, z2⟩, rfl⟩
  have Z2 := hide z2
  clear z2
  go_wp2
  go_ret
  exact ⟨⟨z, rfl, z0, z1, fun h => (R2.out (X2.out (Y2.out (Z2.out h).1).1).1).2⟩, rfl⟩

theorem lead_bytes (al : Option Addr) (n cl bl ol : Nat) (live : Nat → ByteArray) (m : Option Nat) (ad : Option Addr) (nd cd : Nat) (ac : Option Addr) (nc cc : Nat) (leader : ByteArray)
    (ar : Option Addr) (nr cr br or : Nat) (reps : Nat → ByteArray) (w : World)
    (hm : n ≤ 9223372036854775807) (hmr : nr ≤ 9223372036854775807) (hr : Row w al n bl ol (fun i => .string (live i))) (hmap : MapArg w m) (hrr : Row w ar nr br or (fun i => .string (reps i))) :
    Calls Try.prog 9 #[.slice al n cl, .map m, .slice ad nd cd, .slice ac nc cc, .string leader, .slice ar nr cr] w fun e w' => (∃ r : Int, e = .returned (.int .i64 r) ∧ (r ≤ 1048576 → n ≤ 1048576 ∧ nr ≤ 1048576)) ∧ w' = w := by
  go_enter Try.func9, Try.ntmps9
  go_wp2_with fail
  refine (loads_bytes al n cl bl ol live m ad nd cd ac nc cc _ hm hr hmap).mono ?_
  rintro e w' ⟨⟨r, rfl, r0, r1, r2⟩, rfl⟩
  have R2 := hide r2
  clear r2
  go_wp2_with fail
  refine (add_any r _ r0 r1 _).mono ?_
  rintro e w' ⟨⟨x, rfl, x0, x1, x2⟩, rfl⟩
  have X2 := hide x2
  clear x2
  go_wp2_with fail
  refine (strings_any x ar nr cr br or reps x0 x1 _ hmr hrr).mono ?_
  rintro e w' ⟨⟨y, rfl, y0, y1, y2⟩, rfl⟩
  have Y2 := hide y2
  clear y2
  go_wp2
  go_ret
  exact ⟨⟨y, rfl, fun h => ⟨R2.out (X2.out (Y2.out h).1).1, (Y2.out h).2⟩⟩, rfl⟩
end Go.Proofs.Qxb6603051a.Md
