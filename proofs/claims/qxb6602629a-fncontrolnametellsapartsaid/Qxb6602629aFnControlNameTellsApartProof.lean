/- The control-name law: the walk filled into the shell of the seat. -/
import Derived.Test.Qxb6602629aRows
import Derived.Test.Qxb6602629aPhrase
import Derived.WalkKit
import Derived.ProofKit
import Derived.OpenShut
import Derived.ShutString
namespace Go.Proofs.Qxb6602629a.fnControlNameTellsApart
open Go.ChangeShapes Go.WideShapes Go.ChangeAt Go.RowKit
open Go.ChangeMaps (open_string shut_string)
set_option linter.unusedVariables false      -- a walk need not use every 'w<i>' (that an integer argument fits its kind)

theorem own : ownKnob Try.prog.godebug = none := by kernel_rfl

def s9 : ByteArray := ⟨#[97, 32, 116, 97, 98]⟩
def s10 : ByteArray := ⟨#[97, 32, 108, 105, 110, 101, 32, 98, 114, 101, 97, 107]⟩
def s13 : ByteArray := ⟨#[97, 32, 99, 97, 114, 114, 105, 97, 103, 101, 32, 114, 101, 116, 117, 114, 110]⟩
def sElse : ByteArray := ⟨#[97, 32, 99, 111, 110, 116, 114, 111, 108, 32, 99, 104, 97, 114, 97, 99, 116, 101, 114]⟩

def nm (b : Int) : ByteArray := if b = 9 then s9 else if b = 10 then s10 else if b = 13 then s13 else sElse

theorem nm_cases (b : Int) : nm b = s9 ∨ nm b = s10 ∨ nm b = s13 ∨ nm b = sElse := by
  unfold nm
  split
  · exact .inl rfl
  · split
    · exact .inr (.inl rfl)
    · split
      · exact .inr (.inr (.inl rfl))
      · exact .inr (.inr (.inr rfl))

theorem name_any (b : Int) (w : World) : Calls Try.prog 4 #[.int .u8 b] w fun e w' => e = .returned (.string (nm b)) ∧ w' = w := by
  by_cases h9 : b = 9
  · subst h9
    go_enter Try.func4, Try.ntmps4
    go_wp2_with go_in
    go_ret
    exact ⟨rfl, rfl⟩
  · by_cases h10 : b = 10
    · subst h10
      go_enter Try.func4, Try.ntmps4
      go_wp2_with go_in
      go_ret
      exact ⟨rfl, rfl⟩
    · by_cases h13 : b = 13
      · subst h13
        go_enter Try.func4, Try.ntmps4
        go_wp2_with go_in
        go_ret
        exact ⟨rfl, rfl⟩
      · have e : nm b = sElse := by unfold nm; rw [if_neg h9, if_neg h10, if_neg h13]
        rw [e]
        have g9 : (b == 9) = false := by simpa using h9
        have g10 : (b == 10) = false := by simpa using h10
        have g13 : (b == 13) = false := by simpa using h13
        clear e
        go_enter Try.func4, Try.ntmps4
        go_wp2_with go_in
        go_ret
        exact ⟨rfl, rfl⟩

theorem phrase_nm (b : Int) (w : World) : Calls Try.prog 5 #[.string (nm b)] w fun e w' => e = .returned (.bool true) ∧ w' = w := by
  rcases nm_cases b with h | h | h | h <;> rw [h] <;> exact phrase_any _ w (by decide) (by decide) (by decide) (by decide) (by decide +kernel)

def namedB (b : Int) : Bool := b == 9 || b == 10 || b == 13

theorem named_any (b : Int) (w : World) : Calls Try.prog 6 #[.int .u8 b] w fun e w' => e = .returned (.bool (namedB b)) ∧ w' = w := by
  by_cases h9 : b = 9
  · subst h9
    go_enter Try.func6, Try.ntmps6
    go_wp2
    go_ret
    exact ⟨rfl, rfl⟩
  · have g9 : (b == 9) = false := by simpa using h9
    by_cases h10 : b = 10
    · subst h10
      go_enter Try.func6, Try.ntmps6
      go_wp2
      go_ret
      exact ⟨rfl, rfl⟩
    · have g10 : (b == 10) = false := by simpa using h10
      have e : namedB b = (b == 13) := by unfold namedB; rw [g9, g10]; rfl
      rw [e]
      clear e
      go_enter Try.func6, Try.ntmps6
      go_wp2
      go_ret
      exact ⟨rfl, rfl⟩

/-- The two names are one just where the law says so. -/
theorem names_tell (a b : Int) (h : namedB a = true ∨ namedB b = true) : ((nm a).toList == (nm b).toList) = (a == b) := by
  have key : ∀ a b : Int, namedB a = true → ((nm a).toList == (nm b).toList) = (a == b) := by
    intro a b ha
    have ha' : a = 9 ∨ a = 10 ∨ a = 13 := by simpa [namedB, or_assoc] using ha
    rcases ha' with rfl | rfl | rfl
    all_goals
      by_cases h9 : b = 9
      · subst h9; decide +kernel
      · by_cases h10 : b = 10
        · subst h10; decide +kernel
        · by_cases h13 : b = 13
          · subst h13; decide +kernel
          · have e : nm b = sElse := by unfold nm; rw [if_neg h9, if_neg h10, if_neg h13]
            rw [e]
            first
              | rw [show ((9 : Int) == b) = false from by simp; omega]
              | rw [show ((10 : Int) == b) = false from by simp; omega]
              | rw [show ((13 : Int) == b) = false from by simp; omega]
            decide +kernel
  rcases h with h | h
  · exact key a b h
  · have := key b a h
    rw [Bool.beq_comm (a := (nm a).toList), this, Bool.beq_comm]

theorem names_else (a b : Int) (ha : namedB a = false) (hb : namedB b = false) : nm a = nm b := by
  have h : ∀ a : Int, namedB a = false → nm a = sElse := by
    intro a h
    unfold namedB at h
    simp only [Bool.or_eq_false_iff, beq_eq_false_iff_ne] at h
    unfold nm
    rw [if_neg h.1.1, if_neg h.1.2, if_neg h.2]
  rw [h a ha, h b hb]

theorem walk (a0 : Int) (a1 : Int) (w0 : (Lit.int .u8 a0).wf = true) (w1 : (Lit.int .u8 a1).wf = true) (w : World) :
    Calls Try.prog 3 #[.int .u8 a0, .int .u8 a1] w fun e w' => e = .returned (.bool true) ∧ Grown w w' := by
  cases ha : namedB a0
  · cases hb : namedB a1
    · have e := names_else a0 a1 ha hb
      go_enter Try.func3, Try.ntmps3
      go_wp2_with (first | (go_at_call 4; refine (name_any _ _).mono ?_; rintro e w' ⟨rfl, rfl⟩) | (go_at_call 5; refine (phrase_nm _ _).mono ?_; rintro e w' ⟨rfl, rfl⟩) | (go_at_call 6; refine (named_any _ _).mono ?_; rintro e w' ⟨rfl, rfl⟩))
      go_ret
      exact ⟨rfl, by repeat (first | exact Grown.refl _ | apply Grown.drew | apply Grown.alloc)⟩
    · have HE : Hid (((nm a0).toList == (nm a1).toList) = (a0 == a1)) := names_tell a0 a1 (.inr hb)
      go_enter Try.func3, Try.ntmps3
      go_wp2_with (first | (go_at_call 4; refine (name_any _ _).mono ?_; rintro e w' ⟨rfl, rfl⟩) | (go_at_call 5; refine (phrase_nm _ _).mono ?_; rintro e w' ⟨rfl, rfl⟩) | (go_at_call 6; refine (named_any _ _).mono ?_; rintro e w' ⟨rfl, rfl⟩))
      go_ret
      exact ⟨by rw [HE.out]; simp, by repeat (first | exact Grown.refl _ | apply Grown.drew | apply Grown.alloc)⟩
  · have HE : Hid (((nm a0).toList == (nm a1).toList) = (a0 == a1)) := names_tell a0 a1 (.inl ha)
    go_enter Try.func3, Try.ntmps3
    go_wp2_with (first | (go_at_call 4; refine (name_any _ _).mono ?_; rintro e w' ⟨rfl, rfl⟩) | (go_at_call 5; refine (phrase_nm _ _).mono ?_; rintro e w' ⟨rfl, rfl⟩) | (go_at_call 6; refine (named_any _ _).mono ?_; rintro e w' ⟨rfl, rfl⟩))
    go_ret
    exact ⟨by rw [HE.out]; simp, by repeat (first | exact Grown.refl _ | apply Grown.drew | apply Grown.alloc)⟩

/-! ### THE ROW's STEP: WRITTEN OUT: LEAVE IT -/
set_option maxRecDepth 100000 in
theorem lifted (os : Os) (started : os.Started) (H : Type) (enc : TypeId × Value → H) :
    ReturnsInHanded {} Try.checked os 3 .any (Rows.fnControlNameTellsApartSpec.pre6 enc Try.prog Try.f3 Rows.fnControlNameTellsApartRow.domain false) (Rows.fnControlNameTellsApartSpec.post enc Try.prog Try.f3 false true false false) := by
  refine returnsInHanded_of_change (C := Try.checked) own started (by kernel_rfl) Try.func3
    (ChangeSpec.witness6 (enc := enc) (C := Try.checked) false ⟨#[], #[.int .u8 0, .int .u8 0], []⟩ 8 (by kernel_rfl) (by kernel_rfl) (by kernel_rfl) (by kernel_rfl)) ?_
  intro W base args ds gs before hval0 hW hcnd _
  have hval : ∀ (j : Nat) t v, Try.f3.params[j]? = some t → args[j]? = some v → Value.okWide Try.prog W .any base t v := hval0
  have hW' := hW
  obtain ⟨p, q, hA0, hV, rfl, hfz, hnd⟩ := hW
  have hA : DataW.TrodAll enc Try.prog W 0 (fun _ => true) true Try.f3.params.toList args.toList ds p := hA0
  rw [Try.params3] at hA hval
  obtain ⟨v0, vs0, d0, ds0, p0, q0, hargs, rfl, rfl, h0, r0⟩ := trodAll_cons hA
  obtain ⟨v1, vs1, d1, ds1, p1, q1, rfl, rfl, rfl, h1, r1⟩ := trodAll_cons r0
  obtain ⟨rfl, rfl, rfl⟩ := trodAll_nil r1
  obtain rfl : args = #[v0, v1] := by cases args; simp_all
  obtain ⟨rfl, rfl⟩ := trodVars_none hV
  obtain ⟨a0, rfl, rfl, rfl, w0⟩ := open_int Try.underlying5 (hval 0 5 v0 rfl rfl) h0
  obtain ⟨a1, rfl, rfl, rfl, w1⟩ := open_int Try.underlying5 (hval 1 5 v1 rfl rfl) h1
  clear hA0 hval0
  simp only [List.append_nil] at hW'
  refine (walk a0 a1 w0 w1 W).mono fun e W' ⟨he, hg⟩ => ?_
  subst he
  exact ⟨_, rfl, post_of_same (pa := []) (pv := []) hW' (fun _ _ _ => (trodAll_cons_mk (shut_bool Try.underlying4 _) trodAll_mk0)) (fun sp _ => (trodAll_cons_mk (shut_int Try.underlying5 w0) (trodAll_cons_mk (shut_int Try.underlying5 w1) trodAll_mk0))) (fun _ _ => rfl) rfl
    (hg.frame _) hg.2.1 (ok_one (by kernel_rfl) rfl (okWide_bool_mk Try.underlying4 _))⟩

theorem over : Rows.fnControlNameTellsApartRow.holds Try.pinned (OpenSpec.ofChange Rows.fnControlNameTellsApartSpec) :=
  OpenClaim.holds_of_wide 3 Try.f3 rfl rfl rfl rfl rfl rfl rfl ⟨rfl, rfl, rfl, rfl, rfl⟩ rfl rfl rfl rfl rfl (by kernel_rfl) Try.func3 (by kernel_rfl)
    (of_decide_eq_true (by kernel_rfl)) (by unfold Func.isWrapper; first | (rw [if_pos (by decide +kernel)]; kernel_rfl) | (rw [if_neg (by decide +kernel)]; exact ⟨rfl, rfl⟩))
    (fun os started H enc _ => lifted os started H enc)

/-- ████ THE STATEMENT ████ -/
theorem proved : Rows.FnControlNameTellsApartSaid :=
  over
end Go.Proofs.Qxb6602629a.fnControlNameTellsApart
