/-
  The proof of 'Rows.FnHexValueAcceptsExactlyAndRoundTripsSaid': the seven intervals of the rune are parted ahead of the walk; the frame is the kit's shell.
-/
import Derived.Test.Qxb6002649aRows
import Derived.WalkKit
import Derived.ProofKit
import Derived.OpenShut
import Derived.ShutString
namespace Go.Proofs.Qxb6002649a.fnHexValueAcceptsExactlyAndRoundTrips
open Go.ChangeShapes Go.WideShapes Go.ChangeAt Go.RowKit
open Go.ChangeMaps (open_string shut_string)
set_option linter.unusedVariables false      -- a walk need not use every 'w<i>' (that an integer argument fits its kind)

theorem own : ownKnob Try.prog.godebug = none := by kernel_rfl

theorem ret_b {a b : Bool} (h : a = b) : Ending.returned (.bool a) = .returned (.bool b) := by rw [h]

def Hex (a : Int) : Prop := (48 ≤ a ∧ a ≤ 57) ∨ (65 ≤ a ∧ a ≤ 70) ∨ (97 ≤ a ∧ a ≤ 102)

theorem law_yes (a : Int) (w : World) (h : Hex a) : Calls Try.prog 16 #[.int .i32 a] w fun e w' => e = .returned (.bool true) ∧ w' = w := by
  obtain hc | hc | hc := h
  all_goals
    go_enter Try.func16, Try.ntmps16
    go_wp2
    go_ret
    exact ⟨ret_b (by simp; try omega), rfl⟩

theorem law_no (a : Int) (w : World) (h : ¬ Hex a) : Calls Try.prog 16 #[.int .i32 a] w fun e w' => e = .returned (.bool false) ∧ w' = w := by
  obtain hc | hc | hc | hc : a < 48 ∨ (57 < a ∧ a < 65) ∨ (70 < a ∧ a < 97) ∨ 102 < a := by unfold Hex at h; omega
  all_goals
    clear h
    go_enter Try.func16, Try.ntmps16
    go_wp2
    go_ret
    exact ⟨ret_b (by simp; try omega), rfl⟩

theorem dig_yes (a : Int) (w : World) (h : Hex a) : Calls Try.prog 14 #[.int .i32 a] w fun e w' => e = .returned (.bool true) ∧ w' = w := by
  obtain hc | hc | hc := h
  all_goals
    go_enter Try.func14, Try.ntmps14
    go_wp2
    all_goals
      go_ret
      exact ⟨ret_b (by simp; try omega), rfl⟩

theorem dig_no (a : Int) (w : World) (h : ¬ Hex a) : Calls Try.prog 14 #[.int .i32 a] w fun e w' => e = .returned (.bool false) ∧ w' = w := by
  obtain hc | hc | hc | hc : a < 48 ∨ (57 < a ∧ a < 65) ∨ (70 < a ∧ a < 97) ∨ 102 < a := by unfold Hex at h; omega
  all_goals
    clear h
    go_enter Try.func14, Try.ntmps14
    go_wp2
    all_goals
      go_ret
      exact ⟨ret_b (by simp; try omega), rfl⟩

theorem walk (a0 : Int) (w0 : (Lit.int .i32 a0).wf = true) (w : World) :
    Calls Try.prog 7 #[.int .i32 a0] w fun e w' => e = .returned (.bool true) ∧ Grown w w' := by
  by_cases h : Hex a0
  · obtain hc | hc | hc := id h
    all_goals
      go_enter Try.func7, Try.ntmps7
      go_wp2_with (first | (go_at_call 16; refine (law_yes _ _ h).mono ?_; rintro e w' ⟨rfl, rfl⟩) | (go_at_call 14; refine (dig_yes _ _ h).mono ?_; rintro e w' ⟨rfl, rfl⟩) | go_in)
      go_ret
      exact ⟨ret_b (by simp; try omega), Grown.refl _⟩
  · go_enter Try.func7, Try.ntmps7
    go_wp2_with (first | (go_at_call 16; refine (law_no _ _ h).mono ?_; rintro e w' ⟨rfl, rfl⟩) | (go_at_call 14; refine (dig_no _ _ h).mono ?_; rintro e w' ⟨rfl, rfl⟩) | go_in)
    go_ret
    exact ⟨rfl, Grown.refl _⟩

/-! ### THE ROW's STEP: WRITTEN OUT: LEAVE IT -/
set_option maxRecDepth 100000 in
theorem lifted (os : Os) (started : os.Started) (H : Type) (enc : TypeId × Value → H) :
    ReturnsInHanded {} Try.checked os 7 .any (Rows.fnHexValueAcceptsExactlyAndRoundTripsSpec.pre6 enc Try.prog Try.f7 Rows.fnHexValueAcceptsExactlyAndRoundTripsRow.domain false) (Rows.fnHexValueAcceptsExactlyAndRoundTripsSpec.post enc Try.prog Try.f7 false true false false) := by
  refine returnsInHanded_of_change (C := Try.checked) own started (by kernel_rfl) Try.func7
    (ChangeSpec.witness6 (enc := enc) (C := Try.checked) false ⟨#[], #[.int .i32 0], []⟩ 8 (by kernel_rfl) (by kernel_rfl) (by kernel_rfl) (by kernel_rfl)) ?_
  intro W base args ds gs before hval0 hW hcnd _
  have hval : ∀ (j : Nat) t v, Try.f7.params[j]? = some t → args[j]? = some v → Value.okWide Try.prog W .any base t v := hval0
  have hW' := hW
  obtain ⟨p, q, hA0, hV, rfl, hfz, hnd⟩ := hW
  have hA : DataW.TrodAll enc Try.prog W 0 (fun _ => true) true Try.f7.params.toList args.toList ds p := hA0
  rw [Try.params7] at hA hval
  obtain ⟨v0, vs0, d0, ds0, p0, q0, hargs, rfl, rfl, h0, r0⟩ := trodAll_cons hA
  obtain ⟨rfl, rfl, rfl⟩ := trodAll_nil r0
  obtain rfl : args = #[v0] := by cases args; simp_all
  obtain ⟨rfl, rfl⟩ := trodVars_none hV
  obtain ⟨a0, rfl, rfl, rfl, w0⟩ := open_int Try.underlying21 (hval 0 21 v0 rfl rfl) h0
  clear hA0 hval0
  simp only [List.append_nil] at hW'
  refine (walk a0 w0 W).mono fun e W' ⟨he, hg⟩ => ?_
  subst he
  exact ⟨_, rfl, post_of_same (pa := []) (pv := []) hW' (fun _ _ _ => (trodAll_cons_mk (shut_bool Try.underlying4 _) trodAll_mk0)) (fun sp _ => (trodAll_cons_mk (shut_int Try.underlying21 w0) trodAll_mk0)) (fun _ _ => rfl) rfl
    (hg.frame _) hg.2.1 (ok_one (by kernel_rfl) rfl (okWide_bool_mk Try.underlying4 _))⟩

theorem over : Rows.fnHexValueAcceptsExactlyAndRoundTripsRow.holds Try.pinned (OpenSpec.ofChange Rows.fnHexValueAcceptsExactlyAndRoundTripsSpec) :=
  OpenClaim.holds_of_wide 7 Try.f7 rfl rfl rfl rfl rfl rfl rfl ⟨rfl, rfl, rfl, rfl, rfl⟩ rfl rfl rfl rfl rfl (by kernel_rfl) Try.func7 (by kernel_rfl)
    (of_decide_eq_true (by kernel_rfl)) (by unfold Func.isWrapper; first | (rw [if_pos (by decide +kernel)]; kernel_rfl) | (rw [if_neg (by decide +kernel)]; exact ⟨rfl, rfl⟩))
    (fun os started H enc _ => lifted os started H enc)

/-- ████ THE STATEMENT ████ -/
theorem proved : Rows.FnHexValueAcceptsExactlyAndRoundTripsSaid :=
  over
#print axioms proved
end Go.Proofs.Qxb6002649a.fnHexValueAcceptsExactlyAndRoundTrips
