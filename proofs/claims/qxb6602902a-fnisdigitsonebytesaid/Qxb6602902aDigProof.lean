/-
  The proof of 'Rows.FnIsDigitsOneByteSaid'. The frame is the kit's shell.
-/
import Derived.Test.Qxb6602902aRows
import Derived.WalkKit
import Derived.ProofKit
import Derived.OpenShut
import Derived.ShutString
namespace Go.Proofs.Qxb6602902a.fnIsDigitsOneByte
open Go.ChangeShapes Go.WideShapes Go.ChangeAt Go.RowKit
open Go.ChangeMaps (open_string shut_string)
set_option linter.unusedVariables false      -- a walk need not use every 'w<i>' (that an integer argument fits its kind)

theorem own : ownKnob Try.prog.godebug = none := by kernel_rfl

theorem ret_b {a b : Bool} (h : a = b) : Ending.returned (.bool a) = .returned (.bool b) := by rw [h]

theorem byte_yes (a : Int) (w : World) (h : 48 ≤ a ∧ a ≤ 57) : Calls Try.prog 8 #[.int .u8 a] w fun e w' => e = .returned (.bool true) ∧ w = w' := by
  obtain rfl | rfl | rfl | rfl | rfl | rfl | rfl | rfl | rfl | rfl : a = 48 ∨ a = 49 ∨ a = 50 ∨ a = 51 ∨ a = 52 ∨ a = 53 ∨ a = 54 ∨ a = 55 ∨ a = 56 ∨ a = 57 := by omega
  all_goals
    clear h
    go_enter Try.func8, Try.ntmps8
    go_wp2
    go_ret
    exact ⟨rfl, rfl⟩

theorem byte_no (a : Int) (w : World) (h : a < 48 ∨ 57 < a) : Calls Try.prog 8 #[.int .u8 a] w fun e w' => e = .returned (.bool false) ∧ w = w' := by
  rcases h with h | h
  all_goals
    go_enter Try.func8, Try.ntmps8
    go_wp2
    go_ret
    exact ⟨rfl, rfl⟩

theorem not_empty (s : ByteArray) (hs : s.size = 1) : s.toList.isEmpty = false := by
  rw [ByteArray.toList_eq]
  cases h : s.data.toList with
  | nil =>
    have e : s.data.toList.length = 1 := by simpa using hs
    rw [h] at e
    simp at e
  | cons x l => rfl

theorem dig_yes (s : ByteArray) (w : World) (hs : s.size = 1) (h1 : (48 : Int) ≤ ((s[0]'(by omega)).toNat : Int)) (h2 : ((s[0]'(by omega)).toNat : Int) ≤ 57) :
    Calls Try.prog 7 #[.string s] w fun e w' => e = .returned (.bool true) ∧ w = w' := by
  have hne := not_empty s hs
  go_enter Try.func7, Try.ntmps7
  go_wp2
  go_loop [3] (fun i => ∃ k : Nat, k ≤ 1 ∧ i = .int .i64 k) (fun i => 1 - (intOf i).toNat)
  case atStart => exact ⟨0, by omega, rfl⟩
  case round =>
    obtain ⟨k, hk, rfl⟩ := hrel
    obtain rfl | rfl : k = 0 ∨ k = 1 := by omega
    · go_wp2
      go_round
      case rel => exact ⟨1, by omega, rfl⟩
      case measure => simp [intOf]
    · go_wp2
      go_ret
      exact ⟨rfl, rfl⟩

theorem dig_no (s : ByteArray) (w : World) (hs : s.size = 1) (h : ((s[0]'(by omega)).toNat : Int) < 48 ∨ (57 : Int) < ((s[0]'(by omega)).toNat : Int)) :
    Calls Try.prog 7 #[.string s] w fun e w' => e = .returned (.bool false) ∧ w = w' := by
  rcases h with h | h
  all_goals
    go_enter Try.func7, Try.ntmps7
    go_wp2
    go_loop [3] (fun i => i = .int .i64 0) (fun _ => 0)
    case atStart => rfl
    case round =>
      subst hrel
      go_wp2
      go_ret
      exact ⟨rfl, rfl⟩

/-- The string of one byte. -/
theorem one_byte (a : Int) (h0 : 0 ≤ a) (h1 : a ≤ 255) : ∃ s : ByteArray, ∃ hs : s.size = 1, strOfNums [a] = s ∧ ((s[0]'(by omega)).toNat : Int) = a := by
  refine ⟨strOfNums [a], by rw [strOfNums_size]; rfl, rfl, ?_⟩
  show (((UInt8.ofNat a.toNat).toNat : Nat) : Int) = a
  rw [UInt8.toNat_ofNat']
  omega

theorem walk (a0 : Int) (w0 : (Lit.int .u8 a0).wf = true) (w : World) :
    Calls Try.prog 3 #[.int .u8 a0] w fun e w' => e = .returned (.bool true) ∧ Grown w w' := by
  have hb : 0 ≤ a0 ∧ a0 ≤ 255 := bounds_u8 w0
  obtain ⟨s, hs, he, hv⟩ := one_byte a0 hb.1 hb.2
  have hcv : (convert 23 9 (.slice (some ⟨w.heap.size, 0, none⟩) 1 1)).run Try.prog (w.alloc (.cells #[.int .u8 a0] 5)) = .ok (.string s) (w.alloc (.cells #[.int .u8 a0] 5)) := by
    rw [← he]
    refine run_convert_bytes_arg _ 23 5 Try.underlying23 Try.underlying5 w.heap.size 0 1 1 [a0] rfl (fun i hi => ?_) 9 Try.underlying9
    obtain rfl : i = 0 := by omega
    simp
  clear he
  by_cases h : 48 ≤ a0 ∧ a0 ≤ 57
  · have H1 := dig_yes s (w.alloc (.cells #[.int .u8 a0] 5)) hs (by omega) (by omega)
    have HH : Hid (Calls Try.prog 7 #[.string s] (w.alloc (.cells #[.int .u8 a0] 5)) fun e w' => e = .returned (.bool true) ∧ (w.alloc (.cells #[.int .u8 a0] 5)) = w') := H1
    clear H1 hv hs
    go_enter Try.func3, Try.ntmps3
    go_wp2_with (first | (go_at_call 7; refine HH.out.mono ?_; rintro e w' ⟨rfl, rfl⟩) | (go_at_call 8; refine (byte_yes _ _ h).mono ?_; rintro e w' ⟨rfl, rfl⟩))
    go_ret
    exact ⟨rfl, (Grown.refl _).alloc _ _⟩
  · have H1 := dig_no s (w.alloc (.cells #[.int .u8 a0] 5)) hs (by omega)
    have HH : Hid (Calls Try.prog 7 #[.string s] (w.alloc (.cells #[.int .u8 a0] 5)) fun e w' => e = .returned (.bool false) ∧ (w.alloc (.cells #[.int .u8 a0] 5)) = w') := H1
    have h' : a0 < 48 ∨ 57 < a0 := by omega
    have HH2 : Hid (a0 < 48 ∨ 57 < a0) := h'
    clear H1 hv hs h h'
    go_enter Try.func3, Try.ntmps3
    go_wp2_with (first | (go_at_call 7; refine HH.out.mono ?_; rintro e w' ⟨rfl, rfl⟩) | (go_at_call 8; refine (byte_no _ _ HH2.out).mono ?_; rintro e w' ⟨rfl, rfl⟩))
    go_ret
    exact ⟨rfl, (Grown.refl _).alloc _ _⟩

/-! ### THE ROW's STEP: WRITTEN OUT: LEAVE IT -/
set_option maxRecDepth 100000 in
theorem lifted (os : Os) (started : os.Started) (H : Type) (enc : TypeId × Value → H) :
    ReturnsInHanded {} Try.checked os 3 .any (Rows.fnIsDigitsOneByteSpec.pre6 enc Try.prog Try.f3 Rows.fnIsDigitsOneByteRow.domain false) (Rows.fnIsDigitsOneByteSpec.post enc Try.prog Try.f3 false true false false) := by
  refine returnsInHanded_of_change (C := Try.checked) own started (by kernel_rfl) Try.func3
    (ChangeSpec.witness6 (enc := enc) (C := Try.checked) false ⟨#[], #[.int .u8 0], []⟩ 8 (by kernel_rfl) (by kernel_rfl) (by kernel_rfl) (by kernel_rfl)) ?_
  intro W base args ds gs before hval0 hW hcnd _
  have hval : ∀ (j : Nat) t v, Try.f3.params[j]? = some t → args[j]? = some v → Value.okWide Try.prog W .any base t v := hval0
  have hW' := hW
  obtain ⟨p, q, hA0, hV, rfl, hfz, hnd⟩ := hW
  have hA : DataW.TrodAll enc Try.prog W 0 (fun _ => true) true Try.f3.params.toList args.toList ds p := hA0
  rw [Try.params3] at hA hval
  obtain ⟨v0, vs0, d0, ds0, p0, q0, hargs, rfl, rfl, h0, r0⟩ := trodAll_cons hA
  obtain ⟨rfl, rfl, rfl⟩ := trodAll_nil r0
  obtain rfl : args = #[v0] := by cases args; simp_all
  obtain ⟨rfl, rfl⟩ := trodVars_none hV
  obtain ⟨a0, rfl, rfl, rfl, w0⟩ := open_int Try.underlying5 (hval 0 5 v0 rfl rfl) h0
  clear hA0 hval0
  simp only [List.append_nil] at hW'
  refine (walk a0 w0 W).mono fun e W' ⟨he, hg⟩ => ?_
  subst he
  exact ⟨_, rfl, post_of_same (pa := []) (pv := []) hW' (fun _ _ _ => (trodAll_cons_mk (shut_bool Try.underlying4 _) trodAll_mk0)) (fun sp _ => (trodAll_cons_mk (shut_int Try.underlying5 w0) trodAll_mk0)) (fun _ _ => rfl) rfl
    (hg.frame _) hg.2.1 (ok_one (by kernel_rfl) rfl (okWide_bool_mk Try.underlying4 _))⟩

theorem over : Rows.fnIsDigitsOneByteRow.holds Try.pinned (OpenSpec.ofChange Rows.fnIsDigitsOneByteSpec) :=
  OpenClaim.holds_of_wide 3 Try.f3 rfl rfl rfl rfl rfl rfl rfl ⟨rfl, rfl, rfl, rfl, rfl⟩ rfl rfl rfl rfl rfl (by kernel_rfl) Try.func3 (by kernel_rfl)
    (of_decide_eq_true (by kernel_rfl)) (by unfold Func.isWrapper; first | (rw [if_pos (by decide +kernel)]; kernel_rfl) | (rw [if_neg (by decide +kernel)]; exact ⟨rfl, rfl⟩))
    (fun os started H enc _ => lifted os started H enc)

/-- ████ THE STATEMENT ████ -/
theorem proved : Rows.FnIsDigitsOneByteSaid :=
  over
#print axioms proved
end Go.Proofs.Qxb6602902a.fnIsDigitsOneByte
