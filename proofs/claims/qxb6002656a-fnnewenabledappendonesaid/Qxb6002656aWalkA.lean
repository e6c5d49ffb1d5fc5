import Derived.Test.Qxb6002656aKit
namespace Go.Proofs.Qxb6002656a.En
open Go.RowKit

/-- The value of an int cell. -/
abbrev I (f : Nat → Int) : Nat → Value := fun i => .int .i64 (f i)

set_option maxHeartbeats 400000 in
theorem clone_any (a : Option Addr) (len cap : Nat) (f : Nat → Int) (w : World) (hr : Rd w a len (I f)) (hl : len ≤ 65536) :
    Calls Try.prog 25 #[.slice a len cap] w fun e w' => ∃ a' c', e = .returned (.slice a' len c') ∧ Rd w' a' len (I f) ∧ Below w.heap.size w w' := by
  obtain ⟨i3, hi, hz0, hz1, hz2⟩ := info_parts info3
  have heq : ∀ (w : World) (a : Option Addr) (n c n' c' : Nat), (binOp .eql 41 (.slice a n c) (.slice none n' c')).run Try.prog w = .ok (.bool a.isNone) w := fun w a n c n' c' => Lib.run_eql_slice_nil w _ _ a n c n' c' Try.underlying41
  cases a with
  | none =>
    have h0 : len = 0 := by
      rcases Nat.eq_zero_or_pos len with h | h
      · exact h
      · obtain ⟨b, off, h', _⟩ := hr 0 h; cases h'
    subst h0
    go_enter Try.func25, Try.ntmps25
    go_wp2
    go_ret
    exact ⟨none, 0, rfl, fun i hi => by omega, Below.refl _ _⟩
  | some x =>
    go_enter Try.func25, Try.ntmps25
    go_wp2_with (at_make; refine wpList_make_full _ rfl _ _ 41 rfl w.heap.size 3 i3 (.int .i64 0) 1 Try.underlying41 hi hz0 hz1 _ _ _ _ len rfl rfl rfl rfl (by rw [hz2]; omega) (by unfold maxLen; omega) (Nat.le_refl _) ?_)
    intro w1 hown hgrow
    have hH := made_heap hown
    have hB : Below w.heap.size w w1 := (Below.refl _ _).grown hgrow (Nat.le_refl _) (by intro k hk; cases hk)
    have hr1 := hr.below hB (Nat.le_refl _)
    clear hown hgrow
    obtain ⟨w2, hcp, hM, hB2⟩ := copy_made (P := Try.prog) (cap := cap) Try.underlying41 size3 hH (Nat.le_refl len) hr1 (fun _ => rfl) hB (Nat.le_refl _)
    clear hH hr1 hB
    go_wp2
    go_ret
    exact ⟨_, _, rfl, hM.rd.congr (fun j hj => by simp [hj]), hB2⟩

theorem ret_b {a b : Bool} (h : a = b) : Ending.returned (.bool a) = .returned (.bool b) := by rw [h]

/-- What 'b1EnabledInput' grants. -/
def Fit (l1 : Nat) (s : Nat → Int) (most : Int) : Prop := ∀ j, j < l1 → 1 ≤ s j ∧ s j ≤ most

def InPost (l0 l1 : Nat) (s : Nat → Int) (most : Int) (w : World) (e : Ending) (w' : World) : Prop := ∃ b, e = .returned (.bool b) ∧ (b = true → l0 = l1 ∧ Fit l1 s most) ∧ w = w'

set_option maxHeartbeats 400000 in
theorem input_any (a0 a1 : Option Addr) (l0 c0 l1 c1 : Nat) (most : Int) (s : Nat → Int) (w : World) (hr : Rd w a1 l1 (I s)) (h0 : l0 ≤ 4096) (h1 : l1 ≤ 4096) (m0 : 0 ≤ most) (m1 : most ≤ 256) :
    Calls Try.prog 24 #[.slice a0 l0 c0, .slice a1 l1 c1, .int .i64 most] w (InPost l0 l1 s most w) := by
  by_cases hne : l0 = l1
  · subst hne
    go_enter Try.func24, Try.ntmps24
    go_wp2
    go_loop [7] (fun i => ∃ k : Nat, k ≤ l0 ∧ i = .int .i64 k ∧ Hid (∀ j, j < k → 1 ≤ s j ∧ s j ≤ most)) (fun i => l0 - (intOf i).toNat)
    case atStart => exact ⟨0, Nat.zero_le _, rfl, fun j hj => absurd hj (Nat.not_lt_zero _)⟩
    case round =>
      obtain ⟨k, hk, rfl, hs⟩ := hrel
      by_cases hlt : k < l0
      · obtain ⟨b, off, hx, hb, hc⟩ := hr k hlt
        cases hx
        by_cases hA : s k < 1
        · go_wp2
          go_ret
          exact ⟨false, rfl, fun h => absurd h Bool.false_ne_true, rfl⟩
        · by_cases hB : most < s k
          · go_wp2
            go_ret
            exact ⟨false, rfl, fun h => absurd h Bool.false_ne_true, rfl⟩
          · go_wp2
            go_round
            case rel => exact ⟨k + 1, by omega, by go_num, fun j hj => by
                          by_cases e : j = k
                          · subst e; omega
                          · exact hs.out j (by omega)⟩
            case measure => simp [intOf]; omega
      · go_wp2
        go_ret
        exact ⟨true, rfl, fun _ => ⟨rfl, fun j hj => hs.out j (by omega)⟩, rfl⟩
  · have hne' : ((l0 : Int) == (l1 : Int)) = false := by rw [beq_eq_false_iff_ne]; omega
    go_enter Try.func24, Try.ntmps24
    go_wp2
    go_ret
    exact ⟨false, rfl, fun h => absurd h Bool.false_ne_true, rfl⟩
end Go.Proofs.Qxb6002656a.En
