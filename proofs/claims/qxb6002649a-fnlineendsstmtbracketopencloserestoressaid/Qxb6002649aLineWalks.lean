import Derived.Test.Qxb6002649aKit
namespace Go.Proofs.Qxb6002649a.Line
open Go.RowKit

set_option maxHeartbeats 400000 in
theorem clone_any (a : Option Addr) (len cap : Nat) (f : Nat → Bool) (w : World) (hr : Rd w a len f) (hl : len ≤ 65536) :
    Calls Try.prog 19 #[.slice a len cap] w fun e w' => ∃ a' c', e = .returned (.slice a' len c') ∧ Rd w' a' len f ∧ Below w.heap.size w w' := by
  obtain ⟨i4, hi, hz0, hz1, hz2⟩ := info_parts info4
  have heq : ∀ (w : World) (a : Option Addr) (n c n' c' : Nat), (binOp .eql 28 (.slice a n c) (.slice none n' c')).run Try.prog w = .ok (.bool a.isNone) w := fun w a n c n' c' => Lib.run_eql_slice_nil w _ _ a n c n' c' Try.underlying28
  cases a with
  | none =>
    have h0 : len = 0 := by
      rcases Nat.eq_zero_or_pos len with h | h
      · exact h
      · obtain ⟨b, off, h', _⟩ := hr 0 h; cases h'
    subst h0
    go_enter Try.func19, Try.ntmps19
    go_wp2
    go_ret
    exact ⟨none, 0, rfl, fun i hi => by omega, Below.refl _ _⟩
  | some x =>
    go_enter Try.func19, Try.ntmps19
    go_wp2_with (at_make; refine wpList_make_full _ rfl _ _ 28 rfl w.heap.size 4 i4 (.bool false) 1 Try.underlying28 hi hz0 hz1 _ _ _ _ len rfl rfl rfl rfl (by rw [hz2]; omega) (by unfold maxLen; omega) (Nat.le_refl _) ?_)
    intro w1 hown hgrow
    have hM := made hown
    have hB : Below w.heap.size w w1 := (Below.refl _ _).grown hgrow (Nat.le_refl _) (by intro k hk; cases hk)
    clear hown hgrow
    go_wp2
    go_loopw [4] (fun i wr => ∃ k : Nat, k ≤ len ∧ i = .int .i64 k ∧ Mine wr w.heap.size len (fun j => if j < k then .bool (f j) else .bool false) ∧ Below w.heap.size w wr) (fun i _ => len - (intOf i).toNat)
    case atStart => exact ⟨0, Nat.zero_le _, rfl, hM.congr (fun j _ => by simp), hB⟩
    case round =>
      obtain ⟨k, hk, rfl, hMr, hBr⟩ := hrel
      by_cases hlt : k < len
      · obtain ⟨b, off, hx, hb, hc⟩ := hr.below hBr k hlt
        cases hx
        obtain ⟨hd, hf⟩ := hMr.2 k hlt
        simp only [Nat.lt_irrefl, if_false] at hd
        have hS := hMr.store k hlt (.bool (f k))
        have hBs := hBr.setCell (p := ⟨w.heap.size, k, none⟩) (Nat.le_refl _) (.bool (f k))
        clear hMr hBr hM hB
        go_wp2
        go_roundw
        case rel => exact ⟨k + 1, by omega, by go_num, hS.congr (fun j hj => by by_cases e : j = k <;> simp [e] <;> (by_cases e2 : j < k <;> simp [e2] <;> omega)), hBs⟩
        case measure => simp [intOf]; omega
      · have hke : k = len := by omega
        go_wp2
        go_ret
        exact ⟨_, _, rfl, hMr.rd (fun j hj => by rw [if_pos (by omega)]), hBr⟩

set_option maxHeartbeats 400000 in
theorem push_any (a : Option Addr) (len cap : Nat) (f : Nat → Bool) (x : Bool) (w : World) (hr : Rd w a len f) (hl : len ≤ 65536) :
    Calls Try.prog 23 #[.slice a len cap, .bool x] w fun e w' => ∃ a' c', e = .returned (.slice a' ((len + 1 : Nat) : Nat) c') ∧ Rd w' a' (len + 1) (fun i => if i < len then f i else x) ∧ Below w.heap.size w w' := by
  obtain ⟨i4, hi, hz0, hz1, hz2⟩ := info_parts info4
  go_enter Try.func23, Try.ntmps23
  go_wp2_with (at_make; refine wpList_make_full _ rfl _ _ 28 rfl w.heap.size 4 i4 (.bool false) 1 Try.underlying28 hi hz0 hz1 _ _ _ _ (len + 1) rfl rfl (by omega) (by omega) (by rw [hz2]; omega) (by unfold maxLen; omega) (Nat.le_refl _) ?_)
  intro w1 hown hgrow
  have hM := made hown
  have hB : Below w.heap.size w w1 := (Below.refl _ _).grown hgrow (Nat.le_refl _) (by intro k hk; cases hk)
  clear hown hgrow
  go_wp2
  go_loopw [6] (fun i wr => ∃ k : Nat, k ≤ len ∧ i = .int .i64 k ∧ Mine wr w.heap.size (len + 1) (fun j => if j < k then .bool (f j) else .bool false) ∧ Below w.heap.size w wr) (fun i _ => len - (intOf i).toNat)
  case atStart => exact ⟨0, Nat.zero_le _, rfl, hM.congr (fun j _ => by simp), hB⟩
  case round =>
    obtain ⟨k, hk, rfl, hMr, hBr⟩ := hrel
    by_cases hlt : k < len
    · obtain ⟨b, off, hx, hb, hc⟩ := hr.below hBr k hlt
      cases hx
      obtain ⟨hd, hf⟩ := hMr.2 k (by omega)
      simp only [Nat.lt_irrefl, if_false] at hd
      have hS := hMr.store k (by omega) (.bool (f k))
      have hBs := hBr.setCell (p := ⟨w.heap.size, k, none⟩) (Nat.le_refl _) (.bool (f k))
      clear hMr hBr hM hB
      go_wp2
      go_roundw
      case rel => exact ⟨k + 1, by omega, by go_num, hS.congr (fun j hj => by by_cases e : j = k <;> simp [e] <;> (by_cases e2 : j < k <;> simp [e2] <;> omega)), hBs⟩
      case measure => simp [intOf]; omega
    · have hke : k = len := by omega
      subst hke
      obtain ⟨hd, hf⟩ := hMr.2 k (by omega)
      simp only [Nat.lt_irrefl, if_false] at hd
      have hS := hMr.store k (by omega) (.bool x)
      have hBs := hBr.setCell (p := ⟨w.heap.size, k, none⟩) (Nat.le_refl _) (.bool x)
      clear hMr hBr hM hB
      go_wp2
      go_ret
      exact ⟨_, _, rfl, hS.rd (fun j hj => by by_cases e : j = k; simp [e]; simp [e, show j < k by omega]), hBs⟩

set_option maxHeartbeats 400000 in
theorem ends_any (b : Bool) (a : Option Addr) (len cap : Nat) (f : Nat → Bool) (w : World) (hr : Rd w a len f) (hl : len ≤ 65537) :
    Calls Try.prog 20 #[.bool b, .slice a len cap] w fun e w' => e = .returned (.bool (b && (len == 0 || f (len - 1)))) ∧ Below w.heap.size w w' := by
  cases b with
  | false =>
    go_enter Try.func20, Try.ntmps20
    go_wp2
    go_ret
    exact ⟨rfl, (Below.refl _ _).alloc (Nat.le_refl _) _⟩
  | true =>
    by_cases h0 : len = 0
    · subst h0
      go_enter Try.func20, Try.ntmps20
      go_wp2
      go_ret
      exact ⟨rfl, (Below.refl _ _).alloc (Nat.le_refl _) _⟩
    · obtain ⟨n, rfl⟩ : ∃ n, len = n + 1 := ⟨len - 1, by omega⟩
      obtain ⟨bb, off, rfl, hb, hc⟩ := hr n (by omega)
      clear h0 hr
      go_enter Try.func20, Try.ntmps20
      go_wp2
      go_ret
      exact ⟨by simp [show ¬ ((n : Int) + 1 = 0) by omega], (Below.refl _ _).alloc (Nat.le_refl _) _⟩

theorem ends_last (b x : Bool) (a : Option Addr) (n m cap : Nat) (f : Nat → Bool) (w : World) (hr : Rd w a m f) (hm : m = n + 1) (hl : n ≤ 65536) (hx : f n = x) :
    Calls Try.prog 20 #[.bool b, .slice a m cap] w fun e w' => e = .returned (.bool (b && x)) ∧ Below w.heap.size w w' := by
  subst hm
  refine (ends_any b a (n + 1) cap f w hr (by omega)).mono ?_
  rintro e w' ⟨rfl, hb⟩
  exact ⟨by simp [hx], hb⟩

theorem ends_none (b : Bool) (a : Option Addr) (cap : Nat) (w : World) :
    Calls Try.prog 20 #[.bool b, .slice a 0 cap] w fun e w' => e = .returned (.bool b) ∧ Below w.heap.size w w' := by
  refine (ends_any b a 0 cap (fun _ => false) w (fun i hi => absurd hi (Nat.not_lt_zero _)) (by omega)).mono ?_
  rintro e w' ⟨rfl, hb⟩
  exact ⟨by simp, hb⟩
end Go.Proofs.Qxb6002649a.Line
