import Derived.Test.Qxb6002649aLineWalks
namespace Go.Proofs.Qxb6002649a.Bracket
open Go.RowKit Line

set_option maxHeartbeats 400000 in
theorem bytes_ok (a0 : Option Addr) (l0 c0 : Nat) (x y : Bool) (w : World) (h0 : l0 ≤ 65536) :
    Calls Try.prog 18 #[.slice a0 l0 c0, .bool x, .bool y] w fun e w' => e = .returned (.bool true) ∧ w' = w := by
  go_enter Try.func18, Try.ntmps18
  go_wp2
  go_ret
  exact ⟨rfl, rfl⟩

set_option maxHeartbeats 400000 in
theorem bytes_any (a0 : Option Addr) (l0 c0 : Nat) (x y : Bool) (w : World) (h0 : l0 ≤ 9223372036854775807) :
    Calls Try.prog 18 #[.slice a0 l0 c0, .bool x, .bool y] w fun e w' => (∃ b, e = .returned (.bool b)) ∧ w' = w := by
  go_enter Try.func18, Try.ntmps18
  go_wp2
  all_goals (go_ret; exact ⟨⟨_, rfl⟩, rfl⟩)

set_option maxHeartbeats 800000 in
theorem long (a0 : Option Addr) (l0 c0 : Nat) (x y : Bool) (w : World) (h0 : l0 ≤ 9223372036854775807) (hh : 65536 < l0) :
    Calls Try.prog 8 #[.slice a0 l0 c0, .bool x, .bool y] w fun e w' => e = .returned (.bool true) ∧ Below w.heap.size w w' := by
  go_enter Try.func8, Try.ntmps8
  go_wp2_with (go_at_call 18; refine (bytes_any _ _ _ _ _ _ h0).mono ?_; rintro e w' ⟨⟨bb, rfl⟩, rfl⟩; cases bb)
  all_goals (go_ret; exact ⟨rfl, Below.refl _ _⟩)

set_option maxHeartbeats 400000 in
theorem close_any (g n c : Nat) (w : World) (h0 : n ≤ 65536) (hc : n + 1 ≤ c) :
    Calls Try.prog 21 #[.slice (some ⟨g, 0, none⟩) ((n + 1 : Nat) : Nat) c] w fun e w' => e = .returned (.slice (some ⟨g, 0, none⟩) n c) ∧ Below w.heap.size w w' := by
  go_enter Try.func21, Try.ntmps21
  go_wp2
  go_ret
  exact ⟨rfl, (Below.refl _ _).alloc (Nat.le_refl _) _⟩

set_option maxHeartbeats 800000 in
theorem short (a0 : Option Addr) (l0 c0 : Nat) (x y : Bool) (w : World) (f0 : Nat → Bool) (hr0 : Rd w a0 l0 f0) (h0 : l0 ≤ 65536) :
    Calls Try.prog 8 #[.slice a0 l0 c0, .bool x, .bool y] w fun e w' => e = .returned (.bool true) ∧ Below w.heap.size w w' := by
  obtain ⟨i4, hi, hz0, hz1, hz2⟩ := info_parts info4
  go_enter Try.func8, Try.ntmps8
  go_wp2_with (go_at_call 18; refine (bytes_ok _ _ _ _ _ _ h0).mono ?_; rintro e w' ⟨rfl, rfl⟩)
  refine (clone_any _ _ _ f0 _ hr0 h0).mono ?_
  rintro e w1 ⟨a2, c2, rfl, hr2, hb1⟩
  go_wp2_with fail
  refine (ends_any _ _ _ _ f0 _ hr2 (by omega)).mono ?_
  rintro e w2 ⟨rfl, hb2⟩
  generalize hbef : (x && (l0 == 0 || f0 (l0 - 1))) = bef
  have Hbef : Hid ((x && (l0 == 0 || f0 (l0 - 1))) = bef) := hbef
  clear hbef
  go_wp2_with (at_make; refine wpList_make_full _ rfl _ _ 28 rfl w2.heap.size 4 i4 (.bool false) 1 Try.underlying28 hi hz0 hz1 _ _ _ _ (l0 + 1) rfl rfl (by omega) (by omega) (by rw [hz2]; omega) (by unfold maxLen; omega) (Nat.le_refl _) ?_)
  intro w3 hown hgrow
  have hM := made hown
  have hB3 : Below w2.heap.size w2 w3 := (Below.refl _ _).grown hgrow (Nat.le_refl _) (by intro k hk; cases hk)
  have hr3 := (hr2.below hb2)
  have hb12 := bt hb1 hb2
  clear hown hgrow hr0 hr2 hb1 hb2
  go_wp2
  go_loopw [10] (fun i wr => ∃ k : Nat, k ≤ l0 ∧ i = .int .i64 k ∧ Mine wr w2.heap.size (l0 + 1) (fun j => if j < k then .bool (f0 j) else .bool false) ∧ Below w2.heap.size w2 wr) (fun i _ => l0 - (intOf i).toNat)
  case atStart => exact ⟨0, Nat.zero_le _, rfl, hM.congr (fun j _ => by simp), hB3⟩
  case round =>
    obtain ⟨k, hk, rfl, hMr, hBr⟩ := hrel
    by_cases hlt : k < l0
    · obtain ⟨b, off, hx, hb, hc⟩ := hr3.below hBr k hlt
      cases hx
      obtain ⟨hd, hf⟩ := hMr.2 k (by omega)
      simp only [Nat.lt_irrefl, if_false] at hd
      have hS := hMr.store k (by omega) (.bool (f0 k))
      have hBs := hBr.setCell (p := ⟨w2.heap.size, k, none⟩) (Nat.le_refl _) (.bool (f0 k))
      clear hMr hBr hM hB3
      go_wp2
      go_roundw
      case rel => exact ⟨k + 1, by omega, by go_num, hS.congr (fun j hj => by by_cases e : j = k <;> simp [e] <;> (by_cases e2 : j < k <;> simp [e2] <;> omega)), hBs⟩
      case measure => simp [intOf]; omega
    · have hke : k = l0 := by omega
      subst hke
      obtain ⟨hd, hf⟩ := hMr.2 k (by omega)
      simp only [Nat.lt_irrefl, if_false] at hd
      have hS := hMr.store k (by omega) (.bool y)
      have hBs := hBr.setCell (p := ⟨w2.heap.size, k, none⟩) (Nat.le_refl _) (.bool y)
      have hR : Rd _ _ (k + 1) (fun i => if i < k then f0 i else y) := hS.rd (fun j hj => by by_cases e : j = k; simp [e]; simp [e, show j < k by omega])
      clear hMr hBr hM hB3
      go_wp2_with fail
      refine (ends_last _ y _ k _ _ _ _ hR rfl h0 (by simp)).mono ?_
      rintro e w5 ⟨rfl, hb5⟩
      go_wp2_with fail
      refine (close_any _ _ _ _ h0 (Nat.le_refl _)).mono ?_
      rintro e w6 ⟨rfl, hb6⟩
      go_wp2_with fail
      have hR6 : Rd w6 (some ⟨w2.heap.size, 0, none⟩) k f0 := by
        intro i hi
        obtain ⟨b, off, e1, e2, e3⟩ := ((hR.below hb5).below hb6) i (by omega)
        exact ⟨b, off, e1, e2, by rw [e3]; simp [hi]⟩
      refine (ends_any _ _ _ _ f0 _ hR6 (by omega)).mono ?_
      rintro e w7 ⟨rfl, hb7⟩
      rw [Hbef.out]
      have hB := bt (bt (bt (bt hb12 hBs) hb5) hb6) hb7
      clear hb12 hBs hb5 hb6 hb7 hR hR6 hS
      cases x <;> cases y <;> cases bef
      all_goals (go_wp2; go_ret; exact ⟨rfl, hB⟩)

end Go.Proofs.Qxb6002649a.Bracket
