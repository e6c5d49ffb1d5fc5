import Derived.Test.Qxb6002649aLineWalks
namespace Go.Proofs.Qxb6002649a.Only
open Go.RowKit Line

set_option maxHeartbeats 400000 in
theorem bytes_ok (a0 a1 : Option Addr) (l0 c0 l1 c1 : Nat) (x y : Bool) (w : World) (h0 : l0 ≤ 65536) (h1 : l1 ≤ 65536) :
    Calls Try.prog 22 #[.slice a0 l0 c0, .slice a1 l1 c1, .bool x, .bool y] w fun e w' => e = .returned (.bool true) ∧ w' = w := by
  go_enter Try.func22, Try.ntmps22
  go_wp2
  go_ret
  exact ⟨rfl, rfl⟩

set_option maxHeartbeats 400000 in
theorem bytes_any (a0 a1 : Option Addr) (l0 c0 l1 c1 : Nat) (x y : Bool) (w : World) (h0 : l0 ≤ 9223372036854775807) (h1 : l1 ≤ 9223372036854775807) :
    Calls Try.prog 22 #[.slice a0 l0 c0, .slice a1 l1 c1, .bool x, .bool y] w fun e w' => (∃ b, e = .returned (.bool b)) ∧ w' = w := by
  go_enter Try.func22, Try.ntmps22
  go_wp2
  all_goals (go_ret; exact ⟨⟨_, rfl⟩, rfl⟩)

set_option maxHeartbeats 800000 in
theorem long (a0 a1 : Option Addr) (l0 c0 l1 c1 : Nat) (x y : Bool) (w : World) (h0 : l0 ≤ 9223372036854775807) (h1 : l1 ≤ 9223372036854775807) (hh : 65536 < l0 ∨ 65536 < l1) :
    Calls Try.prog 9 #[.slice a0 l0 c0, .slice a1 l1 c1, .bool x, .bool y] w fun e w' => e = .returned (.bool true) ∧ Below w.heap.size w w' := by
  by_cases h : 65536 < l0
  · clear hh
    go_enter Try.func9, Try.ntmps9
    go_wp2_with (go_at_call 22; refine (bytes_any _ _ _ _ _ _ _ _ _ h0 h1).mono ?_; rintro e w' ⟨⟨bb, rfl⟩, rfl⟩; cases bb)
    all_goals (go_ret; exact ⟨rfl, Below.refl _ _⟩)
  · have h2 : 65536 < l1 := by omega
    clear hh
    go_enter Try.func9, Try.ntmps9
    go_wp2_with (go_at_call 22; refine (bytes_any _ _ _ _ _ _ _ _ _ h0 h1).mono ?_; rintro e w' ⟨⟨bb, rfl⟩, rfl⟩; cases bb)
    all_goals (go_ret; exact ⟨rfl, Below.refl _ _⟩)

set_option maxHeartbeats 800000 in
theorem short (a0 a1 : Option Addr) (l0 c0 l1 c1 : Nat) (x y : Bool) (w : World) (f0 f1 : Nat → Bool) (hr0 : Rd w a0 l0 f0) (hr1 : Rd w a1 l1 f1) (h0 : l0 ≤ 65536) (h1 : l1 ≤ 65536) :
    Calls Try.prog 9 #[.slice a0 l0 c0, .slice a1 l1 c1, .bool x, .bool y] w fun e w' => e = .returned (.bool true) ∧ Below w.heap.size w w' := by
  go_enter Try.func9, Try.ntmps9
  go_wp2_with (go_at_call 22; refine (bytes_ok _ _ _ _ _ _ _ _ _ h0 h1).mono ?_; rintro e w' ⟨rfl, rfl⟩)
  refine (clone_any _ _ _ f0 _ hr0 h0).mono ?_
  rintro e w1 ⟨a2, c2, rfl, hr2, hb1⟩
  go_wp2_with fail
  refine (clone_any _ _ _ f1 _ (hr1.below hb1) h1).mono ?_
  rintro e w2 ⟨a3, c3, rfl, hr3, hb2⟩
  go_wp2_with fail
  refine (push_any _ _ _ f0 _ _ (hr2.below hb2) h0).mono ?_
  rintro e w3 ⟨a4, c4, rfl, hr4, hb3⟩
  go_wp2_with fail
  refine (push_any _ _ _ f1 _ _ ((hr3.below hb3)) h1).mono ?_
  rintro e w4 ⟨a5, c5, rfl, hr5, hb4⟩
  go_wp2_with fail
  refine (ends_last _ x _ l0 _ _ _ _ (hr4.below hb4) rfl h0 (by simp)).mono ?_
  rintro e w5 ⟨rfl, hb5⟩
  go_wp2_with fail
  refine (ends_last _ x _ l1 _ _ _ _ (hr5.below hb5) rfl h1 (by simp)).mono ?_
  rintro e w6 ⟨rfl, hb6⟩
  go_wp2_with fail
  refine (ends_none _ _ _ _).mono ?_
  rintro e w7 ⟨rfl, hb7⟩
  go_wp2_with fail
  refine (ends_none _ _ _ _).mono ?_
  rintro e w8 ⟨rfl, hb8⟩
  have hB := bt (bt (bt (bt (bt (bt (bt (bt hb1 hb2) hb3) hb4) hb5) hb6) hb7) ((Below.refl _ _).alloc (Nat.le_refl _) _)) hb8
  clear hb1 hb2 hb3 hb4 hb5 hb6 hb7 hb8 hr0 hr1 hr2 hr3 hr4 hr5
  cases y <;> cases x
  all_goals (go_wp2; go_ret; exact ⟨rfl, hB⟩)
end Go.Proofs.Qxb6002649a.Only
