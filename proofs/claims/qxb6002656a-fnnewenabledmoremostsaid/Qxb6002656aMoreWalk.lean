import Derived.Test.Qxb6002656aWalkC
namespace Go.Proofs.Qxb6002656a.More
open Go.RowKit En

set_option maxHeartbeats 400000 in
theorem bytes_ok (a0 a1 : Option Addr) (l0 c0 l1 c1 : Nat) (x : Int) (w : World) (h0 : l0 ≤ 4096) (h1 : l1 ≤ 4096) :
    Calls Try.prog 29 #[.slice a0 l0 c0, .slice a1 l1 c1, .int .i64 x] w fun e w' => e = .returned (.bool true) ∧ w = w' := by
  go_enter Try.func29, Try.ntmps29
  go_wp2
  go_ret
  exact ⟨rfl, rfl⟩

set_option maxHeartbeats 400000 in
theorem bytes_any (a0 a1 : Option Addr) (l0 c0 l1 c1 : Nat) (x : Int) (w : World) (h0 : l0 ≤ 9223372036854775807) (h1 : l1 ≤ 9223372036854775807) :
    Calls Try.prog 29 #[.slice a0 l0 c0, .slice a1 l1 c1, .int .i64 x] w fun e w' => (∃ b, e = .returned (.bool b)) ∧ w = w' := by
  go_enter Try.func29, Try.ntmps29
  go_wp2
  all_goals (go_ret; exact ⟨⟨_, rfl⟩, rfl⟩)

set_option maxHeartbeats 800000 in
theorem out (a0 a1 : Option Addr) (l0 c0 l1 c1 : Nat) (x : Int) (w : World) (h0 : l0 ≤ 9223372036854775807) (h1 : l1 ≤ 9223372036854775807) (hh : 4096 < l0 ∨ 4096 < l1 ∨ x < 0 ∨ 256 ≤ x) :
    Calls Try.prog 10 #[.slice a0 l0 c0, .slice a1 l1 c1, .int .i64 x] w fun e w' => e = .returned (.bool true) ∧ Below w.heap.size w w' := by
  obtain h | h | h | h : 4096 < l0 ∨ (l0 ≤ 4096 ∧ 4096 < l1) ∨ (l0 ≤ 4096 ∧ l1 ≤ 4096 ∧ x < 0) ∨ (l0 ≤ 4096 ∧ l1 ≤ 4096 ∧ 256 ≤ x) := by omega
  all_goals
    clear hh
    go_enter Try.func10, Try.ntmps10
    go_wp2_with (go_at_call 29; refine (bytes_any _ _ _ _ _ _ _ _ h0 h1).mono ?_; rintro e w' ⟨⟨bb, rfl⟩, rfl⟩; cases bb)
    all_goals (go_ret; exact ⟨rfl, Below.refl _ _⟩)

set_option maxHeartbeats 1600000 in
theorem inside (a0 a1 : Option Addr) (l0 c0 l1 c1 mo : Nat) (w : World) (o s : Nat → Int) (hr0 : Rd w a0 l0 (I o)) (hr1 : Rd w a1 l1 (I s)) (h0 : l0 ≤ 4096) (h1 : l1 ≤ 4096) (hm : mo < 256) :
    Calls Try.prog 10 #[.slice a0 l0 c0, .slice a1 l1 c1, .int .i64 mo] w fun e w' => e = .returned (.bool true) ∧ Below w.heap.size w w' := by
  go_enter Try.func10, Try.ntmps10
  go_wp2_with (first | (go_at_call 29; refine (bytes_ok _ _ _ _ _ _ _ _ h0 h1).mono ?_; rintro e w' ⟨rfl, rfl⟩) | (go_at_call 24; refine (input_any _ _ _ _ _ _ _ s _ hr1 h0 h1 (by omega) (by omega)).mono ?_; rintro e w' ⟨bb, rfl, hok, rfl⟩; cases bb))
  · go_ret
    exact ⟨rfl, Below.refl _ _⟩
  obtain ⟨hle, hfit⟩ := hok trivial
  subst hle
  clear hok
  obtain ⟨f1, f2, f3⟩ := fit_nat hfit
  refine (clone_any _ _ _ o _ hr0 (by omega)).mono ?_
  rintro e w1 ⟨a2, c2, rfl, hr2, hb1⟩
  have HF : Hid ((∀ i, i < l0 → s i = ((s i).toNat : Int)) ∧ (∀ i, i < l0 → 1 ≤ (s i).toNat) ∧ (∀ i, i < l0 → (s i).toNat ≤ mo)) := ⟨f1, f2, f3⟩
  clear f1 f2 f3 hfit
  go_wp2_with fail
  refine (clone_any _ _ _ s _ (hr1.below hb1 (Nat.le_refl _)) (by omega)).mono ?_
  rintro e w2 ⟨a3, c3, rfl, hr3, hb2⟩
  go_wp2_with fail
  have hr4 : Rd w2 a3 l0 (N (fun i => (s i).toNat)) := hr3.congr (fun j hj => congrArg (Value.int .i64) (HF.out.1 j hj))
  refine (zzNew _ _ _ _ _ mo _ rfl (fun i => (s i).toNat) o _ (hr2.below hb2 (Nat.le_refl _)) hr4 (by omega) (by omega) HF.out.2.1 HF.out.2.2).mono ?_
  rintro e w3 ⟨g1, g2, rfl, m1, m2, hb3⟩
  go_wp2_with fail
  refine (zzNew _ _ _ _ _ (mo + 1) _ (by omega) (fun i => (s i).toNat) o _ ((hr2.below hb2 (Nat.le_refl _)).below hb3 (Nat.le_refl _)) (hr4.below hb3 (Nat.le_refl _)) (by omega) (by omega) HF.out.2.1 (fun i hi => by have := HF.out.2.2 i hi; omega)).mono ?_
  rintro e w4 ⟨g3, g4, rfl, m3, m4, hb4⟩
  have M1 := m1.below hb4 m1.1
  have M2 := m2.below hb4 m2.1
  have hB := bt (bt (bt hb1 hb2) hb3) hb4
  clear hr0 hr1 hr2 hr3 hr4 hb1 hb2 hb3 hb4 m1 m2
  have hmm : ((mo : Int) + 1 + 1 != (mo : Int) + 2) = false := by simp; omega
  go_wp2
  go_loopw [11] (fun i wq => ∃ k : Nat, k ≤ l0 ∧ i = .int .i64 k ∧ Mine wq g1 l0 (I (srt (fun i => (s i).toNat) o l0 l0)) ∧ Mine wq g3 l0 (I (srt (fun i => (s i).toNat) o l0 l0)) ∧ Mine wq g2 (mo + 1) (N (cle (fun i => (s i).toNat) l0)) ∧ Mine wq g4 (mo + 1 + 1) (N (cle (fun i => (s i).toNat) l0)) ∧ Below w.heap.size w wq) (fun i _ => l0 - (intOf i).toNat)
  case atStart => exact ⟨0, Nat.zero_le _, rfl, M1, m3, M2, m4, hB⟩
  case round =>
    obtain ⟨k, hk, rfl, n1, n3, n2, n4, hBr⟩ := hrel
    clear M1 M2 m3 m4 hB
    by_cases hlt : k < l0
    · have e1 := (n1.2 k hlt).1
      have e3 := (n3.2 k hlt).1
      generalize srt (fun i => (s i).toNat) o l0 l0 k = v at e1 e3
      go_wp2
      go_quiet (fail)
      go_wp2
      go_roundw
      case rel => exact ⟨k + 1, by omega, by go_num, n1, n3, n2, n4, bdrewN hBr _⟩
      case measure => simp [intOf]; omega
    · go_wp2
      go_loopw [12] (fun i wq => ∃ k : Nat, k ≤ mo + 1 ∧ i = .int .i64 k ∧ Mine wq g2 (mo + 1) (N (cle (fun i => (s i).toNat) l0)) ∧ Mine wq g4 (mo + 1 + 1) (N (cle (fun i => (s i).toNat) l0)) ∧ Below w.heap.size w wq) (fun i _ => mo + 1 - (intOf i).toNat)
      case atStart => exact ⟨0, Nat.zero_le _, rfl, n2, n4, hBr⟩
      case round =>
        obtain ⟨u, hu, rfl, n2, n4, hBr⟩ := hrel
        by_cases hlt2 : u < mo + 1
        · have e2 := (n2.2 u hlt2).1
          have e4 := (n4.2 u (by omega)).1
          generalize cle (fun i => (s i).toNat) l0 u = v at e2 e4
          go_wp2
          go_quiet (fail)
          go_wp2
          go_roundw
          case rel => exact ⟨u + 1, by omega, by go_num, n2, n4, bdrewN hBr _⟩
          case measure => simp [intOf]; omega
        · have e2 := (n2.2 mo (by omega)).1
          have e4 := (n4.2 (mo + 1) (by omega)).1
          simp only [N] at e2 e4
          rw [cle_all _ _ _ HF.out.2.2] at e2
          rw [cle_all _ _ _ (fun i hi => by have := HF.out.2.2 i hi; omega)] at e4
          go_wp2
          go_quiet (fail)
          go_wp2
          go_ret
          exact ⟨ret_b (by simp), bdrewN hBr _⟩
end Go.Proofs.Qxb6002656a.More
