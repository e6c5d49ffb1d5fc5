import Derived.Test.Qxb6002656aShape
namespace Go.Proofs.Qxb6002656a.Buck
open Go.RowKit En

set_option maxHeartbeats 400000 in
theorem bytes_ok (a0 a1 : Option Addr) (l0 c0 l1 c1 : Nat) (x : Int) (w : World) (h0 : l0 ≤ 4096) (h1 : l1 ≤ 4096) :
    Calls Try.prog 23 #[.slice a0 l0 c0, .slice a1 l1 c1, .int .i64 x] w fun e w' => e = .returned (.bool true) ∧ w = w' := by
  go_enter Try.func23, Try.ntmps23
  go_wp2
  go_ret
  exact ⟨rfl, rfl⟩

set_option maxHeartbeats 400000 in
theorem bytes_any (a0 a1 : Option Addr) (l0 c0 l1 c1 : Nat) (x : Int) (w : World) (h0 : l0 ≤ 9223372036854775807) (h1 : l1 ≤ 9223372036854775807) :
    Calls Try.prog 23 #[.slice a0 l0 c0, .slice a1 l1 c1, .int .i64 x] w fun e w' => (∃ b, e = .returned (.bool b)) ∧ w = w' := by
  go_enter Try.func23, Try.ntmps23
  go_wp2
  all_goals (go_ret; exact ⟨⟨_, rfl⟩, rfl⟩)

set_option maxHeartbeats 800000 in
theorem out (a0 a1 : Option Addr) (l0 c0 l1 c1 : Nat) (x : Int) (w : World) (h0 : l0 ≤ 9223372036854775807) (h1 : l1 ≤ 9223372036854775807) (hh : 4096 < l0 ∨ 4096 < l1 ∨ x < 0 ∨ 256 < x) :
    Calls Try.prog 8 #[.slice a0 l0 c0, .slice a1 l1 c1, .int .i64 x] w fun e w' => e = .returned (.bool true) ∧ Below w.heap.size w w' := by
  obtain h | h | h | h : 4096 < l0 ∨ (l0 ≤ 4096 ∧ 4096 < l1) ∨ (l0 ≤ 4096 ∧ l1 ≤ 4096 ∧ x < 0) ∨ (l0 ≤ 4096 ∧ l1 ≤ 4096 ∧ 256 < x) := by omega
  all_goals
    clear hh
    go_enter Try.func8, Try.ntmps8
    go_wp2_with (go_at_call 23; refine (bytes_any _ _ _ _ _ _ _ _ h0 h1).mono ?_; rintro e w' ⟨⟨bb, rfl⟩, rfl⟩; cases bb)
    all_goals (go_ret; exact ⟨rfl, Below.refl _ _⟩)

theorem ceq_hit (s : Nat → Nat) (i t : Nat) (h : s i = t) : ceq s (i + 1) t = ceq s i t + 1 := by simp [ceq, h]
theorem ceq_miss (s : Nat → Nat) (i t : Nat) (h : s i ≠ t) : ceq s (i + 1) t = ceq s i t := by simp [ceq, h]

set_option maxHeartbeats 1600000 in
theorem inside (a0 a1 : Option Addr) (l0 c0 l1 c1 mo : Nat) (w : World) (o s' : Nat → Int) (hr0 : Rd w a0 l0 (I o)) (hr1 : Rd w a1 l1 (I s')) (h0 : l0 ≤ 4096) (h1 : l1 ≤ 4096) (hm : mo ≤ 256) :
    Calls Try.prog 8 #[.slice a0 l0 c0, .slice a1 l1 c1, .int .i64 mo] w fun e w' => e = .returned (.bool true) ∧ Below w.heap.size w w' := by
  go_enter Try.func8, Try.ntmps8
  go_wp2_with (first | (go_at_call 23; refine (bytes_ok _ _ _ _ _ _ _ _ h0 h1).mono ?_; rintro e w' ⟨rfl, rfl⟩) | (go_at_call 24; refine (input_any _ _ _ _ _ _ _ s' _ hr1 h0 h1 (by omega) (by omega)).mono ?_; rintro e w' ⟨bb, rfl, hok, rfl⟩; cases bb))
  · go_ret
    exact ⟨rfl, Below.refl _ _⟩
  obtain ⟨hle, hfit⟩ := hok trivial
  subst hle
  clear hok
  obtain ⟨f1, f2, f3⟩ := fit_nat hfit
  refine (clone_any _ _ _ o _ hr0 (by omega)).mono ?_
  rintro e w1 ⟨a2, c2, rfl, hr2, hb1⟩
  obtain ⟨s, hs⟩ : ∃ s : Nat → Nat, s = fun i => (s' i).toNat := ⟨_, rfl⟩
  have HF : Hid ((∀ i, i < l0 → s' i = (s i : Int)) ∧ (∀ i, i < l0 → 1 ≤ s i) ∧ (∀ i, i < l0 → s i ≤ mo)) := by subst hs; exact ⟨f1, f2, f3⟩
  clear f1 f2 f3 hfit hs
  go_wp2_with fail
  refine (clone_any _ _ _ s' _ (hr1.below hb1 (Nat.le_refl _)) (by omega)).mono ?_
  rintro e w2 ⟨a3, c3, rfl, hr3, hb2⟩
  go_wp2_with fail
  have hr4 : Rd w2 a3 l0 (N s) := hr3.congr (fun j hj => congrArg (Value.int .i64) (HF.out.1 j hj))
  have hr5 := hr2.below hb2 (Nat.le_refl _)
  refine (zzNew _ _ _ _ _ mo _ rfl s o _ hr5 hr4 (by omega) (by omega) HF.out.2.1 HF.out.2.2).mono ?_
  rintro e w3 ⟨g1, g2, rfl, m1, m2, hb3⟩
  go_wp2_with fail
  refine (shape_any _ _ _ mo _ _ rfl rfl s _ m2 (by omega) HF.out.2.1 HF.out.2.2).mono ?_
  rintro e w4 ⟨rfl, q, rfl⟩
  have hB := bt (bt hb1 hb2) hb3
  have R0 := hr5.below hb3 (Nat.le_refl _)
  have R1 := hr4.below hb3 (Nat.le_refl _)
  clear hr0 hr1 hr2 hr3 hr4 hr5 hb1 hb2 hb3
  go_wp2
  go_loopw [9] (fun i wq => ∃ u : Nat, u ≤ mo ∧ i = .int .i64 ((u : Int) + 1) ∧ ∃ q, wq = w3.drewN q) (fun i _ => mo + 1 - (intOf i).toNat)
  case atStart => exact ⟨0, Nat.zero_le _, rfl, _, rfl⟩
  case round =>
    obtain ⟨u, hu, rfl, q, rfl⟩ := hrel
    by_cases hlt : u < mo
    · have e1 := (m2.2 u (by omega)).1
      simp only [N] at e1
      have hle := cle_le s l0 u
      go_wp2
      go_loopw [10, 11] (fun kk i wq => ∃ j : Nat, j ≤ l0 ∧ i = .int .i64 j ∧ kk = .int .i64 ((cle s l0 u + ceq s j (u + 1) : Nat) : Int) ∧ ∃ q, wq = w3.drewN q) (fun _ i _ => l0 - (intOf i).toNat)
      case atStart => exact ⟨0, Nat.zero_le _, rfl, rfl, _, rfl⟩
      case round =>
        obtain ⟨j, hj, rfl, rfl, q, rfl⟩ := hrel
        clear e1
        by_cases hjl : j < l0
        · obtain ⟨b, off, hx, hb, hc⟩ := R1 j hjl
          cases hx
          obtain ⟨b', off', hx, hb', hc'⟩ := R0 j hjl
          cases hx
          by_cases hsj : s j = u + 1
          · have hK : pos s l0 j = cle s l0 u + ceq s j (u + 1) := by unfold pos; rw [hsj]; simp
            have hp := pos_lt s l0 j hjl (by omega)
            have hp2 := cle_le s l0 (u + 1)
            rw [hsj] at hp
            rw [hK] at hp
            have e3 := (m1.2 (cle s l0 u + ceq s j (u + 1)) (by omega)).1
            rw [show I (srt s o l0 l0) (cle s l0 u + ceq s j (u + 1)) = .int .i64 (o j) by rw [← hK]; exact congrArg (Value.int .i64) (srt_pos s o l0 l0 j hjl (Nat.le_refl _) HF.out.2.1)] at e3
            have e4 := (m2.2 (u + 1) (by omega)).1
            simp only [N] at e4 hc
            rw [hsj] at hc
            have hnext := ceq_hit s j (u + 1) hsj
            have HN : Hid (ceq s (j + 1) (u + 1) = ceq s j (u + 1) + 1) := hnext
            clear hnext hsj hK
            generalize hKK : cle s l0 u + ceq s j (u + 1) = K at *
            have HK : Hid (cle s l0 u + ceq s j (u + 1) = K) := hKK
            clear hKK
            generalize cle s l0 (u + 1) = A at *
            have hd : decide ((A : Int) ≤ (K : Int)) = false := by simp; omega
            have hd2 : decide (A ≤ K) = false := by simp; omega
            go_wp2
            go_quiet (fail)
            go_wp2
            go_roundw
            case rel => exact ⟨j + 1, by omega, by go_num, by rw [HN.out]; have := HK.out; go_num, _, rfl⟩
            case measure => simp [intOf]; omega
          · have hnext := ceq_miss s j (u + 1) hsj
            have HN : Hid (ceq s (j + 1) (u + 1) = ceq s j (u + 1)) := hnext
            clear hnext
            simp only [N] at hc
            go_wp2
            go_roundw
            case rel => exact ⟨j + 1, by omega, by go_num, by rw [HN.out], _, rfl⟩
            case measure => simp [intOf]; omega
        · have hjE : j = l0 := by omega
          have e4 := (m2.2 (u + 1) (by omega)).1
          simp only [N] at e4
          rw [cle_succ] at e4
          subst hjE
          go_wp2
          go_roundw
          case rel => exact ⟨u + 1, by omega, by go_num, _, rfl⟩
          case measure => simp [intOf]; omega
    · go_wp2
      go_ret
      exact ⟨rfl, bdrewN hB _⟩
end Go.Proofs.Qxb6002656a.Buck
