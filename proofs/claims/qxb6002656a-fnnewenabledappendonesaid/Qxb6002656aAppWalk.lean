import Derived.Test.Qxb6002656aShape
namespace Go.Proofs.Qxb6002656a.App
open Go.RowKit En

set_option maxHeartbeats 400000 in
theorem bytes_ok (a0 a1 : Option Addr) (l0 c0 l1 c1 : Nat) (x y z : Int) (w : World) (h0 : l0 ≤ 4096) (h1 : l1 ≤ 4096) :
    Calls Try.prog 28 #[.slice a0 l0 c0, .slice a1 l1 c1, .int .i64 x, .int .i64 y, .int .i64 z] w fun e w' => e = .returned (.bool true) ∧ w = w' := by
  go_enter Try.func28, Try.ntmps28
  go_wp2
  go_ret
  exact ⟨rfl, rfl⟩

set_option maxHeartbeats 400000 in
theorem bytes_any (a0 a1 : Option Addr) (l0 c0 l1 c1 : Nat) (x y z : Int) (w : World) (h0 : l0 ≤ 9223372036854775807) (h1 : l1 ≤ 9223372036854775807) :
    Calls Try.prog 28 #[.slice a0 l0 c0, .slice a1 l1 c1, .int .i64 x, .int .i64 y, .int .i64 z] w fun e w' => (∃ b, e = .returned (.bool b)) ∧ w = w' := by
  go_enter Try.func28, Try.ntmps28
  go_wp2
  all_goals (go_ret; exact ⟨⟨_, rfl⟩, rfl⟩)

set_option maxRecDepth 100000 in
set_option maxHeartbeats 800000 in
theorem out (a0 a1 : Option Addr) (l0 c0 l1 c1 : Nat) (m x t : Int) (w : World) (h0 : l0 ≤ 9223372036854775807) (h1 : l1 ≤ 9223372036854775807) (hh : 4096 < l0 ∨ 4096 < l1 ∨ m < 1 ∨ 256 < m ∨ t < 1 ∨ m < t) :
    Calls Try.prog 9 #[.slice a0 l0 c0, .slice a1 l1 c1, .int .i64 m, .int .i64 x, .int .i64 t] w fun e w' => e = .returned (.bool true) ∧ Below w.heap.size w w' := by
  obtain h | h | h | h | h | h : 4096 < l0 ∨ (l0 ≤ 4096 ∧ 4096 < l1) ∨ (l0 ≤ 4096 ∧ l1 ≤ 4096 ∧ m < 1) ∨ (l0 ≤ 4096 ∧ l1 ≤ 4096 ∧ 256 < m) ∨ (l0 ≤ 4096 ∧ l1 ≤ 4096 ∧ 1 ≤ m ∧ m ≤ 256 ∧ t < 1) ∨ (l0 ≤ 4096 ∧ l1 ≤ 4096 ∧ 1 ≤ m ∧ m ≤ 256 ∧ 1 ≤ t ∧ m < t) := by omega
  all_goals
    clear hh
    go_enter Try.func9, Try.ntmps9
    go_wp2_with (go_at_call 28; refine (bytes_any _ _ _ _ _ _ _ _ _ _ h0 h1).mono ?_; rintro e w' ⟨⟨bb, rfl⟩, rfl⟩; cases bb)
    all_goals (go_ret; exact ⟨rfl, Below.refl _ _⟩)

set_option maxRecDepth 100000 in
set_option maxHeartbeats 3200000 in
theorem inside (a0 a1 : Option Addr) (l0 c0 l1 c1 mo tt : Nat) (x : Int) (w : World) (o s' : Nat → Int) (hr0 : Rd w a0 l0 (I o)) (hr1 : Rd w a1 l1 (I s')) (h0 : l0 ≤ 4096) (h1 : l1 ≤ 4096) (hm1 : 1 ≤ mo) (hm : mo ≤ 256) (ht1 : 1 ≤ tt) (ht : tt ≤ mo) :
    Calls Try.prog 9 #[.slice a0 l0 c0, .slice a1 l1 c1, .int .i64 mo, .int .i64 x, .int .i64 tt] w fun e w' => e = .returned (.bool true) ∧ Below w.heap.size w w' := by
  obtain ⟨i3, hi, hz0, hz1, hz2⟩ := info_parts info3
  go_enter Try.func9, Try.ntmps9
  go_wp2_with (first | (go_at_call 28; refine (bytes_ok _ _ _ _ _ _ _ _ _ _ h0 h1).mono ?_; rintro e w' ⟨rfl, rfl⟩) | (go_at_call 24; refine (input_any _ _ _ _ _ _ _ s' _ hr1 h0 h1 (by omega) (by omega)).mono ?_; rintro e w' ⟨bb, rfl, hok, rfl⟩; cases bb))
  · go_ret
    exact ⟨rfl, Below.refl _ _⟩
  obtain ⟨hle, hfit⟩ := hok trivial
  subst hle
  clear hok
  obtain ⟨f1, f2, f3⟩ := fit_nat hfit
  refine (clone_any _ _ _ o _ hr0 (by omega)).mono ?_
  rintro e w1 ⟨a2, c2, rfl, hr2, hb1⟩
  obtain ⟨s, hs⟩ : ∃ s : Nat → Nat, s = fun i => (s' i).toNat := ⟨_, rfl⟩
  have HF : Hid ((∀ i, i < l0 → s' i = (s i : Int)) ∧ (∀ i, i < l0 → 1 ≤ s i) ∧ (∀ i, i < l0 → s i ≤ mo)) := by subst hs; exact ⟨f1, f2, f3⟩
  clear f1 f2 f3 hfit hs
  go_wp2_with fail
  refine (clone_any _ _ _ s' _ (hr1.below hb1 (Nat.le_refl _)) (by omega)).mono ?_
  rintro e w2 ⟨a3, c3, rfl, hr3, hb2⟩
  have R1 : Rd w2 a3 l0 (N s) := hr3.congr (fun j hj => congrArg (Value.int .i64) (HF.out.1 j hj))
  have R0 := hr2.below hb2 (Nat.le_refl _)
  have hB := bt hb1 hb2
  clear hr0 hr1 hr2 hr3 hb1 hb2
  go_wp2_with (at_make; refine wpList_make_full _ rfl _ _ 41 rfl w2.heap.size 3 i3 (.int .i64 0) 1 Try.underlying41 hi hz0 hz1 _ _ _ _ (l0 + 1) rfl rfl (by omega) (by omega) (by rw [hz2]; omega) (by unfold maxLen; omega) (Nat.le_refl _) ?_)
  intro w3 hown hgrow
  have hH3 := made_heap hown
  have hB3 : Below w2.heap.size w2 w3 := (Below.refl _ _).grown hgrow (Nat.le_refl _) (by intro k hk; cases hk)
  obtain ⟨w4, hcp, hM4, hB4⟩ := copy_made (P := Try.prog) (cap := c2) Try.underlying41 size3 hH3 (Nat.le_succ l0) (R0.below hB3 (Nat.le_refl _)) (fun _ => rfl) hB3 (Nat.le_refl _)
  clear hown hgrow hH3 hB3
  obtain ⟨hd, hf⟩ := hM4.2 l0 (by omega)
  have hS4 := hM4.store l0 (by omega) (.int .i64 x)
  have hBs := hB4.setCell (p := ⟨w2.heap.size, l0, none⟩) (Nat.le_refl _) (.int .i64 x)
  have hsz4 := hM4.1
  clear hM4 hB4
  go_wp2_with (at_make; refine wpList_make_full _ rfl _ _ 41 rfl w2.heap.size 3 i3 (.int .i64 0) 1 Try.underlying41 hi hz0 hz1 _ _ _ _ (l0 + 1) rfl rfl (by omega) (by omega) (by rw [hz2]; omega) (by unfold maxLen; omega) (hBs.size) ?_)
  intro w5 hown hgrow
  have hH5 := made_heap hown
  have hB5 : Below w4.heap.size (w4.setCell ⟨w2.heap.size, l0, none⟩ (.int .i64 x)) w5 := (Below.refl _ _).grown hgrow (by simp) (by intro k hk; cases hk)
  have hB25 : Below w2.heap.size w2 w5 := hBs.trans (hB5.mono (by omega))
  have hM5 := hS4.below hB5 hsz4
  obtain ⟨w6, hcp2, hM6, hB6⟩ := copy_made (P := Try.prog) (cap := c3) Try.underlying41 size3 hH5 (Nat.le_succ l0) (R1.below hB25 (Nat.le_refl _)) (fun _ => rfl) (Below.refl w4.heap.size w5) (Nat.le_refl _)
  have hM5' := hM5.below hB6 hsz4
  have hB26 : Below w2.heap.size w2 w6 := hB25.trans (hB6.mono (by omega))
  clear hown hgrow hH5 hB5 hB25 hS4 hBs hM5 hcp hd hf hB6
  obtain ⟨hd, hf⟩ := hM6.2 l0 (by omega)
  have hS6 := hM6.store l0 (by omega) (.int .i64 tt)
  have hT6 := hM5'.other ⟨w4.heap.size, l0, none⟩ (by simp; omega) (.int .i64 tt)
  have hB27 := hB26.setCell (p := ⟨w4.heap.size, l0, none⟩) (by simp; omega) (.int .i64 tt)
  clear hM6 hM5' hB26
  go_wp2_with fail
  have Q0 := R0.below hB27 (Nat.le_refl _)
  have Q1 := R1.below hB27 (Nat.le_refl _)
  have P0 : Rd _ _ (l0 + 1) (I (snoc o l0 x)) := hT6.rd.congr (fun j hj => by by_cases e : j = l0; simp [e, snoc]; simp [e, snoc, show j < l0 by omega])
  have P1 : Rd _ _ (l0 + 1) (N (snoc s l0 tt)) := hS6.rd.congr (fun j hj => by by_cases e : j = l0; simp [e, snoc]; simp [e, snoc, show j < l0 by omega])
  have hB0 := hB.trans (hB27.mono hB.size)
  clear hT6 hS6 hcp2 hd hf hB27 R0 R1 hB
  refine (zzNew _ _ _ _ _ mo _ rfl s o _ Q0 Q1 (by omega) (by omega) HF.out.2.1 HF.out.2.2).mono ?_
  rintro e w7 ⟨g1, g2, rfl, m1, m2, hb7⟩
  have P0' := P0.below hb7 (Nat.le_refl _)
  have P1' := P1.below hb7 (Nat.le_refl _)
  have hB1 := bt hB0 hb7
  clear P0 P1 Q0 Q1 hb7 hB0
  go_wp2_with fail
  have HT : Hid ((∀ i, i < l0 + 1 → 1 ≤ snoc s l0 tt i) ∧ (∀ i, i < l0 + 1 → snoc s l0 tt i ≤ mo)) :=
    ⟨fun i hi => by unfold snoc; split; exact HF.out.2.1 i ‹_›; exact ht1, fun i hi => by unfold snoc; split; exact HF.out.2.2 i ‹_›; exact ht⟩
  refine (zzNew _ _ _ _ _ mo _ rfl (snoc s l0 tt) (snoc o l0 x) _ P0' P1' (by omega) (by omega) HT.out.1 HT.out.2).mono ?_
  rintro e w8 ⟨g3, g4, rfl, m3, m4, hb8⟩
  have M1 := m1.below hb8 m1.1
  have M2 := m2.below hb8 m2.1
  have hB2 := bt hB1 hb8
  clear P0' P1' hb8 m1 m2 hB1
  go_wp2_with fail
  refine (shape_any _ _ _ mo _ _ rfl rfl s _ M2 (by omega) HF.out.2.1 HF.out.2.2).mono ?_
  rintro e w9 ⟨rfl, q, rfl⟩
  go_wp2_with fail
  refine (shape_any _ _ (l0 + 1) mo _ _ (by omega) rfl (snoc s l0 tt) _ (m4.drewN q) (by omega) HT.out.1 HT.out.2).mono ?_
  rintro e w9 ⟨rfl, q2, rfl⟩
  have HX : Hid (_ ∧ _ ∧ _) := srt_snoc_full s o l0 tt x ht1 HF.out.2.1
  go_wp2
  go_loopw [17] (fun i wq => ∃ k : Nat, k ≤ mo + 1 ∧ i = .int .i64 k ∧ ∃ q, wq = w8.drewN q) (fun i _ => mo + 1 - (intOf i).toNat)
  case atStart => exact ⟨0, Nat.zero_le _, rfl, _, rfl⟩
  case round =>
    obtain ⟨k, hk, rfl, q, rfl⟩ := hrel
    by_cases hlt : k < mo + 1
    · have e2 := (M2.2 k hlt).1
      have e4 := (m4.2 k hlt).1
      simp only [N] at e2 e4
      rw [cle_snoc] at e4
      have hA := cle_le s l0 k
      generalize cle s l0 k = A at e2 e4 hA
      by_cases htk : tt ≤ k
      · rw [if_pos htk] at e4
        go_wp2
        go_roundw
        case rel => exact ⟨k + 1, by omega, by go_num, q, rfl⟩
        case measure => simp [intOf]; omega
      · rw [if_neg htk] at e4
        go_wp2
        go_roundw
        case rel => exact ⟨k + 1, by omega, by go_num, q, rfl⟩
        case measure => simp [intOf]; omega
    · have e2 := (M2.2 tt (by omega)).1
      simp only [N] at e2
      have hA := cle_le s l0 tt
      generalize cle s l0 tt = A at e2 hA HX
      go_wp2
      go_loopw [20] (fun i wq => ∃ k : Nat, k ≤ A ∧ i = .int .i64 k ∧ ∃ q, wq = w8.drewN q) (fun i _ => A - (intOf i).toNat)
      case atStart => exact ⟨0, Nat.zero_le _, rfl, _, rfl⟩
      case round =>
        obtain ⟨j, hj, rfl, q, rfl⟩ := hrel
        clear e2
        by_cases hlt2 : j < A
        · have e1 := (M1.2 j (by omega)).1
          have e3 := (m3.2 j (by omega)).1
          simp only [I] at e1 e3
          rw [HX.out.1 j hlt2] at e3
          generalize srt s o l0 l0 j = v at e1 e3
          go_wp2
          go_quiet (fail)
          go_wp2
          go_roundw
          case rel => exact ⟨j + 1, by omega, by go_num, _, rfl⟩
          case measure => simp [intOf]; omega
        · have hjA : j = A := by omega
          have e3 := (m3.2 A (by omega)).1
          simp only [I] at e3
          rw [HX.out.2.1] at e3
          go_wp2
          go_loopw [21] (fun i wq => ∃ k : Nat, A ≤ k ∧ k ≤ l0 ∧ i = .int .i64 k ∧ ∃ q, wq = w8.drewN q) (fun i _ => l0 - (intOf i).toNat)
          case atStart => exact ⟨A, Nat.le_refl _, hA, rfl, _, rfl⟩
          case round =>
            obtain ⟨i, hi1, hi2, rfl, q, rfl⟩ := hrel
            clear e3
            by_cases hlt3 : i < l0
            · have e1 := (M1.2 i (by omega)).1
              have e3 := (m3.2 (i + 1) (by omega)).1
              simp only [I] at e1 e3
              rw [HX.out.2.2 i hi1] at e3
              generalize srt s o l0 l0 i = v at e1 e3
              go_wp2
              go_quiet (fail)
              go_wp2
              go_roundw
              case rel => exact ⟨i + 1, by omega, by omega, by go_num, _, rfl⟩
              case measure => simp [intOf]; omega
            · go_wp2
              go_ret
              exact ⟨rfl, bdrewN hB2 _⟩
end Go.Proofs.Qxb6002656a.App
