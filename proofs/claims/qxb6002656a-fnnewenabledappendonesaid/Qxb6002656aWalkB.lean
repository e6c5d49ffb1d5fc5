import Derived.Test.Qxb6002656aWalkA
import Derived.Test.Qxb6002656aPlain
namespace Go.Proofs.Qxb6002656a.En
open Go.RowKit

/-- The value of an int cell that holds a natural number. -/
abbrev N (f : Nat → Nat) : Nat → Value := fun i => .int .i64 ((f i : Nat) : Int)

theorem ceq_le (s : Nat → Nat) (n t : Nat) : ceq s n t ≤ n := by
  induction n with
  | zero => exact Nat.le_refl _
  | succ n ih => simp only [ceq]; split <;> omega

def OutPost (n most : Nat) (s : Nat → Nat) (o : Nat → Int) (w : World) (e : Ending) (w' : World) : Prop :=
  ∃ g1 g2, e = .returned (.agg #[.slice (some ⟨g1, 0, none⟩) n n, .slice (some ⟨g2, 0, none⟩) ((most + 1 : Nat) : Nat) ((most + 1 : Nat) : Nat)]) ∧
    Mine w' g1 n (I (srt s o n n)) ∧ Mine w' g2 (most + 1) (N (cle s n)) ∧ Below w.heap.size w w'

theorem alloc_mine (w : World) (xs : List Value) (e : TypeId) (F : Nat → Value) (n : Nat) (hx : ∀ j, j < n → xs[j]? = some (F j)) : Mine (w.alloc (.cells xs.toArray e)) w.heap.size n F :=
  mine_of_heap (e := e) (by show (w.heap.push _)[w.heap.size]? = _; simp) hx

set_option maxHeartbeats 1000000 in
theorem newEn_any (a0 a1 : Option Addr) (n c0 c1 most : Nat) (s : Nat → Nat) (o : Nat → Int) (w : World) (hr0 : Rd w a0 n (I o)) (hr1 : Rd w a1 n (N s)) (hn : n ≤ 4097) (hm : most ≤ 257) (hs1 : ∀ i, i < n → 1 ≤ s i) (hs2 : ∀ i, i < n → s i ≤ most) :
    Calls Try.prog 32 #[.slice a0 n c0, .slice a1 n c1, .int .i64 most] w (OutPost n most s o w) := by
  obtain ⟨i3, hi, hz0, hz1, hz2⟩ := info_parts info3
  have hA : Mine (w.alloc (.cells #[.slice none 0 0, .slice none 0 0] 53)) w.heap.size 2 (fun _ => .slice none 0 0) := alloc_mine w [.slice none 0 0, .slice none 0 0] 53 _ 2 (fun j hj => by match j, hj with | 0, _ => rfl | 1, _ => rfl)
  have hBA : Below w.heap.size w (w.alloc (.cells #[.slice none 0 0, .slice none 0 0] 53)) := (Below.refl _ _).alloc (Nat.le_refl _) _
  have HS : Hid ((∀ i, i < n → 1 ≤ s i) ∧ (∀ i, i < n → s i ≤ most)) := ⟨hs1, hs2⟩
  clear hs1 hs2
  go_enter Try.func32, Try.ntmps32
  go_wp2_with (at_make; refine wpList_make_full _ rfl _ _ 41 rfl w.heap.size 3 i3 (.int .i64 0) 1 Try.underlying41 hi hz0 hz1 _ _ _ _ (most + 1) rfl rfl (by omega) (by omega) (by rw [hz2]; omega) (by unfold maxLen; omega) (by simp) ?_)
  intro w1 hown hgrow
  have hM1 := made hown
  have hB01 : Below (w.heap.size + 1) (w.alloc (.cells #[.slice none 0 0, .slice none 0 0] 53)) w1 := (Below.refl _ _).grown hgrow (by simp) (by intro k hk; cases hk)
  have hA1 := hA.below hB01 (by omega)
  have hB1 : Below w.heap.size w w1 := hBA.trans (hB01.mono (by omega))
  clear hown hgrow hA hBA hB01
  go_wp2
  go_loopw [20] (fun i wr => ∃ k : Nat, k ≤ n ∧ i = .int .i64 k ∧ Mine wr (w.heap.size + 1) (most + 1) (N (ceq s k)) ∧ Mine wr w.heap.size 2 (fun _ => .slice none 0 0) ∧ Below w.heap.size w wr) (fun i _ => n - (intOf i).toNat)
  case atStart => exact ⟨0, Nat.zero_le _, rfl, hM1.congr (fun j _ => rfl), hA1, hB1⟩
  case round =>
    obtain ⟨k, hk, rfl, hMr, hAr, hBr⟩ := hrel
    by_cases hlt : k < n
    · obtain ⟨b, off, hx, hb, hc⟩ := hr1.below hBr (Nat.le_refl _) k hlt
      cases hx
      have hsk : s k < most + 1 := by have := HS.out.2 k hlt; omega
      obtain ⟨hd, hf⟩ := hMr.2 (s k) hsk
      have hq := ceq_le s k (s k)
      have hS := hMr.store (s k) hsk (.int .i64 ((ceq s k (s k) : Nat) + 1))
      have hAs := hAr.other ⟨w.heap.size + 1, s k, none⟩ (by simp) (.int .i64 ((ceq s k (s k) : Nat) + 1))
      have hBs := hBr.setCell (p := ⟨w.heap.size + 1, s k, none⟩) (by simp) (.int .i64 ((ceq s k (s k) : Nat) + 1))
      clear hMr hAr hBr hM1 hA1 hB1
      go_wp2
      go_roundw
      case rel => exact ⟨k + 1, by omega, by go_num, hS.congr (fun j hj => by
          by_cases e : j = s k
          · subst e; simp [ceq]
          · simp [e, ceq, show ¬ s k = j from fun h => e h.symm]), hAs, hBs⟩
      case measure => simp [intOf]; omega
    · have hke : k = n := by omega
      subst hke
      clear hM1 hA1 hB1
      go_wp2
      go_loopw [10] (fun i wq => ∃ u : Nat, u ≤ most ∧ i = .int .i64 ((u : Int) + 1) ∧ Mine wq (w.heap.size + 1) (most + 1) (N (fun j => if j ≤ u then cle s k j else ceq s k j)) ∧ Mine wq w.heap.size 2 (fun _ => .slice none 0 0) ∧ Below w.heap.size w wq) (fun i _ => most + 1 - (intOf i).toNat)
      case atStart => exact ⟨0, Nat.zero_le _, rfl, hMr.congr (fun j _ => by
          by_cases e : j = 0
          · subst e; simp [ceq_zero]
          · simp [e]), hAr, hBr⟩
      case round =>
        obtain ⟨u, hu, rfl, hMq, hAq, hBq⟩ := hrel
        clear hMr hAr hBr
        by_cases hlt : u < most
        · have q1 := cle_le s k u
          have q2 := ceq_le s k (u + 1)
          obtain ⟨hd, hf⟩ := hMq.2 (u + 1) (by omega)
          have hd2 := (hMq.2 u (by omega)).1
          simp only [N, Nat.le_refl, if_true, show ¬ (u + 1 ≤ u) by omega, if_false] at hd hd2
          have hS := hMq.store (u + 1) (by omega) (.int .i64 ((ceq s k (u + 1) : Nat) + (cle s k u : Nat)))
          have hAs := hAq.other ⟨w.heap.size + 1, u + 1, none⟩ (by simp) (.int .i64 ((ceq s k (u + 1) : Nat) + (cle s k u : Nat)))
          have hBs := hBq.setCell (p := ⟨w.heap.size + 1, u + 1, none⟩) (by simp) (.int .i64 ((ceq s k (u + 1) : Nat) + (cle s k u : Nat)))
          clear hMq hAq hBq
          go_wp2
          go_region
          go_wp2
          go_roundw
          case rel => exact ⟨u + 1, by omega, by go_num, hS.congr (fun j hj => by
              by_cases e : j = u + 1
              · subst e; simp [cle_succ]; omega
              · by_cases e2 : j ≤ u
                · simp [e, e2, show j ≤ u + 1 by omega]
                · simp [e, e2, show ¬ j ≤ u + 1 by omega]), hAs, hBs.drew⟩
          case measure => simp [intOf]; omega
        · have hue : u = most := by omega
          subst hue
          have hM2 := hMq.congr (G := N (cle s k)) (fun j hj => by simp [show j ≤ u by omega])
          clear hMq
          go_wp2_with (at_builtin; refine wpList_append_own _ rfl _ _ 41 rfl wr.heap.size 3 i3 (.int .i64 0) 1 8 Try.underlying41 hi hz0 hz1 hz2 rfl (by decide) _ _ _ rfl (World.ownsRow_nil _ _ _ _) ⟨w.heap.size + 1, 0, none⟩ u (u + 1) ((List.range u).map (N (cle s k))) rfl (by simp) ?_ ?_ (by unfold maxLen; omega) (by omega) (Nat.le_refl _) ?_)
          · intro j x hj
            have hjn : j < u := by have := (List.getElem?_eq_some_iff.1 hj).1; simpa using this
            rw [Addr.add_lit, Nat.zero_add, (hM2.2 j (by omega)).1]
            simpa [hjn] using hj
          · intro x hx
            obtain ⟨j, _, rfl⟩ := List.mem_map.1 hx
            rfl
          intro v' w3 hown hgrow hnil
          clear hnil
          have hB3 : Below wr.heap.size wr w3 := (Below.refl _ _).grown hgrow (Nat.le_refl _) (by intro k hk; cases hk)
          obtain ⟨nx, nc, g, rfl, hgb, hnx, hR⟩ := own_row (F := N (cle s k)) (n := u) (by simpa using hown) (fun j hj => by simp [hj])
          have hA3 := hAq.below hB3 hAq.1
          have hM3 := hM2.below hB3 hM2.1
          have hBw : Below w.heap.size w w3 := hBq.trans (hB3.mono hBq.size)
          have hs1 := hM2.1
          have hs0 := hAq.1
          clear hown hgrow hAq hM2 hBq hB3
          go_wp2_with (at_make; refine wpList_make_full _ rfl _ _ 41 rfl w.heap.size 3 i3 (.int .i64 0) 1 Try.underlying41 hi hz0 hz1 _ _ _ _ k rfl rfl rfl rfl (by rw [hz2]; omega) (by unfold maxLen; omega) hBw.size ?_)
          intro w4 hown hgrow
          have hB4 : Below w3.heap.size w3 w4 := (Below.refl _ _).grown hgrow (Nat.le_refl _) (by intro k hk; cases hk)
          have hT4 := made hown
          have hA4 := hA3.below hB4 hA3.1
          have hM4 := hM3.below hB4 hM3.1
          have hR4 := hR.below hB4 (Nat.le_refl _)
          have hBw4 : Below w.heap.size w w4 := hBw.trans (hB4.mono hBw.size)
          have hgl : ∀ j, j < u → g < w3.heap.size := fun j hj => (hR j hj).1
          have hs3 : w.heap.size + 1 < w3.heap.size := hM3.1
          have HG : Hid (∀ j, j < u → g < w3.heap.size) := hgl
          clear hown hgrow hA3 hM3 hR hBw hB4 hgl
          go_wp2
          go_loopw [56] (fun i wq => ∃ m : Nat, m ≤ k ∧ i = .int .i64 m ∧ Row wq g u (N (fun j => cle s k j + ceq s m (j + 1))) ∧ Mine wq w3.heap.size k (I (srt s o k m)) ∧ Mine wq (w.heap.size + 1) (u + 1) (N (cle s k)) ∧ Mine wq w.heap.size 2 (fun _ => .slice none 0 0) ∧ Below w.heap.size w wq) (fun i _ => k - (intOf i).toNat)
          case atStart => exact ⟨0, Nat.zero_le _, rfl, hR4.congr (fun j _ => by simp [ceq]), hT4.congr (fun j _ => rfl), hM4, hA4, hBw4⟩
          case round =>
            obtain ⟨m, hm', rfl, hRr, hTr, hMr, hAr, hBr⟩ := hrel
            clear hR4 hT4 hM4 hA4 hBw4
            by_cases hlt : m < k
            · obtain ⟨b, off, hx, hb, hc⟩ := hr1.below hBr (Nat.le_refl _) m hlt
              cases hx
              obtain ⟨b', off', hx, hb', hc'⟩ := hr0.below hBr (Nat.le_refl _) m hlt
              cases hx
              have hsm1 := HS.out.1 m hlt
              have hsm2 := HS.out.2 m hlt
              obtain ⟨v, hv⟩ : ∃ v, s m = v + 1 := ⟨s m - 1, by omega⟩
              have hp := pos_lt_n s k m hlt hsm1
              have hvu : v < u := by omega
              have hpe : cle s k v + ceq s m (v + 1) = pos s k m := by unfold pos; rw [hv]; simp
              have hgl := HG.out v (by omega)
              have hxs := hnx (by omega)
              subst hxs
              simp only [N, hv] at hc
              obtain ⟨_, hd, hf⟩ := hRr v (by omega)
              simp only [N, hpe] at hd
              obtain ⟨hd2, hf2⟩ := hTr.2 (pos s k m) hp
              have hS1 := (hRr.other ⟨w3.heap.size, pos s k m, none⟩ (by simp; omega) (.int .i64 (o m))).store v (by omega) (.int .i64 ((pos s k m : Nat) + 1))
              have hS2 := (hTr.store (pos s k m) hp (.int .i64 (o m))).other ⟨g, v, none⟩ (by simp; omega) (.int .i64 ((pos s k m : Nat) + 1))
              have hS3 := (hMr.other ⟨w3.heap.size, pos s k m, none⟩ (by simp; omega) (.int .i64 (o m))).other ⟨g, v, none⟩ (by simp; omega) (.int .i64 ((pos s k m : Nat) + 1))
              have hS4 := (hAr.other ⟨w3.heap.size, pos s k m, none⟩ (by simp; omega) (.int .i64 (o m))).other ⟨g, v, none⟩ (by simp; omega) (.int .i64 ((pos s k m : Nat) + 1))
              have hS5 := (hBr.setCell (p := ⟨w3.heap.size, pos s k m, none⟩) (by simp; omega) (.int .i64 (o m))).setCell (p := ⟨g, v, none⟩) (by simp; omega) (.int .i64 ((pos s k m : Nat) + 1))
              have HP : Hid (cle s k v + ceq s m (v + 1) = pos s k m) := hpe
              have HV : Hid (s m = v + 1) := hv
              generalize hpg : pos s k m = p at *
              have HPG : Hid (pos s k m = p) := hpg
              clear hpg hpe hv hsm1 hsm2 hRr hTr hMr hAr hBr hnx
              go_wp2
              go_region
              go_wp2
              go_roundw
              case rel =>
                refine ⟨m + 1, by omega, by go_num, hS1.congr (fun j hj => ?_), hS2.congr (fun j hj => ?_), hS3, hS4, hS5.drew⟩
                · have hv := HV.out
                  have hpe := HP.out
                  by_cases e : j = v
                  · subst e; simp [ceq, hv]; omega
                  · simp [e, ceq, hv, show ¬ v = j from fun h => e h.symm]
                · have hpg := HPG.out
                  simp only [I, srt, hpg]
                  by_cases e : j = p
                  · simp [e]
                  · simp [e]
              case measure => simp [intOf]; omega
            · have hme : m = k := by omega
              subst hme
              obtain ⟨hc0, hf0⟩ := hAr.2 0 (by omega)
              obtain ⟨hc1, hf1⟩ := hAr.2 1 (by omega)
              have z0 := (hAr.store 0 (by omega) (.slice (some ⟨w3.heap.size, 0, none⟩) m m)).store 1 (by omega) (.slice (some ⟨w.heap.size + 1, 0, none⟩) (u + 1) (u + 1))
              have z1 := (hTr.other ⟨w.heap.size, 0, none⟩ (by simp; omega) (.slice (some ⟨w3.heap.size, 0, none⟩) m m)).other ⟨w.heap.size, 1, none⟩ (by simp; omega) (.slice (some ⟨w.heap.size + 1, 0, none⟩) (u + 1) (u + 1))
              have z2 := (hMr.other ⟨w.heap.size, 0, none⟩ (by simp) (.slice (some ⟨w3.heap.size, 0, none⟩) m m)).other ⟨w.heap.size, 1, none⟩ (by simp) (.slice (some ⟨w.heap.size + 1, 0, none⟩) (u + 1) (u + 1))
              have z3 := (hBr.setCell (p := ⟨w.heap.size, 0, none⟩) (by simp) (.slice (some ⟨w3.heap.size, 0, none⟩) m m)).setCell (p := ⟨w.heap.size, 1, none⟩) (by simp) (.slice (some ⟨w.heap.size + 1, 0, none⟩) (u + 1) (u + 1))
              have r0 := (z0.2 0 (by omega)).1
              have r1 := (z0.2 1 (by omega)).1
              simp only [if_true, show ¬ ((0 : Nat) = 1) by omega, if_false] at r0 r1
              clear z0 hAr hTr hMr hBr
              go_wp2
              refine bodyPost_ret (v := .agg #[.slice (some ⟨w3.heap.size, 0, none⟩) m m, .slice (some ⟨w.heap.size + 1, 0, none⟩) (u + 1) (u + 1)]) (by simp [results, Try.results32, go_sem, r0, r1]) rfl ⟨_, _, rfl, z1, z2, z3⟩
end Go.Proofs.Qxb6002656a.En
