import Derived.Test.Qxb6002656aArE
namespace Go.Proofs.Qxb6002656a.Ar
open Go.RowKit En

/-- The value of an int cell that holds a natural number. -/
abbrev Nv (f : Nat → Nat) : Nat → Value := fun i => .int .i64 ((f i : Nat) : Int)

theorem Apart.grid {B p : Nat} {w w' : World} {a : Option Addr} {n : Nat} {A : Nat → Option Addr} {L C : Nat → Nat} {F : Nat → Nat → Int} (h : Apart B p w w') (g : Grid w a n A L C F) (hp : p ≤ B)
    (ha : 0 < n → ∀ y, a = some y → y.block < p) (hA : ∀ r, r < n → ∀ y, A r = some y → y.block < p) : Grid w' a n A L C F := by
  refine ⟨fun i hi => h.rd g.1 hp (ha (by omega)) i hi, fun r hr => ⟨(g.2 r hr).1, h.rd (g.2 r hr).2 hp (hA r hr)⟩⟩

theorem Ars.other {w : World} {B p : Nat} {s : AS} (h : Ars w B p s) (q : Addr) (h1 : q.block < B) (h2 : q.block ≠ p) (v : Value) : Ars (w.setCell q v) B p s := by
  have e : ∀ b, b ≠ q.block → (w.setCell q v).heap[b]? = w.heap[b]? := fun b hb => Below.heap_setCell _ _ _ _ hb
  rcases h with ⟨h0, c1, c2⟩ | ⟨m, T, tc, G, Cp, hnc, hC, c1, c2, c3, ⟨xs, c4⟩, c5⟩
  · exact .inl ⟨h0, by rw [World.cell?_of_block (w := w) (a := ⟨p, 0, none⟩) (e p (Ne.symm h2))]; exact c1, by rw [World.frozen?_of_block (w := w) (a := ⟨p, 0, none⟩) (e p (Ne.symm h2))]; exact c2⟩
  · refine .inr ⟨m, T, tc, G, Cp, hnc, hC, ?_, ?_, own_same c3 (e _ ?_), ⟨xs, own_same c4 (e _ ?_)⟩, c5⟩
    · rw [World.cell?_of_block (w := w) (a := ⟨p, 0, none⟩) (e p (Ne.symm h2))]; exact c1
    · rw [World.frozen?_of_block (w := w) (a := ⟨p, 0, none⟩) (e p (Ne.symm h2))]; exact c2
    · have := (own_base c3).1; omega
    · have := (own_base c4).1; omega

def LPost (w : World) (e : Ending) (w' : World) : Prop := e = .returned (.bool true) ∧ Below w.heap.size w w'

set_option maxRecDepth 100000 in
set_option maxHeartbeats 3200000 in
theorem law_any (a : Option Addr) (n c : Nat) (A : Nat → Option Addr) (L C : Nat → Nat) (F : Nat → Nat → Int) (w : World) (hG : Grid w a n A L C F) (hn : n ≤ 9223372036854775807) (hL : ∀ r, r < n → L r ≤ 9223372036854775807) :
    Calls Try.prog 7 #[.slice a n c] w (LPost w) := by
  obtain ⟨i3, hi, hz0, hz1, hz2⟩ := info_parts info3
  have HL0 : Hid (∀ r, r < n → L r ≤ 9223372036854775807) := hL
  clear hL
  go_enter Try.func7, Try.ntmps7
  go_wp2_with (first | (go_at_call 22; refine (bytes_any _ _ _ A L C _ hG.1 hn HL0.out).mono ?_; rintro e w' ⟨⟨bb, rfl⟩, rfl⟩; cases bb) | (go_at_call 18; refine (fits_any _ _ _ A L C _ hG.1 hn HL0.out).mono ?_; rintro e w' ⟨bb, rfl, hok, rfl⟩; cases bb))
  · go_ret
    exact ⟨rfl, Below.refl _ _⟩
  · go_ret
    exact ⟨rfl, Below.refl _ _⟩
  obtain ⟨hn4, htot⟩ := hok trivial
  have HL : Hid (∀ r, r < n → L r ≤ 131072) := fun r hr => by have := le_tot L r n hr; omega
  have HTo : Hid (tot L n + 3 * n ≤ 131072) := htot
  clear hok HL0 htot hn
  refine (clones_any _ _ _ A L C F _ hG hn4 HL.out).mono ?_
  rintro e w1 ⟨a1, c1, A1, C1, rfl, hG1, hA1, hb1⟩
  clear hG
  have ha1 : 0 < n → ∀ y, a1 = some y → y.block < w1.heap.size := fun h0 y hy => by
    obtain ⟨b, off, e1, e2, _⟩ := hG1.1 0 h0
    rw [hy] at e1; cases e1; exact e2
  have HA : Hid ((0 < n → ∀ y, a1 = some y → y.block < w1.heap.size) ∧ ∀ r, r < n → ∀ y, A1 r = some y → y.block < w1.heap.size) := ⟨ha1, hA1⟩
  clear ha1 hA1
  have hAr : Mine (w1.alloc (.cells #[.slice none 0 0] 35)) w1.heap.size 1 (fun _ => .slice none 0 0) := mine_of_heap (xs := [.slice none 0 0]) (e := 35) (heap_alloc_at w1 _) (fun j hj => by match j, hj with | 0, _ => rfl)
  have hB1 : Below w1.heap.size w1 (w1.alloc (.cells #[.slice none 0 0] 35)) := (Below.refl _ _).alloc (Nat.le_refl _) _
  go_wp2_with (at_make; refine wpList_make_full _ rfl _ _ 41 rfl w.heap.size 3 i3 (.int .i64 0) 1 Try.underlying41 hi hz0 hz1 _ _ _ _ n rfl rfl rfl rfl (by rw [hz2]; omega) (by unfold maxLen; omega) (by have := hb1.size; simp; omega) ?_)
  intro w2 hown hgrow
  have hM2 := made hown
  have hB2 : Below (w1.heap.size + 1) (w1.alloc (.cells #[.slice none 0 0] 35)) w2 := (Below.refl _ _).grown hgrow (by simp) (by intro k hk; cases hk)
  have hAr2 := hAr.below hB2 (by omega)
  have hB12 : Below w1.heap.size w1 w2 := hB1.trans (hB2.mono (by omega))
  clear hown hgrow hAr hB1 hB2
  go_wp2_with (at_make; refine wpList_make_full _ rfl _ _ 41 rfl w.heap.size 3 i3 (.int .i64 0) 1 Try.underlying41 hi hz0 hz1 _ _ _ _ n rfl rfl rfl rfl (by rw [hz2]; omega) (by unfold maxLen; omega) (by have := hb1.size; have := hB12.size; omega) ?_)
  intro w3 hown hgrow
  have hM3 := made hown
  have hB3 : Below w2.heap.size w2 w3 := (Below.refl _ _).grown hgrow (Nat.le_refl _) (by intro k hk; cases hk)
  have hC3 := hM2.below hB3 hM2.1
  have hAr3 := hAr2.below hB3 hAr2.1
  have hB13 : Below w1.heap.size w1 w3 := hB12.trans (hB3.mono hB12.size)
  have q1 := hM2.1
  have q2 := hM3.1
  have hG3 := hG1.below hB13 (Nat.le_refl _)
  have hw3 := bt hb1 hB13
  have HS0 : Ars w3 w3.heap.size w1.heap.size (st L 0) := .inl ⟨rfl, (hAr3.2 0 (by omega)).1, (hAr3.2 0 (by omega)).2⟩
  have q3 : w.heap.size ≤ w1.heap.size := hb1.size
  clear hown hgrow hM2 hAr2 hB12 hB3 hAr3 hB13 hG1 hb1
  go_wp2
  go_loopw [6] (fun i wr => ∃ k : Nat, k ≤ n ∧ i = .int .i64 k ∧ Mine wr (w1.heap.size + 1) n (Nv (fun j => if j < k then ch L j else 0)) ∧ Mine wr w2.heap.size n (Nv (fun j => if j < k then pl L j else 0)) ∧ Ars wr w3.heap.size w1.heap.size (st L k) ∧ Grid wr a1 n A1 L C1 F ∧ Below w.heap.size w wr ∧ w3.heap.size ≤ wr.heap.size) (fun i _ => n - (intOf i).toNat)
  case atStart => exact ⟨0, Nat.zero_le _, rfl, hC3.congr (fun j _ => by simp [Nv]), hM3.congr (fun j _ => by simp [Nv]), HS0, hG3, hw3, Nat.le_refl _⟩
  case round =>
    obtain ⟨k, hk, rfl, hCr, hPr, hSr, hGr, hwr, hzr⟩ := hrel
    clear hC3 hM3 HS0 hG3 hw3
    by_cases hlt : k < n
    · obtain ⟨b, off, hx, hb, hc⟩ := hGr.1 k hlt
      cases hx
      simp only [S] at hc
      have hiv := inv L k (fun j hj => HL.out j (by omega))
      have hLk := HL.out k hlt
      have HZ : Hid (Calls Try.prog 20 #[.pointer (some ⟨w1.heap.size, 0, none⟩), .slice (A1 k) (L k) (C1 k)] wr (ZPost w3.heap.size w1.heap.size (st L k) (L k) wr)) :=
        zkeep_any w3.heap.size w1.heap.size (st L k) (A1 k) (L k) (C1 k) (F k) wr hSr (by omega) hzr (hGr.2 k hlt).2 (hGr.2 k hlt).1 (by omega) hiv.2.2.1 hiv.2.2.2.2.1 hLk (HA.out.2 k hlt)
      clear hiv hSr
      go_wp2_with fail
      refine HZ.out.mono ?_
      rintro e w4 ⟨rfl, hS4, hap⟩
      have hC4 := hap.mine hCr (by omega) (by omega)
      have hP4 := hap.mine hPr (by omega) (by omega)
      have hxb : chk (st L k) (L k) ≤ 4096 := by have := ch_le L k; unfold ch at this; omega
      have hyb : att (st L k) (L k) ≤ 131072 := pl_le L k (fun j hj => HL.out j (by omega))
      obtain ⟨d1, f1⟩ := hC4.2 k hlt
      obtain ⟨d2, f2⟩ := hP4.2 k hlt
      simp only [Nv, Nat.lt_irrefl, if_false] at d1 d2
      have sC := (hC4.store k hlt (.int .i64 ((chk (st L k) (L k) : Nat) : Int))).other ⟨w2.heap.size, k, none⟩ (by simp; omega) (.int .i64 ((att (st L k) (L k) : Nat) : Int))
      have sP := (hP4.other ⟨w1.heap.size + 1, k, none⟩ (by simp; omega) (.int .i64 ((chk (st L k) (L k) : Nat) : Int))).store k hlt (.int .i64 ((att (st L k) (L k) : Nat) : Int))
      have sS := (hS4.other ⟨w1.heap.size + 1, k, none⟩ (by simp; omega) (by simp) (.int .i64 ((chk (st L k) (L k) : Nat) : Int))).other ⟨w2.heap.size, k, none⟩ (by simp; omega) (by simp; omega) (.int .i64 ((att (st L k) (L k) : Nat) : Int))
      have hbw : Below w1.heap.size wr ((w4.setCell ⟨w1.heap.size + 1, k, none⟩ (.int .i64 ((chk (st L k) (L k) : Nat) : Int))).setCell ⟨w2.heap.size, k, none⟩ (.int .i64 ((att (st L k) (L k) : Nat) : Int))) :=
        ((hap.below (Nat.le_refl _) (by omega)).setCell (p := ⟨w1.heap.size + 1, k, none⟩) (by simp) _).setCell (p := ⟨w2.heap.size, k, none⟩) (by simp; omega) _
      have sG := (Apart.of_below (p := w1.heap.size) hbw).grid hGr (Nat.le_refl _) HA.out.1 HA.out.2
      have sW := hwr.trans (hbw.mono q3)
      have sZ := Nat.le_trans hzr hbw.size
      have HS1 : Hid _ := sS
      have HX : Hid (ch L k = chk (st L k) (L k) ∧ pl L k = att (st L k) (L k)) := ⟨rfl, rfl⟩
      clear hS4 hap hC4 hP4 hGr hwr hzr hCr hPr hbw sS HZ
      generalize chk (st L k) (L k) = x at *
      generalize att (st L k) (L k) = y at *
      go_wp2
      go_roundw
      case rel =>
        refine ⟨k + 1, by omega, by go_num, sC.congr (fun j hj => ?_), sP.congr (fun j hj => ?_), HS1.out, sG, sW, sZ⟩
        · by_cases e : j = k
          · subst e; simp [Nv, HX.out.1]
          · by_cases e2 : j < k
            · simp [Nv, e, e2, show j < k + 1 by omega]
            · simp [Nv, e, e2, show ¬ j < k + 1 by omega]
        · by_cases e : j = k
          · subst e; simp [Nv, HX.out.2]
          · by_cases e2 : j < k
            · simp [Nv, e, e2, show j < k + 1 by omega]
            · simp [Nv, e, e2, show ¬ j < k + 1 by omega]
      case measure => simp [intOf]; omega
    · have hke : k = n := by omega
      subst hke
      have hC5 := hCr.congr (G := Nv (ch L)) (fun j hj => by simp [Nv, hj])
      have hP5 := hPr.congr (G := Nv (pl L)) (fun j hj => by simp [Nv, hj])
      clear hCr hPr
      rcases Nat.eq_zero_or_pos k with h0 | h0
      · subst h0
        rcases hSr with ⟨_, c1, _⟩ | ⟨m, T, tc, G, Cp, hnc, _⟩
        · go_wp2
          go_ret
          exact ⟨rfl, hwr⟩
        · exact absurd hnc (by simp [st])
      · obtain ⟨n', rfl⟩ : ∃ n', k = n' + 1 := ⟨k - 1, by omega⟩
        rcases hSr with ⟨h', _⟩ | ⟨m, T, tc, G, Cp, hnc, hcp, c1, _, c3, _⟩
        · rw [st_nc] at h'; omega
        rw [st_nc] at hnc
        obtain rfl : m = ch L n' := by omega
        have hTb := own_base c3
        have hTc : ∀ j, j < ch L n' + 1 → wr.cell? ⟨T, j, none⟩ = some (.slice (some ⟨G j, 0, none⟩) ((st L (n' + 1)).E j) (Cp j)) := fun j hj => by rw [c3.cellAt j (by omega)]; simp [S, hj]
        have HTc : Hid (∀ j, j < ch L n' + 1 → wr.cell? ⟨T, j, none⟩ = some (.slice (some ⟨G j, 0, none⟩) ((st L (n' + 1)).E j) (Cp j))) := hTc
        have z0 := (hC5.2 0 (by omega)).1
        have z1 := (hP5.2 0 (by omega)).1
        simp only [Nv, (ch_zero L).1, (ch_zero L).2, Int.natCast_zero] at z0 z1
        obtain ⟨b0, off0, hx0, hb0, hw0⟩ := hGr.1 0 (by omega)
        cases hx0
        simp only [S, Nat.add_zero] at hw0
        have HG5 : Hid (Grid wr (some ⟨b0, off0, none⟩) (n' + 1) A1 L C1 F) := hGr
        have HC5 : Hid (Mine wr (w1.heap.size + 1) (n' + 1) (Nv (ch L))) := hC5
        have HP5 : Hid (Mine wr w2.heap.size (n' + 1) (Nv (pl L))) := hP5
        clear hTc c3 hGr hC5 hP5
        obtain ⟨w4, hw4⟩ : ∃ w4, w4 = wr := ⟨_, rfl⟩
        subst hw4
        have HT4 : Hid (∀ j, j ≤ n' → tot L (j + 1) ≤ 131072) := fun j hj => by have := tot_mono L (j + 1) (n' + 1) (by omega); have := HTo.out; omega
        go_wp2
        go_loopw [10, 11] (fun sf i wq => ∃ j : Nat, j ≤ n' ∧ i = .int .i64 ((j : Int) + 1) ∧ sf = .int .i64 ((tot L (j + 1) : Nat) : Int) ∧ ∃ q, wq = w4.drewN q) (fun _ i _ => n' + 1 - (intOf i).toNat)
        case atStart => exact ⟨0, Nat.zero_le _, rfl, by simp [tot], 0, rfl⟩
        case round =>
          obtain ⟨j, hj, rfl, rfl, q, rfl⟩ := hrel
          clear z0 z1 hw0
          by_cases hlt2 : j < n'
          · have e1 := (HC5.out.2 (j + 1) (by omega)).1
            have e2 := (HC5.out.2 j (by omega)).1
            have e3 := (HP5.out.2 (j + 1) (by omega)).1
            have e4 := (HP5.out.2 j (by omega)).1
            obtain ⟨b', off', hx', _, s1⟩ := HG5.out.1 (j + 1) (by omega)
            cases hx'
            obtain ⟨b', off', hx', _, s2⟩ := HG5.out.1 j (by omega)
            cases hx'
            simp only [Nv, S] at e1 e2 e3 e4 s1 s2
            have bx := ch_le L j
            have by' := pl_le L j (fun i hi => HL.out i (by omega))
            have bl := HL.out j (by omega)
            have bt1 := HT4.out j (by omega)
            have bt2 := HT4.out (j + 1) (by omega)
            have hsm := ch_small L (j + 1) (fun i hi => HL.out i (by omega))
            have etot : tot L (j + 1 + 1) = tot L (j + 1) + L (j + 1) := rfl
            rw [etot] at bt2 hsm
            have HE : Hid (tot L (j + 1 + 1) = tot L (j + 1) + L (j + 1)) := etot
            clear etot
            cases hf : fits (st L (j + 1)) (L (j + 1)) with
            | true =>
              obtain ⟨r1, r2⟩ := step_fits L j hf
              rw [r1] at e1 hsm
              rw [r2, Int.natCast_add] at e3
              clear r1 r2 hf
              generalize ch L j = x at *
              generalize pl L j = y at *
              generalize L j = l0 at *
              generalize L (j + 1) = l1 at *
              generalize tot L (j + 1) = t at *
              have g1 : ((x : Int) == (x : Int) + 1) = false := by rw [beq_eq_false_iff_ne]; omega
              have Hsm : Hid (t + l1 ≤ 256 → x = 0) := hsm
              clear hsm
              rcases Nat.lt_or_ge 256 (t + l1) with ht | ht
              · rcases Nat.eq_zero_or_pos l1 with hl | hl
                · subst hl
                  go_wp2
                  go_quiet (fail)
                  go_wp2
                  go_quiet (fail)
                  go_wp2
                  go_quiet (fail)
                  go_wp2
                  go_roundw
                  case rel => exact ⟨j + 1, by omega, by go_num, by rw [HE.out]; go_num, _, rfl⟩
                  case measure => simp [intOf]; omega
                · have g2 : ((l1 : Int) == 0) = false := by rw [beq_eq_false_iff_ne]; omega
                  go_wp2
                  go_quiet (fail)
                  go_wp2
                  go_quiet (fail)
                  go_wp2
                  go_quiet (fail)
                  go_wp2
                  go_roundw
                  case rel => exact ⟨j + 1, by omega, by go_num, by rw [HE.out]; go_num, _, rfl⟩
                  case measure => simp [intOf]; omega
              · have hx0 := Hsm.out ht
                subst hx0
                rcases Nat.eq_zero_or_pos l1 with hl | hl
                · subst hl
                  go_wp2
                  go_quiet (fail)
                  go_wp2
                  go_quiet (fail)
                  go_wp2
                  go_quiet (fail)
                  go_wp2
                  go_roundw
                  case rel => exact ⟨j + 1, by omega, by go_num, by rw [HE.out]; go_num, _, rfl⟩
                  case measure => simp [intOf]; omega
                · have g2 : ((l1 : Int) == 0) = false := by rw [beq_eq_false_iff_ne]; omega
                  go_wp2
                  go_quiet (fail)
                  go_wp2
                  go_quiet (fail)
                  go_wp2
                  go_quiet (fail)
                  go_wp2
                  go_roundw
                  case rel => exact ⟨j + 1, by omega, by go_num, by rw [HE.out]; go_num, _, rfl⟩
                  case measure => simp [intOf]; omega
            | false =>
              obtain ⟨r1, r2⟩ := step_new L j hf
              have r3 := step_new_pos L j (fun i hi => HL.out i (by omega)) hf
              rw [r1] at e1 hsm
              rw [r2] at e3
              rw [Int.natCast_add] at e1
              simp only [Int.natCast_zero, Int.natCast_one] at e1 e3
              have r4 : 256 < tot L (j + 1) + L (j + 1) := by
                rcases Nat.lt_or_ge 256 (tot L (j + 1) + L (j + 1)) with h | h
                · exact h
                · have := hsm h; omega
              clear r1 r2 hf hsm
              generalize ch L j = x at *
              generalize pl L j = y at *
              generalize L j = l0 at *
              generalize L (j + 1) = l1 at *
              generalize tot L (j + 1) = t at *
              have g1 : (((x : Int) + 1) == (x : Int)) = false := by rw [beq_eq_false_iff_ne]; omega
              have g2 : ((l1 : Int) == 0) = false := by rw [beq_eq_false_iff_ne]; omega
              go_wp2
              go_quiet (fail)
              go_wp2
              go_quiet (fail)
              go_wp2
              go_quiet (fail)
              go_wp2
              go_roundw
              case rel => exact ⟨j + 1, by omega, by go_num, by rw [HE.out]; go_num, _, rfl⟩
              case measure => simp [intOf]; omega
          · have hje : j = n' := by omega
            subst hje
            have e2 := (HC5.out.2 j (by omega)).1
            simp only [Nv] at e2
            have hM := ch_le L j
            have HM : Hid (∀ i, i ≤ j → ch L i ≤ ch L j) := fun i hi => ch_lt L i j hi
            generalize hMM : ch L j = M at *
            clear hMM
            go_wp2_with (at_make; refine wpList_make_full _ rfl _ _ 41 rfl w4.heap.size 3 i3 (.int .i64 0) 1 Try.underlying41 hi hz0 hz1 _ _ _ _ (M + 1) rfl rfl (by omega) (by omega) (by rw [hz2]; omega) (by unfold maxLen; omega) (by simp [World.drewN]) ?_)
            intro w5 hown hgrow
            have hM5 := made hown
            have hB5 : Below w4.heap.size w4 w5 := (bdrewN (Below.refl w4.heap.size w4) q).grown hgrow (by simp [World.drewN]) (by intro k hk; cases hk)
            have q5 := hM5.1
            clear hown hgrow e2
            have lC : w1.heap.size + 1 < w4.heap.size := HC5.out.1
            have lP : w2.heap.size < w4.heap.size := HP5.out.1
            have lT : T < w4.heap.size := hTb.2
            go_wp2
            go_loopw [16] (fun i wq => ∃ k : Nat, k ≤ j + 1 ∧ i = .int .i64 k ∧ Mine wq w4.heap.size (M + 1) (Nv (st L k).E) ∧ Below w4.heap.size w4 wq) (fun i _ => j + 1 - (intOf i).toNat)
            case atStart => exact ⟨0, Nat.zero_le _, rfl, hM5.congr (fun j _ => rfl), hB5⟩
            case round =>
              obtain ⟨k, hk3, rfl, hEr, hBr⟩ := hrel
              clear hM5 hB5
              by_cases hlt3 : k < j + 1
              · have e1 := (HC5.out.2 k hlt3).1
                have e3 := (HP5.out.2 k hlt3).1
                obtain ⟨b', off', hx', hb', s1⟩ := HG5.out.1 k hlt3
                cases hx'
                rw [← hBr.cell (p := ⟨w1.heap.size + 1, k, none⟩) lC] at e1
                rw [← hBr.cell (p := ⟨w2.heap.size, k, none⟩) lP] at e3
                rw [← hBr.cell (p := ⟨b0, off0 + k, none⟩) hb'] at s1
                simp only [Nv, S] at e1 e3 s1
                have hx := HM.out k (by omega)
                have hy := pl_le L k (fun i hi => HL.out i (by omega))
                have hl := HL.out k (by omega)
                obtain ⟨d1, f1⟩ := hEr.2 (ch L k) (by omega)
                have sE := hEr.store (ch L k) (by omega) (.int .i64 ((pl L k : Int) + (L k : Int)))
                have sB := hBr.setCell (p := ⟨w4.heap.size, ch L k, none⟩) (Nat.le_refl _) (.int .i64 ((pl L k : Int) + (L k : Int)))
                have HE : Hid (∀ i, (st L (k + 1)).E i = if i = ch L k then pl L k + L k else (st L k).E i) := fun i => by rw [st_E]; rfl
                clear hEr hBr
                generalize ch L k = x at *
                generalize pl L k = y at *
                generalize L k = l at *
                go_wp2
                go_region
                go_wp2
                go_roundw
                case rel => exact ⟨k + 1, by omega, by go_num, sE.congr (fun i hi => by
                    simp only [Nv, HE.out i]
                    by_cases e : i = x
                    · simp [e]
                    · simp [e]), sB.drew⟩
                case measure => simp [intOf]; omega
              · have hke : k = j + 1 := by omega
                subst hke
                obtain ⟨w6, hw6⟩ : ∃ w6, w6 = wr := ⟨_, rfl⟩
                subst hw6
                go_wp2
                go_loopw [17] (fun i wq => ∃ k : Nat, k ≤ M + 1 ∧ i = .int .i64 k ∧ ∃ q, wq = w6.drewN q) (fun i _ => M + 1 - (intOf i).toNat)
                case atStart => exact ⟨0, Nat.zero_le _, rfl, 0, rfl⟩
                case round =>
                  obtain ⟨k, hk4, rfl, q', rfl⟩ := hrel
                  by_cases hlt4 : k < M + 1
                  · have e1 := HTc.out k hlt4
                    have e2 := (hEr.2 k hlt4).1
                    rw [← hBr.cell (p := ⟨T, k, none⟩) lT] at e1
                    simp only [Nv] at e2
                    generalize (st L (j + 1)).E k = v at e1 e2
                    go_wp2
                    go_quiet (fail)
                    go_wp2
                    go_roundw
                    case rel => exact ⟨k + 1, by omega, by go_num, _, rfl⟩
                    case measure => simp [intOf]; omega
                  · go_wp2
                    go_ret
                    exact ⟨rfl, bdrewN (hwr.trans (hBr.mono hwr.size)) _⟩
end Go.Proofs.Qxb6002656a.Ar
