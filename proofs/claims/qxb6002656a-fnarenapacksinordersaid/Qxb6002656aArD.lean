import Derived.Test.Qxb6002656aArC
namespace Go.Proofs.Qxb6002656a.Ar
open Go.RowKit En

set_option maxHeartbeats 1000000 in
theorem keep_first (B p : Nat) (G E Cp : Nat → Nat) (a : Option Addr) (len c : Nat) (f : Nat → Int) (w : World) (h1 : w.cell? ⟨p, 0, none⟩ = some (.slice none 0 0)) (h2 : w.frozen? ⟨p, 0, none⟩ = false) (hp : p < B) (hB : B ≤ w.heap.size) (hr : Rd w a len (U f)) (hn : a = none → c = 0)
    (hlen : len ≤ 131072) (hab : ∀ y, a = some y → y.block < p) :
    Calls Try.prog 31 #[.pointer (some ⟨p, 0, none⟩), .slice a len c] w (KPost B p 0 0 (upd E 0 len) (max 256 len) w) := by
  obtain ⟨i3, hi, hz0, hz1, hz2⟩ := info_parts info27
  obtain ⟨j3, ji, jz0, jz1, jz2⟩ := info_parts info22
  have Hab : Hid (∀ y, a = some y → y.block < p) := hab
  clear hab
  have hpl : p < w.heap.size := by omega
  have Hn : Hid (a = none → c = 0) := hn
  clear hn
  obtain ⟨K, hK⟩ : ∃ K, K = max 256 len := ⟨_, rfl⟩
  have hKb : K ≤ 131072 := by omega
  have HK : Hid (K = max 256 len) := hK
  clear hK
  go_enter Try.func31, Try.ntmps31
  go_wp2
  go_quiet (fail)
  have c0 : ((w.alloc (.cells #[.int .i32 0, .int .i32 0] 50)).drewN nq).cell? ⟨p, 0, none⟩ = some (.slice none 0 0) := (World.cell?_alloc_lt w _ _ hpl).trans h1
  have f0 : ((w.alloc (.cells #[.int .i32 0, .int .i32 0] 50)).drewN nq).frozen? ⟨p, 0, none⟩ = false := (World.frozen?_alloc_old w _ _ (by simp; omega)).trans h2
  have hap : Apart B p w ((w.alloc (.cells #[.int .i32 0, .int .i32 0] 50)).drewN nq) := (Apart.of_below ((Below.refl B w).alloc hB _)).drewN nq
  have hBw : Below w.heap.size w ((w.alloc (.cells #[.int .i32 0, .int .i32 0] 50)).drewN nq) := bdrewN ((Below.refl _ w).alloc (Nat.le_refl _) _) nq
  have hMN : Mine ((w.alloc (.cells #[.int .i32 0, .int .i32 0] 50)).drewN nq) w.heap.size 2 (fun _ => .int .i32 0) :=
    mine_of_heap (xs := [.int .i32 0, .int .i32 0]) (e := 50) (heap_alloc_at w _) (fun j hj => by match j, hj with | 0, _ => rfl | 1, _ => rfl)
  generalize (w.alloc (.cells #[.int .i32 0, .int .i32 0] 50)).drewN nq = w0 at *
  have hNl := hMN.1
  have hp0 : p < w0.heap.size := by omega
  have cA : ∀ o, (w0.alloc o).cell? ⟨p, 0, none⟩ = some (.slice none 0 0) := fun o => (World.cell?_alloc_lt w0 o _ hp0).trans c0
  have cB : ∀ o o', ((w0.alloc o).alloc o').cell? ⟨p, 0, none⟩ = some (.slice none 0 0) := fun o o' => (World.cell?_alloc_lt _ o' _ (by simp; omega)).trans (cA o)
  clear h1 h2
  have mk := make_chunk K hKb (if (256 : Int) < (len : Int) then (len : Int) else 256) (by have := HK.out; split <;> omega)
  go_wp2
  all_goals go_region_law ((refine step_append_lies _ (by rfl) _ _ _ (by rfl) B 22 j3 (.slice none 0 0) 1 24 Try.underlying31 ji jz0 jz1 jz2 rfl (by omega) (.slice none 0 0) 0 [] (by rfl) (World.ownsRow_nil _ _ _ _) ⟨w0.heap.size + 1, 0, none⟩ 1 1 [.slice (some ⟨w0.heap.size, 0, none⟩) 0 K] (by rfl) (by rfl) (el_lies _ _ _) (by simp [Value.oneCell']) (by omega) (by unfold maxLen; omega) (by omega) (by simp; omega) (w0.heap.size + 2) (by simp) ?_; intro g cap w1 hown1 hgrow hat hlt; have cf1 := old_after (p := p) hgrow (by omega) (by simp [Value.ownBlock]); have cp1 := cf1.1.trans c0; have fp1 := cf1.2.trans f0; clear cf1))
  all_goals
    obtain ⟨hk1, H3t, H3c, hap1, hgne, hgB⟩ := new_facts (n := 0) (x := .slice (some ⟨g, 0, none⟩) 1 cap) (v := .slice none 0 0) (G := G) (E := E) (Cp := Cp) (fun t ht => by cases ht) hgrow hown1 hat hp (by omega) hKb
    have hapw := hap.trans hap1
    have c3 : (w1.setCell ⟨p, 0, none⟩ (.slice (some ⟨g, 0, none⟩) 1 cap)).cell? ⟨p, 0, none⟩ = some (.slice (some ⟨g, 0, none⟩) 1 cap) := World.cell?_setCell_same' _ _ _ (by rw [cp1]; rfl)
    have f3 : (w1.setCell ⟨p, 0, none⟩ (.slice (some ⟨g, 0, none⟩) 1 cap)).frozen? ⟨p, 0, none⟩ = false := by rw [World.frozen?_setCell]; exact fp1
    have hMN3 : Mine (w1.setCell ⟨p, 0, none⟩ (.slice (some ⟨g, 0, none⟩) 1 cap)) w.heap.size 2 (fun _ => .int .i32 0) :=
      Mine.of_block hMN ((Below.heap_setCell _ _ _ _ (by simp; omega)).trans (hk1 w.heap.size hNl (by simp [Value.ownBlock])))
    have hr3 := hapw.rd hr (by omega) Hab.out
    have hgN : g ≠ w.heap.size := by
      rcases hat with h | h
      · simp [Value.ownBlock] at h
      · omega
    clear cp1 fp1 hown1 hgrow hat hlt cA cB c0 f0 hap hBw hMN mk hk1 hap1
    generalize w1.setCell ⟨p, 0, none⟩ (.slice (some ⟨g, 0, none⟩) 1 cap) = w3 at *
    have hgl := (own_base H3t).2
    have hcl := (own_base H3c).2
    have t3 : w3.cell? ⟨g, 0, none⟩ = some (.slice (some ⟨w0.heap.size, 0, none⟩) 0 K) := by rw [H3t.cellAt 0 (by omega)]; simp [S, upd]
    have ft3 := H3t.frozenAt 0
    have Hnone : Hid (a = none → len = 0 ∧ c = 0) := fun h => ⟨none_len hr3 h, Hn.out h⟩
    have Hnews : Hid (∀ W : World, Below w3.heap.size w3 W → ∀ ad, a = some ad → ∀ j u, ((List.range len).map (U f))[j]? = some u → W.cell? (ad.add j) = some u) := news_of hr3
    have HT : Hid (w3.ownsRow B 22 1 (.slice (some ⟨g, 0, none⟩) 1 cap) 1 ((List.range (0 + 1)).map (S (fun k => some ⟨upd G 0 w0.heap.size k, 0, none⟩) (upd E 0 0) (upd Cp 0 K)))) := H3t
    have HCh : Hid (w3.ownsRow B 27 1 (.slice (some ⟨w0.heap.size, 0, none⟩) 0 K) 0 []) := H3c
    have hKf : 0 + len ≤ K := by have := HK.out; omega
    clear H3t H3c hr hr3
    go_wp2_with (at_builtin; refine wpList_append_fits_any _ rfl _ _ 22 rfl B 27 i3 1 Try.underlying22 hi hz1 w0.heap.size 0 K [] rfl (HCh.out.alloc _) a len c ((List.range len).map (U f)) rfl (by simp) Hnone.out (Hnews.out _ ((Below.refl _ _).alloc (Nat.le_refl _) _)) (words_one _ _) hKf ?_)
  all_goals
    intro W2 hown hgrow
    obtain ⟨hk, hMy⟩ := tail_facts hgrow hcl
    have hD := tail_done (w := w) (len := len) (em := 0) (N := w.heap.size) (v0 := .int .i32 0) (v1 := .int .i32 0) (E := upd E 0 0) (G := upd G 0 w0.heap.size) (Cp := upd Cp 0 K)
      c3 f3 HT.out (by rw [Nat.zero_add]; exact hown) hgrow hgne (by omega) hcl hp (by omega) (by omega) (by omega) (Ne.symm hgN) hapw (upd_same _ _ _) (upd_same _ _ _)
    rw [upd_upd, Nat.zero_add] at hD
    have hMN := Mine.of_block hMN3 (hk w.heap.size hMN3.1 (by omega))
    have hMF := ((hMN.other ⟨g, 0, none⟩ (by simpa using hgN) (.slice (some ⟨w0.heap.size, 0, none⟩) len K)).store 0 (by omega) (.int .i32 0)).store 1 (by omega) (.int .i32 0)
    have r0 := (hMF.2 0 (by omega)).1
    have r1 := (hMF.2 1 (by omega)).1
    simp only [if_true, show ¬ ((0 : Nat) = 1) by omega, if_false] at r0 r1
    have hhT := hk g hgl hgne
    have cT : W2.cell? ⟨g, 0, none⟩ = some (.slice (some ⟨w0.heap.size, 0, none⟩) 0 K) := by rw [World.cell?_of_block (a := ⟨g, 0, none⟩) hhT]; exact t3
    have fT : W2.frozen? ⟨g, 0, none⟩ = false := by rw [World.frozen?_of_block (a := ⟨g, 0, none⟩) hhT]; exact ft3
    have n0 := (hMN.2 0 (by omega)).1
    have n1 := (hMN.2 1 (by omega)).1
    have z0 := (hMN.2 0 (by omega)).2
    have z1 := (hMN.2 1 (by omega)).2
    have y0 := (hMy.2 0 (by omega)).1
    have y1 := (hMy.2 1 (by omega)).1
    simp only [if_true, show ¬ ((1 : Nat) = 0) by omega, if_false] at y0 y1
    have HD : Hid _ := hD
    clear hown hgrow hk hMy hapw hD hMN hhT hMF hMN3 HT HCh Hnews Hnone c3 f3 t3 ft3
    go_wp2
    exact bodyPost_ret (v := .agg #[.int .i32 0, .int .i32 0]) (by simp [results, Try.results31, go_sem, r0, r1]) rfl ⟨rfl, ⟨g, cap, upd G 0 w0.heap.size, upd Cp 0 K, by rw [upd_same]; exact HK.out, HD.out.1⟩, HD.out.2⟩
end Go.Proofs.Qxb6002656a.Ar
