import Derived.Test.Qxb6002656aArB
namespace Go.Proofs.Qxb6002656a.Ar
open Go.RowKit En

/-- 'make([]uint64, 0, K)': for every world. -/
theorem make_chunk (K : Nat) (hK : K ≤ 131072) (v : Int) (hv : v = (K : Int)) (w : World) :
    (Instr.makeSlice 22 (.int .i64 0) (.int .i64 v)).run Try.prog w = .ok (.slice (some ⟨w.heap.size, 0, none⟩) 0 K) (w.alloc (.cells (madeCells #[.int .u64 0] K) 27)) := by
  subst hv
  obtain ⟨i3, hi, hz0, hz1, hz2⟩ := info_parts info27
  have hr := run_make (P := Try.prog) w 22 27 i3 (.int .u64 0) Try.underlying22 hi hz0 .i64 .i64 0 K (Int.le_refl _) (by omega) (by rw [hz2]; omega) (by omega)
  simp only [Int.toNat_zero, Int.toNat_natCast, hz1, Nat.mul_one] at hr
  exact hr

theorem Apart.rd {B p : Nat} {w w' : World} {a : Option Addr} {n : Nat} {F : Nat → Value} (h : Apart B p w w') (r : Rd w a n F) (hp : p ≤ B) (ha : ∀ y, a = some y → y.block < p) : Rd w' a n F := by
  intro i hi
  obtain ⟨b, off, rfl, hlt, hc⟩ := r i hi
  have hb : b < p := ha _ rfl
  refine ⟨b, off, rfl, Nat.lt_of_lt_of_le hlt h.size, ?_⟩
  rw [World.cell?_of_block (w := w) (a := ⟨b, off + i, none⟩) (h.block b (by omega) (by omega))]
  exact hc

theorem el_lies (w0 : World) (o : Obj) (x : Value) : ∀ j u, ([x] : List Value)[j]? = some u → (((w0.alloc o).alloc (.cells #[x] 22)).drew).cell? ((⟨w0.heap.size + 1, 0, none⟩ : Addr).add j) = some u := by
  have e : (((w0.alloc o).alloc (.cells #[x] 22)).drew).heap[w0.heap.size + 1]? = some (.cells #[x] 22) := by
    have := heap_alloc_at (w0.alloc o) (.cells #[x] 22)
    rw [show (w0.alloc o).heap.size = w0.heap.size + 1 by simp] at this
    exact this
  exact World.news_of_block (cs := #[x]) e

theorem old_after {w0 w1 : World} {o o' : Obj} {row : Option Nat} {p : Nat} (hgrow : (((w0.alloc o).alloc o').drew).grownBy w1 row) (hp : p < w0.heap.size) (hne : some p ≠ row) :
    w1.cell? ⟨p, 0, none⟩ = w0.cell? ⟨p, 0, none⟩ ∧ w1.frozen? ⟨p, 0, none⟩ = w0.frozen? ⟨p, 0, none⟩ := by
  have e : w1.heap[p]? = w0.heap[p]? := by
    rw [hgrow.block p (by simp; omega) hne]
    show ((w0.alloc _).alloc _).heap[p]? = _
    rw [Below.heap_alloc _ _ _ (by simp; omega), Below.heap_alloc _ _ _ hp]
  exact ⟨World.cell?_of_block (a := ⟨p, 0, none⟩) e, World.frozen?_of_block (a := ⟨p, 0, none⟩) e⟩

theorem upd_upd (f : Nat → Nat) (k u v : Nat) : upd (upd f k u) k v = upd f k v := by
  funext j; unfold upd; split <;> simp_all

theorem Mine.of_block {w w' : World} {g n : Nat} {F : Nat → Value} (m : Mine w g n F) (hb : w'.heap[g]? = w.heap[g]?) : Mine w' g n F := by
  refine ⟨?_, fun j hj => ?_⟩
  · rcases Nat.lt_or_ge g w'.heap.size with h | h
    · exact h
    · have e1 : w'.heap[g]? = none := by simpa using h
      have e2 : w.heap[g]? ≠ none := by simpa using m.1
      exact absurd (hb ▸ e1) e2
  · rw [World.cell?_of_block (w := w) (a := ⟨g, j, none⟩) hb, World.frozen?_of_block (w := w) (a := ⟨g, j, none⟩) hb]
    exact m.2 j hj

theorem map_snoc (m : Nat) (F F' : Nat → Value) (v : Value) (h1 : F' m = v) (h2 : ∀ j, j < m → F' j = F j) : (List.range m).map F ++ [v] = (List.range (m + 1)).map F' := by
  rw [List.range_succ, List.map_append]
  congr 1
  · exact List.map_congr_left (fun j hj => (h2 j (List.mem_range.1 hj)).symm)
  · simp [h1]

/-- Behind 's.chunks = append(s.chunks, make(..))': the table is one longer, its last an empty chunk of the call's own. -/
theorem new_facts {w0 w1 : World} {B p n g cap K : Nat} {v x : Value} {G E Cp : Nat → Nat} (hv : ∀ t, v.ownBlock = some t → B ≤ t ∧ t < w0.heap.size)
    (hgrow : (((w0.alloc (.cells (madeCells #[.int .u64 0] K) 27)).alloc (.cells #[.slice (some ⟨w0.heap.size, 0, none⟩) 0 K] 22)).drew).grownBy w1 v.ownBlock)
    (hown1 : w1.ownsRow B 22 1 (.slice (some ⟨g, 0, none⟩) (n + 1) cap) (n + 1) ((List.range n).map (S (fun k => some ⟨G k, 0, none⟩) E Cp) ++ [.slice (some ⟨w0.heap.size, 0, none⟩) 0 K]))
    (hat : v.ownBlock = some g ∨ g = w0.heap.size + 2) (hp : p < B) (hB : B ≤ w0.heap.size) (hK : K ≤ 131072) :
    (∀ b, b < w0.heap.size → v.ownBlock ≠ some b → w1.heap[b]? = w0.heap[b]?) ∧
    (w1.setCell ⟨p, 0, none⟩ x).ownsRow B 22 1 (.slice (some ⟨g, 0, none⟩) (n + 1) cap) (n + 1) ((List.range (n + 1)).map (S (fun k => some ⟨upd G n w0.heap.size k, 0, none⟩) (upd E n 0) (upd Cp n K))) ∧
    (w1.setCell ⟨p, 0, none⟩ x).ownsRow B 27 1 (.slice (some ⟨w0.heap.size, 0, none⟩) 0 K) 0 [] ∧
    Apart B p w0 (w1.setCell ⟨p, 0, none⟩ x) ∧ g ≠ w0.heap.size ∧ B ≤ g := by
  have hgB : B ≤ g := (own_base hown1).1
  have hne : g ≠ w0.heap.size := by
    rcases hat with h | h
    · have := (hv g h).2; omega
    · omega
  have hk : ∀ b, b < w0.heap.size → v.ownBlock ≠ some b → w1.heap[b]? = w0.heap[b]? := by
    intro b hb hb'
    have e1 := hgrow.block b (by simp; omega) (Ne.symm hb')
    rw [e1]
    show ((w0.alloc _).alloc _).heap[b]? = _
    rw [Below.heap_alloc _ _ _ (by simp; omega), Below.heap_alloc _ _ _ hb]
  have hb0 : v.ownBlock ≠ some w0.heap.size := fun h => by have := (hv _ h).2; omega
  have hcb : w1.heap[w0.heap.size]? = some (.cells (madeCells #[.int .u64 0] K) 27) := by
    have e1 := hgrow.block w0.heap.size (by simp; omega) (Ne.symm hb0)
    rw [e1]
    show ((w0.alloc _).alloc _).heap[w0.heap.size]? = _
    rw [Below.heap_alloc _ _ _ (by simp), heap_alloc_at]
  refine ⟨hk, ?_, ?_, ?_, hne, hgB⟩
  · rw [map_snoc n _ (S (fun k => some ⟨upd G n w0.heap.size k, 0, none⟩) (upd E n 0) (upd Cp n K)) _ (by simp [S, upd]) (fun j hj => by simp [S, upd, show ¬ j = n by omega])] at hown1
    exact own_same hown1 (Below.heap_setCell _ _ _ _ (by simp; omega))
  · have h0 : (w0.alloc (.cells (madeCells #[.int .u64 0] K) 27)).ownsRow B 27 1 (.slice (some ⟨w0.heap.size, 0, none⟩) 0 K) 0 [] :=
      World.ownsRow_made w0 _ K hB (by unfold maxLen; omega) (by rw [size_madeCells]; omega)
    refine own_same h0 ?_
    rw [Below.heap_setCell _ _ _ _ (by simp; omega), hcb, heap_alloc_at]
  · have a1 : Apart B p w0 w1 := by
      refine (Apart.of_below (?_ : Below B w0 (((w0.alloc _).alloc _).drew))).trans (Apart.grown hgrow (by simp; omega) (fun k hk => (hv k hk).1))
      exact (((Below.refl B w0).alloc hB _).alloc (by simp; omega) _).drew
    exact a1.trans (Apart.setCell (q := ⟨p, 0, none⟩) _ (.inr rfl) _)

set_option maxHeartbeats 1000000 in
theorem keep_new (B p m T tc : Nat) (G E Cp : Nat → Nat) (a : Option Addr) (len c : Nat) (f : Nat → Int) (w : World) (hA : Ar1 w B p m T tc G E Cp) (hp : p < B) (hB : B ≤ w.heap.size) (hr : Rd w a len (U f)) (hn : a = none → c = 0)
    (hm : m ≤ 4096) (hcp : Cp m ≤ 131072) (hle : E m ≤ Cp m) (hlen : len ≤ 131072) (hfit : Cp m < E m + len) (hab : ∀ y, a = some y → y.block < p) :
    Calls Try.prog 31 #[.pointer (some ⟨p, 0, none⟩), .slice a len c] w (KPost B p (m + 1) 0 (upd E (m + 1) len) (max (min (2 * Cp m) 131072) len) w) := by
  obtain ⟨i3, hi, hz0, hz1, hz2⟩ := info_parts info27
  obtain ⟨j3, ji, jz0, jz1, jz2⟩ := info_parts info22
  have Hab : Hid (∀ y, a = some y → y.block < p) := hab
  clear hab
  obtain ⟨h1, h2, h3, ⟨xs, h4⟩, h5⟩ := hA
  have hpl : p < w.heap.size := by omega
  obtain ⟨hTB, hTl⟩ := own_base h3
  have hct : w.cell? ⟨T, m, none⟩ = some (.slice (some ⟨G m, 0, none⟩) (E m) (Cp m)) := by rw [h3.cellAt m (by omega)]; simp [S]
  have hg0 : (((m : Int) + 1) == 0) = false := by rw [beq_eq_false_iff_ne]; omega
  have Hn : Hid (a = none → c = 0) := hn
  clear hn h4
  generalize hem : E m = em at *
  generalize hcm : Cp m = cm at *
  have HE : Hid (E m = em) := hem
  have HC : Hid (Cp m = cm) := hcm
  clear hem hcm
  obtain ⟨K, hK⟩ : ∃ K, K = max (min (2 * cm) 131072) len := ⟨_, rfl⟩
  have hKb : K ≤ 131072 := by omega
  have HK : Hid (K = max (min (2 * cm) 131072) len) := hK
  clear hK
  have H3 : Hid (w.ownsRow B 22 1 (.slice (some ⟨T, 0, none⟩) (m + 1) tc) (m + 1) ((List.range (m + 1)).map (S (fun k => some ⟨G k, 0, none⟩) E Cp))) := h3
  clear h3
  go_enter Try.func31, Try.ntmps31
  go_wp2
  go_quiet (fail)
  have c0 : ((w.alloc (.cells #[.int .i32 0, .int .i32 0] 50)).drewN nq).cell? ⟨p, 0, none⟩ = some (.slice (some ⟨T, 0, none⟩) (m + 1) tc) := (World.cell?_alloc_lt w _ _ hpl).trans h1
  have f0 : ((w.alloc (.cells #[.int .i32 0, .int .i32 0] 50)).drewN nq).frozen? ⟨p, 0, none⟩ = false := (World.frozen?_alloc_old w _ _ (by simp; omega)).trans h2
  have t0 : ((w.alloc (.cells #[.int .i32 0, .int .i32 0] 50)).drewN nq).cell? ⟨T, m, none⟩ = some (.slice (some ⟨G m, 0, none⟩) em cm) := (World.cell?_alloc_lt w _ _ hTl).trans hct
  have H3' : Hid (((w.alloc (.cells #[.int .i32 0, .int .i32 0] 50)).drewN nq).ownsRow B 22 1 (.slice (some ⟨T, 0, none⟩) (m + 1) tc) (m + 1) ((List.range (m + 1)).map (S (fun k => some ⟨G k, 0, none⟩) E Cp))) := H3.out.alloc _
  have hap : Apart B p w ((w.alloc (.cells #[.int .i32 0, .int .i32 0] 50)).drewN nq) := (Apart.of_below ((Below.refl B w).alloc hB _)).drewN nq
  have hBw : Below w.heap.size w ((w.alloc (.cells #[.int .i32 0, .int .i32 0] 50)).drewN nq) := bdrewN ((Below.refl _ w).alloc (Nat.le_refl _) _) nq
  have hMN : Mine ((w.alloc (.cells #[.int .i32 0, .int .i32 0] 50)).drewN nq) w.heap.size 2 (fun _ => .int .i32 0) :=
    mine_of_heap (xs := [.int .i32 0, .int .i32 0]) (e := 50) (heap_alloc_at w _) (fun j hj => by match j, hj with | 0, _ => rfl | 1, _ => rfl)
  generalize (w.alloc (.cells #[.int .i32 0, .int .i32 0] 50)).drewN nq = w0 at *
  have hNl := hMN.1
  have hp0 : p < w0.heap.size := by omega
  have hT0 : T < w0.heap.size := by omega
  have cA : ∀ o, (w0.alloc o).cell? ⟨p, 0, none⟩ = some (.slice (some ⟨T, 0, none⟩) (m + 1) tc) := fun o => (World.cell?_alloc_lt w0 o _ hp0).trans c0
  have cB : ∀ o o', ((w0.alloc o).alloc o').cell? ⟨p, 0, none⟩ = some (.slice (some ⟨T, 0, none⟩) (m + 1) tc) := fun o o' => (World.cell?_alloc_lt _ o' _ (by simp; omega)).trans (cA o)
  clear h1 h2 hct H3
  have MA : Hid (131072 < 2 * cm → ∀ w, (Instr.makeSlice 22 (.int .i64 0) (.int .i64 (if (131072 : Int) < (len : Int) then (len : Int) else 131072))).run Try.prog w = .ok (.slice (some ⟨w.heap.size, 0, none⟩) 0 K) (w.alloc (.cells (madeCells #[.int .u64 0] K) 27))) :=
    fun h => make_chunk K hKb _ (by have := HK.out; split <;> omega)
  have MB : Hid (2 * cm ≤ 131072 → ∀ w, (Instr.makeSlice 22 (.int .i64 0) (.int .i64 (if 2 * (cm : Int) < (len : Int) then (len : Int) else 2 * (cm : Int)))).run Try.prog w = .ok (.slice (some ⟨w.heap.size, 0, none⟩) 0 K) (w.alloc (.cells (madeCells #[.int .u64 0] K) 27))) :=
    fun h => make_chunk K hKb _ (by have := HK.out; split <;> omega)
  go_wp2
  all_goals (rcases Nat.lt_or_ge 131072 (2 * cm) with hc | hc)
  all_goals (first | (exfalso; omega) | skip)
  all_goals (first | (have mk := MA.out hc) | (have mk := MB.out hc))
  all_goals clear hc MA MB
  all_goals go_region_law ((refine step_append_lies _ (by rfl) _ _ _ (by rfl) B 22 j3 (.slice none 0 0) 1 24 Try.underlying31 ji jz0 jz1 jz2 rfl (by omega) (.slice (some ⟨T, 0, none⟩) (m + 1) tc) (m + 1) _ (by rfl) (((H3'.out.alloc _).alloc _).drew) ⟨w0.heap.size + 1, 0, none⟩ 1 1 [.slice (some ⟨w0.heap.size, 0, none⟩) 0 K] (by rfl) (by rfl) (el_lies _ _ _) (by simp [Value.oneCell']) (by omega) (by unfold maxLen; omega) (by omega) (by simp; omega) (w0.heap.size + 2) (by simp) ?_; intro g cap w1 hown1 hgrow hat hlt; have cf1 := old_after (p := p) hgrow (by omega) (by simp [Value.ownBlock]; omega); have cp1 := cf1.1.trans c0; have fp1 := cf1.2.trans f0; clear cf1))
  all_goals
    obtain ⟨hk1, H3t, H3c, hap1, hgne, hgB⟩ := new_facts (x := .slice (some ⟨g, 0, none⟩) (m + 1 + 1) cap) (v := .slice (some ⟨T, 0, none⟩) (m + 1) tc) (fun t ht => by cases ht; exact ⟨hTB, hT0⟩) hgrow hown1 hat hp (by omega) hKb
    have hapw := hap.trans hap1
    have c3 : (w1.setCell ⟨p, 0, none⟩ (.slice (some ⟨g, 0, none⟩) (m + 1 + 1) cap)).cell? ⟨p, 0, none⟩ = some (.slice (some ⟨g, 0, none⟩) (m + 1 + 1) cap) := World.cell?_setCell_same' _ _ _ (by rw [cp1]; rfl)
    have f3 : (w1.setCell ⟨p, 0, none⟩ (.slice (some ⟨g, 0, none⟩) (m + 1 + 1) cap)).frozen? ⟨p, 0, none⟩ = false := by rw [World.frozen?_setCell]; exact fp1
    have hMN3 : Mine (w1.setCell ⟨p, 0, none⟩ (.slice (some ⟨g, 0, none⟩) (m + 1 + 1) cap)) w.heap.size 2 (fun _ => .int .i32 0) :=
      Mine.of_block hMN ((Below.heap_setCell _ _ _ _ (by simp; omega)).trans (hk1 w.heap.size hNl (by simp [Value.ownBlock]; omega)))
    have hr3 := hapw.rd hr (by omega) Hab.out
    have hgN : g ≠ w.heap.size := by
      rcases hat with h | h
      · simp [Value.ownBlock] at h; omega
      · omega
    clear cp1 fp1 hown1 hgrow hat hlt cA cB c0 f0 t0 H3' hap hBw hMN mk hk1 hap1
    generalize w1.setCell ⟨p, 0, none⟩ (.slice (some ⟨g, 0, none⟩) (m + 1 + 1) cap) = w3 at *
    have hgl := (own_base H3t).2
    have hcl := (own_base H3c).2
    have t3 : w3.cell? ⟨g, m + 1, none⟩ = some (.slice (some ⟨w0.heap.size, 0, none⟩) 0 K) := by rw [H3t.cellAt (m + 1) (by omega)]; simp [S, upd]
    have ft3 := H3t.frozenAt (m + 1)
    have Hnone : Hid (a = none → len = 0 ∧ c = 0) := fun h => ⟨none_len hr3 h, Hn.out h⟩
    have Hnews : Hid (∀ W : World, Below w3.heap.size w3 W → ∀ ad, a = some ad → ∀ j u, ((List.range len).map (U f))[j]? = some u → W.cell? (ad.add j) = some u) := news_of hr3
    have HT : Hid (w3.ownsRow B 22 1 (.slice (some ⟨g, 0, none⟩) (m + 1 + 1) cap) (m + 1 + 1) ((List.range (m + 1 + 1)).map (S (fun k => some ⟨upd G (m + 1) w0.heap.size k, 0, none⟩) (upd E (m + 1) 0) (upd Cp (m + 1) K)))) := H3t
    have HCh : Hid (w3.ownsRow B 27 1 (.slice (some ⟨w0.heap.size, 0, none⟩) 0 K) 0 []) := H3c
    have hKf : 0 + len ≤ K := by have := HK.out; omega
    clear H3t H3c hr hr3
    go_wp2_with (at_builtin; refine wpList_append_fits_any _ rfl _ _ 22 rfl B 27 i3 1 Try.underlying22 hi hz1 w0.heap.size 0 K [] rfl (HCh.out.alloc _) a len c ((List.range len).map (U f)) rfl (by simp) Hnone.out (Hnews.out _ ((Below.refl _ _).alloc (Nat.le_refl _) _)) (words_one _ _) hKf ?_)
  all_goals
    intro W2 hown hgrow
    obtain ⟨hk, hMy⟩ := tail_facts hgrow hcl
    have hD := tail_done (w := w) (len := len) (em := 0) (N := w.heap.size) (v0 := .int .i32 ((m : Int) + 1)) (v1 := .int .i32 0) (E := upd E (m + 1) 0) (G := upd G (m + 1) w0.heap.size) (Cp := upd Cp (m + 1) K)
      c3 f3 HT.out (by rw [Nat.zero_add]; exact hown) hgrow hgne (by omega) hcl hp (by omega) (by omega) (by omega) (Ne.symm hgN) hapw (upd_same _ _ _) (upd_same _ _ _)
    rw [upd_upd, Nat.zero_add] at hD
    have hMN := Mine.of_block hMN3 (hk w.heap.size hMN3.1 (by omega))
    have hMF := ((hMN.other ⟨g, m + 1, none⟩ (by simpa using hgN) (.slice (some ⟨w0.heap.size, 0, none⟩) len K)).store 0 (by omega) (.int .i32 ((m : Int) + 1))).store 1 (by omega) (.int .i32 0)
    have r0 := (hMF.2 0 (by omega)).1
    have r1 := (hMF.2 1 (by omega)).1
    simp only [if_true, show ¬ ((0 : Nat) = 1) by omega, if_false] at r0 r1
    have hhT := hk g hgl hgne
    have cT : W2.cell? ⟨g, m + 1, none⟩ = some (.slice (some ⟨w0.heap.size, 0, none⟩) 0 K) := by rw [World.cell?_of_block (a := ⟨g, m + 1, none⟩) hhT]; exact t3
    have fT : W2.frozen? ⟨g, m + 1, none⟩ = false := by rw [World.frozen?_of_block (a := ⟨g, m + 1, none⟩) hhT]; exact ft3
    have n0 := (hMN.2 0 (by omega)).1
    have n1 := (hMN.2 1 (by omega)).1
    have z0 := (hMN.2 0 (by omega)).2
    have z1 := (hMN.2 1 (by omega)).2
    have y0 := (hMy.2 0 (by omega)).1
    have y1 := (hMy.2 1 (by omega)).1
    simp only [if_true, show ¬ ((1 : Nat) = 0) by omega, if_false] at y0 y1
    have HD : Hid _ := hD
    clear hown hgrow hk hMy hapw hD hMN hhT hMF hMN3 HT HCh Hnews Hnone c3 f3 t3 ft3
    go_wp2
    exact bodyPost_ret (v := .agg #[.int .i32 ((m : Int) + 1), .int .i32 0]) (by simp [results, Try.results31, go_sem, r0, r1]) rfl ⟨rfl, ⟨g, cap, upd G (m + 1) w0.heap.size, upd Cp (m + 1) K, by rw [upd_same]; exact HK.out, HD.out.1⟩, HD.out.2⟩
end Go.Proofs.Qxb6002656a.Ar
