import Derived.Test.Qxb6002656aArA
import Derived.Deep.RegionHeld3
import Derived.Deep.AppendLies
namespace Go.Proofs.Qxb6002656a.Ar
open Go.RowKit En

/-- Below block number B all but block p is as it was. -/
structure Apart (B p : Nat) (w w' : World) : Prop where
  os : w'.os = w.os
  tape : w'.tape = w.tape
  output : w'.output = w.output
  size : w.heap.size ≤ w'.heap.size
  block : ∀ k, k < B → k ≠ p → w'.heap[k]? = w.heap[k]?

theorem Apart.trans {B p : Nat} {a b c : World} (h : Apart B p a b) (k : Apart B p b c) : Apart B p a c :=
  ⟨k.os.trans h.os, k.tape.trans h.tape, k.output.trans h.output, Nat.le_trans h.size k.size, fun i hi hp => (k.block i hi hp).trans (h.block i hi hp)⟩
theorem Apart.of_below {B p : Nat} {w w' : World} (h : Below B w w') : Apart B p w w' := ⟨h.os, h.tape, h.output, h.size, fun k hk _ => h.block k hk⟩
theorem Apart.below {B p q : Nat} {w w' : World} (h : Apart B p w w') (hq : q ≤ p) (hB : p ≤ B) : Below q w w' := ⟨h.os, h.tape, h.output, h.size, fun k hk => h.block k (by omega) (by omega)⟩
theorem Apart.grown {B p : Nat} {w w' : World} {row : Option Nat} (hg : w.grownBy w' row) (hB : B ≤ w.heap.size) (hr : ∀ k, row = some k → B ≤ k) : Apart B p w w' :=
  .of_below ((Below.refl _ _).grown hg hB hr)
theorem Apart.setCell {B p : Nat} (w : World) {q : Addr} (hq : B ≤ q.block ∨ q.block = p) (v : Value) : Apart B p w (w.setCell q v) :=
  ⟨rfl, rfl, rfl, by simp [World.setCell], fun k hk hp => Below.heap_setCell _ _ _ _ (by omega)⟩
theorem Apart.drewN {B p : Nat} {a w : World} (h : Apart B p a w) (k : Nat) : Apart B p a (w.drewN k) := ⟨h.os, h.tape, h.output, h.size, h.block⟩
theorem Apart.mine {B p : Nat} {w w' : World} {g n : Nat} {F : Nat → Value} (h : Apart B p w w') (m : Mine w g n F) (hg : g < B) (hp : g ≠ p) : Mine w' g n F :=
  ⟨Nat.lt_of_lt_of_le m.1 h.size, fun j hj => by
    rw [World.cell?_of_block (w := w) (a := ⟨g, j, none⟩) (h.block g hg hp), World.frozen?_of_block (w := w) (a := ⟨g, j, none⟩) (h.block g hg hp)]
    exact m.2 j hj⟩

/-- The arena in block p, m + 1 chunks in its table (block T); the last chunk is the call's own. -/
def Ar1 (w : World) (B p m T tc : Nat) (G E Cp : Nat → Nat) : Prop :=
  w.cell? ⟨p, 0, none⟩ = some (.slice (some ⟨T, 0, none⟩) (m + 1) tc) ∧ w.frozen? ⟨p, 0, none⟩ = false ∧
  w.ownsRow B 22 1 (.slice (some ⟨T, 0, none⟩) (m + 1) tc) (m + 1) ((List.range (m + 1)).map (S (fun k => some ⟨G k, 0, none⟩) E Cp)) ∧
  (∃ xs, w.ownsRow B 27 1 (.slice (some ⟨G m, 0, none⟩) (E m) (Cp m)) (E m) xs) ∧ T ≠ G m

theorem own_base {w : World} {base n g cap : Nat} {e : TypeId} {xs : List Value} (h : w.ownsRow base e 1 (.slice (some ⟨g, 0, none⟩) n cap) n xs) : base ≤ g ∧ g < w.heap.size := by
  rcases h.2 with ⟨h', _⟩ | ⟨g', cap', cur, h', hb, hg, _⟩
  · simp at h'
  · simp only [Value.slice.injEq, Option.some.injEq, Addr.mk.injEq, and_true, true_and] at h'
    obtain ⟨rfl, rfl⟩ := h'
    exact ⟨hb, (Array.getElem?_eq_some_iff.1 hg).1⟩

theorem own_same {w w' : World} {base n g cap : Nat} {e : TypeId} {xs : List Value} (h : w.ownsRow base e 1 (.slice (some ⟨g, 0, none⟩) n cap) n xs) (hb : w'.heap[g]? = w.heap[g]?) : w'.ownsRow base e 1 (.slice (some ⟨g, 0, none⟩) n cap) n xs := by
  refine ⟨h.1, ?_⟩
  rcases h.2 with ⟨h', _⟩ | ⟨g', cap', cur, h', r1, r2, r3⟩
  · simp at h'
  · simp only [Value.slice.injEq, Option.some.injEq, Addr.mk.injEq, and_true, true_and] at h'
    obtain ⟨rfl, rfl⟩ := h'
    exact .inr ⟨g, cap, cur, rfl, r1, by rw [hb]; exact r2, r3⟩

theorem heap_alloc_at (w : World) (o : Obj) : (w.alloc o).heap[w.heap.size]? = some o := by
  show (w.heap.push _)[w.heap.size]? = _; simp

/-- Behind the append: what lay before lies still. -/
theorem tail_facts {w3 W2 : World} {gm : Nat} {y0 y1 : Value} (h : (w3.alloc (.cells #[y0, y1] 50)).grownBy W2 (some gm)) (hg : gm < w3.heap.size) :
    (∀ b, b < w3.heap.size → b ≠ gm → W2.heap[b]? = w3.heap[b]?) ∧ Mine W2 w3.heap.size 2 (fun j => if j = 0 then y0 else y1) := by
  refine ⟨fun b hb hne => ?_, ?_⟩
  · rw [h.block b (by simp; omega) (by simp; omega)]
    exact Below.heap_alloc _ _ _ hb
  · refine mine_of_heap (xs := [y0, y1]) (e := 50) ?_ (fun j hj => ?_)
    · rw [h.block _ (by simp) (by simp; omega)]
      exact heap_alloc_at _ _
    · match j, hj with
      | 0, _ => rfl
      | 1, _ => rfl

theorem map_set (m : Nat) (F F' : Nat → Value) (v : Value) (h1 : F' m = v) (h2 : ∀ j, j < m → F' j = F j) : ((List.range (m + 1)).map F).set m v = (List.range (m + 1)).map F' := by
  apply List.ext_getElem?
  intro j
  by_cases hj : j < m + 1
  · by_cases e : j = m
    · subst e; simp [h1]
    · rw [List.getElem?_set_ne (by omega)]
      simp [hj, h2 j (by omega)]
  · simp [hj]

/-- Behind the stores: the arena, one list longer. -/
theorem tail_done {w w3 W2 : World} {B p m T tc N len gm em cm : Nat} {G E Cp : Nat → Nat} {y0 y1 v0 v1 : Value} {ys : List Value}
    (h1 : w3.cell? ⟨p, 0, none⟩ = some (.slice (some ⟨T, 0, none⟩) (m + 1) tc)) (h2 : w3.frozen? ⟨p, 0, none⟩ = false)
    (h3 : w3.ownsRow B 22 1 (.slice (some ⟨T, 0, none⟩) (m + 1) tc) (m + 1) ((List.range (m + 1)).map (S (fun k => some ⟨G k, 0, none⟩) E Cp)))
    (hown : W2.ownsRow B 27 1 (.slice (some ⟨gm, 0, none⟩) (em + len) cm) (em + len) ys) (hgrow : (w3.alloc (.cells #[y0, y1] 50)).grownBy W2 (some gm))
    (hTg : T ≠ gm) (hgB : B ≤ gm) (hgl : gm < w3.heap.size) (hp : p < B) (hB3 : B ≤ w3.heap.size) (hNB : B ≤ N) (hNg : N ≠ gm) (hNT : N ≠ T) (hap : Apart B p w w3) (eG : G m = gm) (eC : Cp m = cm) :
    Ar1 (((W2.setCell ⟨T, m, none⟩ (.slice (some ⟨gm, 0, none⟩) (em + len) cm)).setCell ⟨N, 0, none⟩ v0).setCell ⟨N, 1, none⟩ v1) B p m T tc G (upd E m (em + len)) Cp ∧
    Apart B p w (((W2.setCell ⟨T, m, none⟩ (.slice (some ⟨gm, 0, none⟩) (em + len) cm)).setCell ⟨N, 0, none⟩ v0).setCell ⟨N, 1, none⟩ v1) := by
  obtain ⟨hTB, hTl⟩ := own_base h3
  obtain ⟨hk, _⟩ := tail_facts hgrow hgl
  have hX : ∀ b, b ≠ T → b ≠ N → (((W2.setCell ⟨T, m, none⟩ (.slice (some ⟨gm, 0, none⟩) (em + len) cm)).setCell ⟨N, 0, none⟩ v0).setCell ⟨N, 1, none⟩ v1).heap[b]? = W2.heap[b]? := by
    intro b hb hb'
    rw [Below.heap_setCell _ _ _ _ (by simpa using hb'), Below.heap_setCell _ _ _ _ (by simpa using hb'), Below.heap_setCell _ _ _ _ (by simpa using hb)]
  have hXp : (((W2.setCell ⟨T, m, none⟩ (.slice (some ⟨gm, 0, none⟩) (em + len) cm)).setCell ⟨N, 0, none⟩ v0).setCell ⟨N, 1, none⟩ v1).heap[p]? = w3.heap[p]? := by
    rw [hX p (by omega) (by omega), hk p (by omega) (by omega)]
  refine ⟨⟨?_, ?_, ?_, ⟨ys, ?_⟩, by rw [eG]; exact hTg⟩, ?_⟩
  · rw [World.cell?_of_block (w := w3) (a := ⟨p, 0, none⟩) hXp]; exact h1
  · rw [World.frozen?_of_block (w := w3) (a := ⟨p, 0, none⟩) hXp]; exact h2
  · have h3' := own_same h3 (hk T hTl hTg)
    have h3'' := (h3'.stored m (.slice (some ⟨gm, 0, none⟩) (em + len) cm)).1
    rw [map_set m _ (S (fun k => some ⟨G k, 0, none⟩) (upd E m (em + len)) Cp) _ (by simp [S, eG, eC, upd]) (fun j hj => by simp [S, upd, show ¬ j = m by omega])] at h3''
    refine own_same h3'' ?_
    rw [Below.heap_setCell _ _ _ _ (by simpa using hNT.symm), Below.heap_setCell _ _ _ _ (by simpa using hNT.symm)]
  · rw [eG, eC, upd_same]
    exact own_same hown (hX gm (fun h => hTg h.symm) (fun h => hNg h.symm))
  · have a1 : Apart B p w3 W2 := (Apart.of_below ((Below.refl B w3).alloc hB3 _)).trans (.grown hgrow (by simp; omega) (by intro k hk; cases hk; exact hgB))
    exact (hap.trans a1).trans (((Apart.setCell _ (.inl hTB) _).trans (Apart.setCell _ (.inl hNB) _)).trans (Apart.setCell _ (.inl hNB) _))

theorem news_of {w : World} {a : Option Addr} {len : Nat} {f : Nat → Int} (hr : Rd w a len (U f)) : ∀ W : World, Below w.heap.size w W → ∀ ad, a = some ad → ∀ j u, ((List.range len).map (U f))[j]? = some u → W.cell? (ad.add j) = some u := by
  intro W hb ad had j u hj
  have hjn : j < len := by have := (List.getElem?_eq_some_iff.1 hj).1; simpa using this
  obtain ⟨b, off, h', _, hc⟩ := hr.below hb (Nat.le_refl _) j hjn
  rw [had] at h'
  cases h'
  rw [Addr.add_lit, hc]
  simpa [hjn] using hj

theorem none_len {w : World} {a : Option Addr} {len : Nat} {F : Nat → Value} (hr : Rd w a len F) (h : a = none) : len = 0 := by
  rcases Nat.eq_zero_or_pos len with h0 | h0
  · exact h0
  · obtain ⟨b, off, h', _⟩ := hr 0 h0
    rw [h] at h'
    cases h'

theorem words_one (len : Nat) (f : Nat → Int) : ∀ u ∈ (List.range len).map (U f), u.oneCell' = true := by
  intro u hu
  obtain ⟨_, _, rfl⟩ := List.mem_map.1 hu
  rfl

def KPost (B p c at' : Nat) (E : Nat → Nat) (cp : Nat) (w : World) (e : Ending) (w' : World) : Prop :=
  e = .returned (.agg #[.int .i32 (c : Int), .int .i32 (at' : Int)]) ∧ (∃ T tc G Cp, Cp c = cp ∧ Ar1 w' B p c T tc G E Cp) ∧ Apart B p w w'

set_option maxHeartbeats 1000000 in
theorem keep_fits (B p m T tc : Nat) (G E Cp : Nat → Nat) (a : Option Addr) (len c : Nat) (f : Nat → Int) (w : World) (hA : Ar1 w B p m T tc G E Cp) (hp : p < B) (hB : B ≤ w.heap.size) (hr : Rd w a len (U f)) (hn : a = none → c = 0)
    (hm : m ≤ 4096) (hcp : Cp m ≤ 131072) (hfit : E m + len ≤ Cp m) :
    Calls Try.prog 31 #[.pointer (some ⟨p, 0, none⟩), .slice a len c] w (KPost B p m (E m) (upd E m (E m + len)) (Cp m) w) := by
  obtain ⟨i3, hi, hz0, hz1, hz2⟩ := info_parts info27
  obtain ⟨h1, h2, h3, ⟨xs, h4⟩, h5⟩ := hA
  have hpl : p < w.heap.size := by omega
  obtain ⟨hTB, hTl⟩ := own_base h3
  obtain ⟨hGB, hGl⟩ := own_base h4
  have hct : w.cell? ⟨T, m, none⟩ = some (.slice (some ⟨G m, 0, none⟩) (E m) (Cp m)) := by rw [h3.cellAt m (by omega)]; simp [S]
  have hft := h3.frozenAt m
  have hg0 : (((m : Int) + 1) == 0) = false := by rw [beq_eq_false_iff_ne]; omega
  have Hn : Hid (a = none → c = 0) := hn
  clear hn
  generalize hem : E m = em at *
  generalize hcm : Cp m = cm at *
  generalize hgm : G m = gm at *
  have HE : Hid (E m = em) := hem
  have HC : Hid (Cp m = cm) := hcm
  have HG : Hid (G m = gm) := hgm
  clear hem hcm hgm
  have hnone : a = none → len = 0 ∧ c = 0 := fun h => ⟨none_len hr h, Hn.out h⟩
  have hnews : ∀ W : World, Below w.heap.size w W → ∀ ad, a = some ad → ∀ j u, ((List.range len).map (U f))[j]? = some u → W.cell? (ad.add j) = some u := news_of hr
  have Hnone : Hid (a = none → len = 0 ∧ c = 0) := hnone
  have Hnews : Hid (∀ W : World, Below w.heap.size w W → ∀ ad, a = some ad → ∀ j u, ((List.range len).map (U f))[j]? = some u → W.cell? (ad.add j) = some u) := hnews
  have H4 : Hid (w.ownsRow B 27 1 (.slice (some ⟨gm, 0, none⟩) em cm) em xs) := h4
  have H3 : Hid (w.ownsRow B 22 1 (.slice (some ⟨T, 0, none⟩) (m + 1) tc) (m + 1) ((List.range (m + 1)).map (S (fun k => some ⟨G k, 0, none⟩) E Cp))) := h3
  clear hnone hnews h4 h3 hr
  go_enter Try.func31, Try.ntmps31
  go_wp2
  go_quiet (fail)
  go_wp2_with (at_builtin; refine wpList_append_fits_any _ rfl _ _ 22 rfl B 27 i3 1 Try.underlying22 hi hz1 gm em cm xs rfl (World.ownsRow.alloc (w := (w.alloc _).drewN nq) (H4.out.alloc _) _) a len c ((List.range len).map (U f)) rfl (by simp) Hnone.out (Hnews.out _ (Below.alloc (w := (w.alloc _).drewN nq) (bdrewN ((Below.refl _ _).alloc (Nat.le_refl _) _) nq) (by simp [World.drewN]) _)) (words_one _ _) hfit ?_)
  intro W2 hown hgrow
  have hap : Apart B p w ((w.alloc (.cells #[.int .i32 0, .int .i32 0] 50)).drewN nq) := (Apart.of_below ((Below.refl B w).alloc hB _)).drewN nq
  obtain ⟨hk, hMy⟩ := tail_facts hgrow (by simp [World.drewN]; omega)
  rw [show ((w.alloc (.cells #[.int .i32 0, .int .i32 0] 50)).drewN nq).heap.size = w.heap.size + 1 by simp [World.drewN]] at hMy
  have hD := tail_done (w := w) (w3 := (w.alloc (.cells #[.int .i32 0, .int .i32 0] 50)).drewN nq) (N := w.heap.size) (v0 := .int .i32 (m : Int)) (v1 := .int .i32 (em : Int)) (E := E) (G := G) (Cp := Cp)
    ((World.cell?_alloc_lt w _ _ hpl).trans h1) ((World.frozen?_alloc_old w _ _ (by simp; omega)).trans h2) (H3.out.alloc _) hown hgrow h5 hGB (by simp [World.drewN]; omega) hp (by simp [World.drewN]; omega) hB (by omega) (by omega) hap HG.out HC.out
  have hMN : Mine W2 w.heap.size 2 (fun _ => .int .i32 0) := by
    have hh := hk w.heap.size (by simp [World.drewN]) (by omega)
    exact mine_of_heap (xs := [.int .i32 0, .int .i32 0]) (e := 50) (hh.trans (heap_alloc_at w _)) (fun j hj => by match j, hj with | 0, _ => rfl | 1, _ => rfl)
  have hMF := ((hMN.other ⟨T, m, none⟩ (by simp; omega) (.slice (some ⟨gm, 0, none⟩) (em + len) cm)).store 0 (by omega) (.int .i32 (m : Int))).store 1 (by omega) (.int .i32 (em : Int))
  have r0 := (hMF.2 0 (by omega)).1
  have r1 := (hMF.2 1 (by omega)).1
  simp only [if_true, show ¬ ((0 : Nat) = 1) by omega, if_false] at r0 r1
  have hhT := hk T (by simp [World.drewN]; omega) h5
  have cT : W2.cell? ⟨T, m, none⟩ = some (.slice (some ⟨gm, 0, none⟩) em cm) := by
    rw [World.cell?_of_block (a := ⟨T, m, none⟩) (hhT.trans (Below.heap_alloc w _ T hTl))]; exact hct
  have fT : W2.frozen? ⟨T, m, none⟩ = false := by
    rw [World.frozen?_of_block (a := ⟨T, m, none⟩) (hhT.trans (Below.heap_alloc w _ T hTl))]; exact hft
  have n0 := (hMN.2 0 (by omega)).1
  have n1 := (hMN.2 1 (by omega)).1
  have z0 := (hMN.2 0 (by omega)).2
  have z1 := (hMN.2 1 (by omega)).2
  have y0 := (hMy.2 0 (by omega)).1
  have y1 := (hMy.2 1 (by omega)).1
  simp only [if_true, show ¬ ((1 : Nat) = 0) by omega, if_false] at y0 y1
  have HD : Hid _ := hD
  clear hown hgrow hk hMy hap hD hMN hhT hMF
  go_wp2
  exact bodyPost_ret (v := .agg #[.int .i32 (m : Int), .int .i32 (em : Int)]) (by simp [results, Try.results31, go_sem, r0, r1]) rfl ⟨rfl, ⟨T, tc, G, Cp, HC.out, HD.out.1⟩, HD.out.2⟩
end Go.Proofs.Qxb6002656a.Ar
