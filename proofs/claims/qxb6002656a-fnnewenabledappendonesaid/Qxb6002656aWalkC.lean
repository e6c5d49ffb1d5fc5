import Derived.Test.Qxb6002656aWalkB
namespace Go.Proofs.Qxb6002656a.En
open Go.RowKit

def ZZPost (n most : Nat) (s : Nat → Nat) (o : Nat → Int) (w : World) (e : Ending) (w' : World) : Prop :=
  ∃ g1 g2, e = .returned (.tuple #[.slice (some ⟨g1, 0, none⟩) n n, .slice (some ⟨g2, 0, none⟩) ((most + 1 : Nat) : Nat) ((most + 1 : Nat) : Nat)]) ∧
    Mine w' g1 n (I (srt s o n n)) ∧ Mine w' g2 (most + 1) (N (cle s n)) ∧ Below w.heap.size w w'

set_option maxHeartbeats 1000000 in
theorem zzNew_any (a0 a1 : Option Addr) (n c0 c1 most : Nat) (s : Nat → Nat) (o : Nat → Int) (w : World) (hr0 : Rd w a0 n (I o)) (hr1 : Rd w a1 n (N s)) (hn : n ≤ 4097) (hm : most ≤ 257) (hs1 : ∀ i, i < n → 1 ≤ s i) (hs2 : ∀ i, i < n → s i ≤ most) :
    Calls Try.prog 26 #[.slice a0 n c0, .slice a1 n c1, .int .i64 most] w (ZZPost n most s o w) := by
  have H := newEn_any a0 a1 n c0 c1 most s o w hr0 hr1 hn hm hs1 hs2
  have HH : Hid (Calls Try.prog 32 #[.slice a0 n c0, .slice a1 n c1, .int .i64 most] w (OutPost n most s o w)) := H
  clear H hs1 hs2
  go_enter Try.func26, Try.ntmps26
  go_wp2_with fail
  refine HH.out.mono ?_
  rintro e w1 ⟨g1, g2, rfl, m1, m2, hb⟩
  have z1 := m1.below ((Below.refl w1.heap.size w1).alloc (Nat.le_refl _) (.cells #[.slice (some ⟨g1, 0, none⟩) n n, .slice (some ⟨g2, 0, none⟩) (most + 1) (most + 1)] 53)) m1.1
  have z2 := m2.below ((Below.refl w1.heap.size w1).alloc (Nat.le_refl _) (.cells #[.slice (some ⟨g1, 0, none⟩) n n, .slice (some ⟨g2, 0, none⟩) (most + 1) (most + 1)] 53)) m2.1
  have z3 := hb.alloc hb.size (.cells #[.slice (some ⟨g1, 0, none⟩) n n, .slice (some ⟨g2, 0, none⟩) (most + 1) (most + 1)] 53)
  clear m1 m2 hb hr0 hr1 HH
  go_wp2
  go_quiet (fail)
  go_wp2
  go_ret2
  exact ⟨g1, g2, rfl, z1, z2, bdrewN z3 _⟩

theorem zzNew (a0 a1 : Option Addr) (n c0 c1 most : Nat) (M : Int) (hM : M = (most : Int)) (s : Nat → Nat) (o : Nat → Int) (w : World) (hr0 : Rd w a0 n (I o)) (hr1 : Rd w a1 n (N s)) (hn : n ≤ 4097) (hm : most ≤ 257) (hs1 : ∀ i, i < n → 1 ≤ s i) (hs2 : ∀ i, i < n → s i ≤ most) :
    Calls Try.prog 26 #[.slice a0 n c0, .slice a1 n c1, .int .i64 M] w (ZZPost n most s o w) := by
  subst hM
  exact zzNew_any a0 a1 n c0 c1 most s o w hr0 hr1 hn hm hs1 hs2

/-- From what 'b1EnabledInput' grants to natural numbers. -/
theorem fit_nat {n most : Nat} {s : Nat → Int} (h : Fit n s most) : (∀ i, i < n → s i = ((s i).toNat : Int)) ∧ (∀ i, i < n → 1 ≤ (s i).toNat) ∧ (∀ i, i < n → (s i).toNat ≤ most) :=
  ⟨fun i hi => by have := h i hi; omega, fun i hi => by have := h i hi; omega, fun i hi => by have := h i hi; omega⟩

theorem lt_of_cell {w : World} {p : Addr} {v : Value} (h : w.cell? p = some v) : p.block < w.heap.size := by
  rcases Nat.lt_or_ge p.block w.heap.size with h' | h'
  · exact h'
  · have : w.heap[p.block]? = none := by simpa using h'
    simp [World.cell?, this] at h

theorem rd_of_row {w : World} {a : Option Addr} {len cap : Nat} {zs : List Int}
    (h : (a = none ∧ len = 0 ∧ cap = 0 ∧ zs = []) ∨ ∃ x, a = some x ∧ len ≤ cap ∧ cap ≤ maxLen ∧ zs.length = cap ∧ (∀ i, i < zs.length → w.cell? (x.add i) = some (.int .i64 (zs.getD i 0))) ∧ ∀ n ∈ zs, (Lit.int .i64 n).wf = true) :
    Rd w a len (I (fun i => zs.getD i 0)) ∧ len ≤ 9223372036854775807 := by
  rcases h with ⟨rfl, rfl, rfl, rfl⟩ | ⟨x, rfl, hl, hm, hz, hc, _⟩
  · exact ⟨fun i hi => absurd hi (Nat.not_lt_zero _), by omega⟩
  · refine ⟨fun i hi => ?_, by unfold maxLen at hm; omega⟩
    have h0 := hc i (by omega)
    obtain ⟨b, off, spot⟩ := x
    have hs : spot = none := by simpa [Addr.add] using World.cell?_spot (hc 0 (by omega))
    subst hs
    have e : (Addr.add ⟨b, off, none⟩ i) = ⟨b, off + i, none⟩ := by rw [Addr.add_lit]
    rw [e] at h0
    exact ⟨b, off, rfl, lt_of_cell h0, h0⟩
end Go.Proofs.Qxb6002656a.En
