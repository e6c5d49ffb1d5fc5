import Derived.Test.Qxb6002656aArD
namespace Go.Proofs.Qxb6002656a.Ar
open Go.RowKit En

/-- The arena in block p, in state s. -/
def Ars (w : World) (B p : Nat) (s : AS) : Prop :=
  (s.nc = 0 ∧ w.cell? ⟨p, 0, none⟩ = some (.slice none 0 0) ∧ w.frozen? ⟨p, 0, none⟩ = false) ∨
  ∃ m T tc G Cp, s.nc = m + 1 ∧ Cp m = s.cp ∧ Ar1 w B p m T tc G s.E Cp

theorem Ars.of_post {w' : World} {B p : Nat} {s : AS} {len : Nat} (h : ∃ T tc G Cp, Cp (chk s len) = cap' s len ∧ Ar1 w' B p (chk s len) T tc G (stp s len).E Cp) : Ars w' B p (stp s len) := by
  obtain ⟨T, tc, G, Cp, h1, h2⟩ := h
  exact .inr ⟨chk s len, T, tc, G, Cp, rfl, h1, h2⟩

theorem keep_any (B p : Nat) (s : AS) (a : Option Addr) (len c : Nat) (f : Nat → Int) (w : World) (hA : Ars w B p s) (hp : p < B) (hB : B ≤ w.heap.size) (hr : Rd w a len (U f)) (hn : a = none → c = 0)
    (hm : s.nc ≤ 4096) (hcp : s.cp ≤ 131072) (hle : 0 < s.nc → s.E (s.nc - 1) ≤ s.cp) (hlen : len ≤ 131072) (hab : ∀ y, a = some y → y.block < p) :
    Calls Try.prog 31 #[.pointer (some ⟨p, 0, none⟩), .slice a len c] w (KPost B p (chk s len) (att s len) (stp s len).E (cap' s len) w) := by
  rcases hA with ⟨h0, h1, h2⟩ | ⟨m, T, tc, G, Cp, hnc, hC, hA⟩
  · have hf : fits s len = false := by simp [fits, h0]
    have e1 : chk s len = 0 := by simp [chk, hf, h0]
    have e2 : att s len = 0 := by simp [att, hf]
    have e3 : cap' s len = max 256 len := by simp [cap', hf, room, h0]
    have e4 : (stp s len).E = upd s.E 0 len := by simp [stp, e1, e2]
    rw [e1, e2, e3, e4]
    exact keep_first B p (fun _ => 0) s.E (fun _ => 0) a len c f w h1 h2 hp hB hr hn hlen hab
  · have hle' := hle (by omega)
    rw [hnc, Nat.add_sub_cancel] at hle'
    cases hf : fits s len with
    | true =>
      have hf' := (fits_iff s len).1 hf
      rw [hnc, Nat.add_sub_cancel] at hf'
      have e1 : chk s len = m := by simp [chk, hf, hnc]
      have e2 : att s len = s.E m := by simp [att, hf, hnc]
      have e3 : cap' s len = Cp m := by simp [cap', hf, hC]
      have e4 : (stp s len).E = upd s.E m (s.E m + len) := by simp [stp, e1, e2]
      rw [e1, e2, e3, e4]
      exact keep_fits B p m T tc G s.E Cp a len c f w hA hp hB hr hn (by omega) (by omega) (by omega)
    | false =>
      have hf' := (fits_not s len).1 hf
      rw [hnc, Nat.add_sub_cancel] at hf'
      have e1 : chk s len = m + 1 := by simp [chk, hf, hnc]
      have e2 : att s len = 0 := by simp [att, hf]
      have e3 : cap' s len = max (min (2 * Cp m) 131072) len := by simp [cap', hf, room, hnc, hC]
      have e4 : (stp s len).E = upd s.E (m + 1) len := by simp [stp, e1, e2]
      rw [e1, e2, e3, e4]
      exact keep_new B p m T tc G s.E Cp a len c f w hA hp hB hr hn (by omega) (by omega) (by omega) hlen (by omega) hab

def ZPost (B p : Nat) (s : AS) (len : Nat) (w : World) (e : Ending) (w' : World) : Prop :=
  e = .returned (.tuple #[.int .i32 (chk s len : Nat), .int .i32 (att s len : Nat)]) ∧ Ars w' B p (stp s len) ∧ Apart B p w w'

theorem Ar1.below {w w' : World} {B p m T tc : Nat} {G E Cp : Nat → Nat} (h : Ar1 w B p m T tc G E Cp) (hb : Below w.heap.size w w') (hp : p < w.heap.size) : Ar1 w' B p m T tc G E Cp := by
  obtain ⟨h1, h2, h3, ⟨xs, h4⟩, h5⟩ := h
  exact ⟨by rw [hb.cell (p := ⟨p, 0, none⟩) hp]; exact h1, by rw [hb.frozen (p := ⟨p, 0, none⟩) hp]; exact h2, own_same h3 (hb.block _ (own_base h3).2), ⟨xs, own_same h4 (hb.block _ (own_base h4).2)⟩, h5⟩

theorem Ars.below {w w' : World} {B p : Nat} {s : AS} (h : Ars w B p s) (hb : Below w.heap.size w w') (hp : p < w.heap.size) : Ars w' B p s := by
  rcases h with ⟨h0, h1, h2⟩ | ⟨m, T, tc, G, Cp, hnc, hC, hA⟩
  · exact .inl ⟨h0, by rw [hb.cell (p := ⟨p, 0, none⟩) hp]; exact h1, by rw [hb.frozen (p := ⟨p, 0, none⟩) hp]; exact h2⟩
  · exact .inr ⟨m, T, tc, G, Cp, hnc, hC, hA.below hb hp⟩

set_option maxHeartbeats 1000000 in
theorem zkeep_any (B p : Nat) (s : AS) (a : Option Addr) (len c : Nat) (f : Nat → Int) (w : World) (hA : Ars w B p s) (hp : p < B) (hB : B ≤ w.heap.size) (hr : Rd w a len (U f)) (hn : a = none → c = 0)
    (hm : s.nc ≤ 4096) (hcp : s.cp ≤ 131072) (hle : 0 < s.nc → s.E (s.nc - 1) ≤ s.cp) (hlen : len ≤ 131072) (hab : ∀ y, a = some y → y.block < p) :
    Calls Try.prog 20 #[.pointer (some ⟨p, 0, none⟩), .slice a len c] w (ZPost B p s len w) := by
  have HH : Hid (Calls Try.prog 31 #[.pointer (some ⟨p, 0, none⟩), .slice a len c] w (KPost B p (chk s len) (att s len) (stp s len).E (cap' s len) w)) := keep_any B p s a len c f w hA hp hB hr hn hm hcp hle hlen hab
  clear hA hr hn hm hcp hle hlen hab
  go_enter Try.func20, Try.ntmps20
  go_wp2_with fail
  refine HH.out.mono ?_
  rintro e w1 ⟨rfl, hA1, hap⟩
  have hA2 := (Ars.of_post hA1).below ((Below.refl w1.heap.size w1).alloc (Nat.le_refl _) (.cells #[.int .i32 (chk s len : Nat), .int .i32 (att s len : Nat)] 50)) (by have := hap.size; omega)
  have hap2 : Apart B p w (w1.alloc (.cells #[.int .i32 (chk s len : Nat), .int .i32 (att s len : Nat)] 50)) := hap.trans (Apart.of_below ((Below.refl B w1).alloc (by have := hap.size; omega) _))
  clear hA1 hap HH
  generalize hc1 : chk s len = c1 at *
  generalize hc2 : att s len = c2 at *
  have H1 : Hid (chk s len = c1) := hc1
  have H2 : Hid (att s len = c2) := hc2
  clear hc1 hc2
  go_wp2
  go_quiet (fail)
  go_wp2
  go_ret2
  exact ⟨by rw [H1.out, H2.out]; rfl, hA2, hap2.drewN _⟩
end Go.Proofs.Qxb6002656a.Ar
