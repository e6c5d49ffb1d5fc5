import Derived.Test.Qxb6002656aWalkC
namespace Go.Proofs.Qxb6002656a.En
open Go.RowKit

def ShPost (w : World) (e : Ending) (w' : World) : Prop := e = .returned (.bool true) ∧ ∃ q, w' = w.drewN q

set_option maxHeartbeats 800000 in
theorem shape_any (g1 g2 n most : Nat) (NN MM : Int) (hN : NN = (n : Int)) (hM : MM = (most : Int)) (s : Nat → Nat) (w : World) (m2 : Mine w g2 (most + 1) (N (cle s n))) (hm : most ≤ 257) (hs1 : ∀ i, i < n → 1 ≤ s i) (hs2 : ∀ i, i < n → s i ≤ most) :
    Calls Try.prog 27 #[.slice (some ⟨g1, 0, none⟩) n n, .slice (some ⟨g2, 0, none⟩) ((most + 1 : Nat) : Nat) ((most + 1 : Nat) : Nat), .int .i64 NN, .int .i64 MM] w (ShPost w) := by
  subst hN; subst hM
  have e0 := (m2.2 0 (by omega)).1
  have em := (m2.2 most (by omega)).1
  simp only [N] at e0 em
  rw [cle_none s n 0 (fun i hi => by have := hs1 i hi; omega)] at e0
  rw [cle_all s n most hs2] at em
  simp only [Int.natCast_zero] at e0
  clear hs1 hs2
  go_enter Try.func27, Try.ntmps27
  go_wp2
  go_loopw [9] (fun i wq => ∃ u : Nat, u ≤ most ∧ i = .int .i64 ((u : Int) + 1) ∧ ∃ q, wq = w.drewN q) (fun i _ => most + 1 - (intOf i).toNat)
  case atStart => exact ⟨0, Nat.zero_le _, rfl, 0, rfl⟩
  case round =>
    obtain ⟨u, hu, rfl, q, rfl⟩ := hrel
    clear e0 em
    by_cases hlt : u < most
    · have e1 := (m2.2 u (by omega)).1
      have e2 := (m2.2 (u + 1) (by omega)).1
      have hle := cle_mono s n u (u + 1) (by omega)
      simp only [N] at e1 e2
      generalize cle s n u = A at e1 hle
      generalize cle s n (u + 1) = B at e2 hle
      go_wp2
      go_quiet (fail)
      go_wp2
      go_roundw
      case rel => exact ⟨u + 1, by omega, by go_num, _, rfl⟩
      case measure => simp [intOf]; omega
    · go_wp2
      go_ret
      exact ⟨rfl, q, rfl⟩
end Go.Proofs.Qxb6002656a.En
