/-
  THE PLAIN LAW of the arena: what a run of 'keep' does to the lengths and the last capacity, and what holds of the places. No Go in sight.
-/
namespace Go.Proofs.Qxb6002656a.Ar

/-- 'nc' chunks; chunk k is 'E k' long; the last has room for 'cp'. -/
structure AS where
  nc : Nat
  E : Nat → Nat
  cp : Nat

def upd (f : Nat → Nat) (k v : Nat) : Nat → Nat := fun j => if j = k then v else f j

theorem upd_same (f : Nat → Nat) (k v : Nat) : upd f k v k = v := by simp [upd]
theorem upd_other (f : Nat → Nat) (k v j : Nat) (h : j ≠ k) : upd f k v j = f j := by simp [upd, h]

/-- Does a list of l words go behind the last? -/
def fits (s : AS) (l : Nat) : Bool := decide (0 < s.nc) && decide (s.E (s.nc - 1) + l ≤ s.cp)

def chk (s : AS) (l : Nat) : Nat := if fits s l then s.nc - 1 else s.nc
def att (s : AS) (l : Nat) : Nat := if fits s l then s.E (s.nc - 1) else 0
def room (s : AS) : Nat := if s.nc = 0 then 256 else min (2 * s.cp) 131072
def cap' (s : AS) (l : Nat) : Nat := if fits s l then s.cp else max (room s) l
def stp (s : AS) (l : Nat) : AS := ⟨chk s l + 1, upd s.E (chk s l) (att s l + l), cap' s l⟩

def st (L : Nat → Nat) : Nat → AS
  | 0 => ⟨0, fun _ => 0, 0⟩
  | i + 1 => stp (st L i) (L i)

/-- the words of the first i lists -/
def tot (L : Nat → Nat) : Nat → Nat
  | 0 => 0
  | i + 1 => tot L i + L i

/-- chunk and place of list i -/
def ch (L : Nat → Nat) (i : Nat) : Nat := chk (st L i) (L i)
def pl (L : Nat → Nat) (i : Nat) : Nat := att (st L i) (L i)

theorem st_nc (L : Nat → Nat) (i : Nat) : (st L (i + 1)).nc = ch L i + 1 := rfl
theorem st_E (L : Nat → Nat) (i : Nat) : (st L (i + 1)).E = upd (st L i).E (ch L i) (pl L i + L i) := rfl
theorem st_last (L : Nat → Nat) (i : Nat) : (st L (i + 1)).E (ch L i) = pl L i + L i := by rw [st_E, upd_same]

theorem fits_iff (s : AS) (l : Nat) : fits s l = true ↔ 0 < s.nc ∧ s.E (s.nc - 1) + l ≤ s.cp := by simp [fits]
theorem fits_not (s : AS) (l : Nat) : fits s l = false ↔ ¬ (0 < s.nc ∧ s.E (s.nc - 1) + l ≤ s.cp) := by
  rw [← fits_iff]; cases fits s l <;> simp

theorem tot_mono (L : Nat → Nat) (i j : Nat) (h : i ≤ j) : tot L i ≤ tot L j := by
  induction j with
  | zero => rw [Nat.le_zero.1 h]; exact Nat.le_refl _
  | succ j ih =>
    by_cases e : i = j + 1
    · subst e; exact Nat.le_refl _
    · have := ih (by omega); simp only [tot]; omega

theorem le_tot (L : Nat → Nat) (i n : Nat) (h : i < n) : L i ≤ tot L n := by
  have := tot_mono L (i + 1) n h
  simp only [tot] at this; omega

/-- What holds after every keep. -/
theorem inv (L : Nat → Nat) (i : Nat) (hL : ∀ j, j < i → L j ≤ 131072) :
    (st L i).nc ≤ i ∧ (0 < i → 0 < (st L i).nc) ∧ (st L i).cp ≤ 131072 ∧ (∀ k, (st L i).E k ≤ 131072) ∧ (0 < (st L i).nc → (st L i).E ((st L i).nc - 1) ≤ (st L i).cp) ∧
    ((st L i).nc = 1 → 256 ≤ (st L i).cp ∧ (st L i).E 0 = tot L i) ∧ (tot L i ≤ 256 → (st L i).nc ≤ 1) := by
  induction i with
  | zero => simp [st, tot]
  | succ i ih =>
    obtain ⟨h1, h2, h3, h4, h5, h6, h7⟩ := ih (fun j hj => hL j (by omega))
    have hl := hL i (by omega)
    have hc : ch L i = (if fits (st L i) (L i) then (st L i).nc - 1 else (st L i).nc) := rfl
    have hp : pl L i = (if fits (st L i) (L i) then (st L i).E ((st L i).nc - 1) else 0) := rfl
    have hcp : (st L (i + 1)).cp = (if fits (st L i) (L i) then (st L i).cp else max (room (st L i)) (L i)) := rfl
    rw [st_nc, st_E, hcp]
    by_cases hf : fits (st L i) (L i) = true
    · obtain ⟨f1, f2⟩ := (fits_iff _ _).1 hf
      rw [hf, if_pos rfl] at hc hp
      rw [hf, if_pos rfl]
      refine ⟨by omega, fun _ => by omega, h3, fun k => ?_, fun _ => ?_, fun h => ?_, fun h => ?_⟩
      · by_cases e : k = ch L i
        · rw [e, upd_same]; omega
        · rw [upd_other _ _ _ _ e]; exact h4 k
      · rw [Nat.add_sub_cancel, upd_same]; omega
      · have e1 : (st L i).nc = 1 := by omega
        have e0 : ch L i = 0 := by omega
        obtain ⟨g1, g2⟩ := h6 e1
        refine ⟨g1, ?_⟩
        rw [e0, upd_same, hp, e1]
        simp only [tot, Nat.sub_self]; omega
      · have := h7 (by simp only [tot] at h; omega)
        omega
    · have hf' : fits (st L i) (L i) = false := by simpa using hf
      have hn := (fits_not _ _).1 hf'
      rw [hf'] at hc hp
      simp only [Bool.false_eq_true, if_false] at hc hp
      rw [hf']
      simp only [Bool.false_eq_true, if_false]
      have hr : room (st L i) ≤ 131072 := by unfold room; split <;> omega
      refine ⟨by omega, fun _ => by omega, by omega, fun k => ?_, fun _ => ?_, fun h => ?_, fun h => ?_⟩
      · by_cases e : k = ch L i
        · rw [e, upd_same]; omega
        · rw [upd_other _ _ _ _ e]; exact h4 k
      · rw [Nat.add_sub_cancel, upd_same]; omega
      · have e0 : (st L i).nc = 0 := by omega
        have ei : i = 0 := by
          rcases Nat.eq_zero_or_pos i with h' | h'
          · exact h'
          · have := h2 h'; omega
        have er : room (st L i) = 256 := by unfold room; rw [if_pos e0]
        refine ⟨by omega, ?_⟩
        rw [hc, e0, upd_same, hp, ei]
        simp [tot]
      · simp only [tot] at h
        have h7' := h7 (by omega)
        rcases Nat.eq_zero_or_pos (st L i).nc with e0 | e0
        · omega
        · exfalso
          have e1 : (st L i).nc = 1 := by omega
          obtain ⟨g1, g2⟩ := h6 e1
          apply hn
          refine ⟨e0, ?_⟩
          rw [e1, Nat.sub_self, g2]; omega

/-- list i goes right behind the one before, or to the start of the next chunk -/
theorem step_fits (L : Nat → Nat) (i : Nat) (h : fits (st L (i + 1)) (L (i + 1)) = true) : ch L (i + 1) = ch L i ∧ pl L (i + 1) = pl L i + L i := by
  unfold ch pl chk att
  rw [h]
  simp only [if_true]
  refine ⟨by rw [st_nc]; rfl, ?_⟩
  have := st_last L i
  rw [st_nc, Nat.add_sub_cancel, this]
  rfl

theorem step_new (L : Nat → Nat) (i : Nat) (h : fits (st L (i + 1)) (L (i + 1)) = false) : ch L (i + 1) = ch L i + 1 ∧ pl L (i + 1) = 0 := by
  unfold pl att
  refine ⟨?_, by rw [h]; simp⟩
  show chk (st L (i + 1)) (L (i + 1)) = _
  unfold chk
  rw [h]
  simp only [Bool.false_eq_true, if_false]
  exact st_nc L i

theorem step_new_pos (L : Nat → Nat) (i : Nat) (hL : ∀ j, j < i + 1 → L j ≤ 131072) (h : fits (st L (i + 1)) (L (i + 1)) = false) : 0 < L (i + 1) := by
  rcases Nat.eq_zero_or_pos (L (i + 1)) with e | e
  · exfalso
    obtain ⟨_, h2, _, _, h5, _⟩ := inv L (i + 1) hL
    apply (fits_not _ _).1 h
    have := h2 (by omega)
    exact ⟨this, by rw [e]; exact h5 this⟩
  · exact e

theorem ch_zero (L : Nat → Nat) : ch L 0 = 0 ∧ pl L 0 = 0 := by
  constructor <;> simp [ch, pl, chk, att, fits, st]

theorem ch_small (L : Nat → Nat) (i : Nat) (hL : ∀ j, j < i + 1 → L j ≤ 131072) (h : tot L (i + 1) ≤ 256) : ch L i = 0 := by
  obtain ⟨_, _, _, _, _, _, h7⟩ := inv L (i + 1) hL
  have := h7 h
  rw [st_nc] at this
  omega

theorem ch_lt (L : Nat → Nat) (i j : Nat) (h : i ≤ j) : ch L i ≤ ch L j := by
  induction j with
  | zero => rw [Nat.le_zero.1 h]; exact Nat.le_refl _
  | succ j ih =>
    by_cases e : i = j + 1
    · subst e; exact Nat.le_refl _
    · have := ih (by omega)
      cases hf : fits (st L (j + 1)) (L (j + 1)) with
      | true => have := (step_fits L j hf).1; omega
      | false => have := (step_new L j hf).1; omega

theorem ch_le (L : Nat → Nat) (i : Nat) : ch L i ≤ i := by
  induction i with
  | zero => rw [(ch_zero L).1]; exact Nat.le_refl _
  | succ i ih =>
    cases hf : fits (st L (i + 1)) (L (i + 1)) with
    | true => have := (step_fits L i hf).1; omega
    | false => have := (step_new L i hf).1; omega

theorem pl_le (L : Nat → Nat) (i : Nat) (hL : ∀ j, j < i → L j ≤ 131072) : pl L i ≤ 131072 := by
  obtain ⟨_, _, _, h4, _⟩ := inv L i hL
  unfold pl att
  split
  · exact h4 _
  · omega
end Go.Proofs.Qxb6002656a.Ar
