/-
  THE PLAIN LAW: what 'newEnabled' computes, as functions on natural numbers, and what holds of it. No Go in sight.
-/
namespace Go.Proofs.Qxb6002656a.En

/-- how many of the first n are ≤ t -/
def cle (s : Nat → Nat) : Nat → Nat → Nat
  | 0, _ => 0
  | n + 1, t => cle s n t + if s n ≤ t then 1 else 0

/-- how many of the first n are t -/
def ceq (s : Nat → Nat) : Nat → Nat → Nat
  | 0, _ => 0
  | n + 1, t => ceq s n t + if s n = t then 1 else 0

/-- where operation i goes -/
def pos (s : Nat → Nat) (n i : Nat) : Nat := cle s n (s i - 1) + ceq s i (s i)

/-- what lies at place k when the first m have been laid -/
def srt (s : Nat → Nat) (o : Nat → Int) (n : Nat) : Nat → Nat → Int
  | 0, _ => 0
  | m + 1, k => if k = pos s n m then o m else srt s o n m k

theorem cle_succ (s : Nat → Nat) (n t : Nat) : cle s n (t + 1) = cle s n t + ceq s n (t + 1) := by
  induction n with
  | zero => rfl
  | succ n ih =>
    simp only [cle, ceq, ih]
    by_cases h : s n ≤ t
    · rw [if_pos (by omega), if_pos h, if_neg (by omega)]; omega
    · by_cases h2 : s n = t + 1
      · rw [if_pos (by omega), if_neg h, if_pos h2]; omega
      · rw [if_neg (by omega), if_neg h, if_neg h2]; omega

theorem ceq_zero (s : Nat → Nat) (n : Nat) : ceq s n 0 = cle s n 0 := by
  induction n with
  | zero => rfl
  | succ n ih =>
    simp only [cle, ceq, ih]
    by_cases h : s n = 0
    · rw [if_pos h, if_pos (by omega)]
    · rw [if_neg h, if_neg (by omega)]

theorem cle_pred (s : Nat → Nat) (n t : Nat) (h : 1 ≤ t) : cle s n t = cle s n (t - 1) + ceq s n t := by
  obtain ⟨u, rfl⟩ : ∃ u, t = u + 1 := ⟨t - 1, by omega⟩
  simpa using cle_succ s n u

theorem cle_le (s : Nat → Nat) (n t : Nat) : cle s n t ≤ n := by
  induction n with
  | zero => exact Nat.le_refl _
  | succ n ih => simp only [cle]; split <;> omega

theorem cle_mono (s : Nat → Nat) (n t u : Nat) (h : t ≤ u) : cle s n t ≤ cle s n u := by
  induction n with
  | zero => exact Nat.le_refl _
  | succ n ih =>
    simp only [cle]
    by_cases h1 : s n ≤ t
    · rw [if_pos h1, if_pos (by omega)]; omega
    · rw [if_neg h1]; omega

theorem cle_all (s : Nat → Nat) (n t : Nat) (h : ∀ i, i < n → s i ≤ t) : cle s n t = n := by
  induction n with
  | zero => rfl
  | succ n ih => simp only [cle]; rw [ih (fun i hi => h i (by omega)), if_pos (h n (by omega))]

theorem cle_none (s : Nat → Nat) (n t : Nat) (h : ∀ i, i < n → t < s i) : cle s n t = 0 := by
  induction n with
  | zero => rfl
  | succ n ih => simp only [cle]; rw [ih (fun i hi => h i (by omega)), if_neg (by have := h n (by omega); omega)]

theorem ceq_mono (s : Nat → Nat) (i n t : Nat) (h : i ≤ n) : ceq s i t ≤ ceq s n t := by
  induction n with
  | zero => rw [Nat.le_zero.1 h]; exact Nat.le_refl _
  | succ n ih =>
    by_cases e : i = n + 1
    · subst e; exact Nat.le_refl _
    · have := ih (by omega)
      simp only [ceq]; omega

theorem ceq_lt (s : Nat → Nat) (i n : Nat) (h : i < n) : ceq s i (s i) < ceq s n (s i) := by
  have h1 : ceq s (i + 1) (s i) = ceq s i (s i) + 1 := by simp [ceq]
  have h2 := ceq_mono s (i + 1) n (s i) h
  omega

theorem pos_lt (s : Nat → Nat) (n i : Nat) (h : i < n) (h1 : 1 ≤ s i) : pos s n i < cle s n (s i) := by
  have := ceq_lt s i n h
  have e := cle_pred s n (s i) h1
  unfold pos; omega

theorem pos_lt_n (s : Nat → Nat) (n i : Nat) (h : i < n) (h1 : 1 ≤ s i) : pos s n i < n :=
  Nat.lt_of_lt_of_le (pos_lt s n i h h1) (cle_le _ _ _)

theorem pos_ge (s : Nat → Nat) (n i : Nat) : cle s n (s i - 1) ≤ pos s n i := Nat.le_add_right _ _

theorem pos_ne (s : Nat → Nat) (n i j : Nat) (hij : i < j) (hj : j < n) (hs : ∀ i, i < n → 1 ≤ s i) : pos s n i ≠ pos s n j := by
  have hi1 := hs i (by omega)
  have hj1 := hs j hj
  rcases Nat.lt_trichotomy (s i) (s j) with h | h | h
  · have h1 := pos_lt s n i (by omega) hi1
    have h2 := pos_ge s n j
    have h3 := cle_mono s n (s i) (s j - 1) (by omega)
    omega
  · have h1 := ceq_lt s i j hij
    unfold pos
    rw [← h]
    omega
  · have h1 := pos_lt s n j hj hj1
    have h2 := pos_ge s n i
    have h3 := cle_mono s n (s j) (s i - 1) (by omega)
    omega

/-- operation i lies at its place, once laid -/
theorem srt_pos (s : Nat → Nat) (o : Nat → Int) (n m i : Nat) (hi : i < m) (hm : m ≤ n) (hs : ∀ i, i < n → 1 ≤ s i) : srt s o n m (pos s n i) = o i := by
  induction m with
  | zero => omega
  | succ m ih =>
    simp only [srt]
    by_cases e : i = m
    · subst e; rw [if_pos rfl]
    · rw [if_neg (pos_ne s n i m (by omega) (by omega) hs)]
      exact ih (by omega) (by omega)

/-! one more at the end -/
def snoc {α : Type} (f : Nat → α) (n : Nat) (x : α) : Nat → α := fun i => if i < n then f i else x

theorem cle_congr (s r : Nat → Nat) (n t : Nat) (h : ∀ i, i < n → s i = r i) : cle s n t = cle r n t := by
  induction n with
  | zero => rfl
  | succ n ih => simp only [cle]; rw [ih (fun i hi => h i (by omega)), h n (by omega)]

theorem ceq_congr (s r : Nat → Nat) (n t : Nat) (h : ∀ i, i < n → s i = r i) : ceq s n t = ceq r n t := by
  induction n with
  | zero => rfl
  | succ n ih => simp only [ceq]; rw [ih (fun i hi => h i (by omega)), h n (by omega)]

theorem cle_snoc (s : Nat → Nat) (n t u : Nat) : cle (snoc s n t) (n + 1) u = cle s n u + if t ≤ u then 1 else 0 := by
  simp only [cle]
  rw [cle_congr (snoc s n t) s n u (fun i hi => by simp [snoc, hi])]
  simp [snoc]

theorem pos_snoc_last (s : Nat → Nat) (n t : Nat) (ht : 1 ≤ t) : pos (snoc s n t) (n + 1) n = cle s n t := by
  unfold pos
  have e : snoc s n t n = t := by simp [snoc]
  rw [e, cle_snoc, if_neg (by omega), ceq_congr (snoc s n t) s n t (fun i hi => by simp [snoc, hi]), cle_pred s n t ht]
  omega

theorem pos_snoc (s : Nat → Nat) (n t i : Nat) (hi : i < n) (h1 : 1 ≤ s i) : pos (snoc s n t) (n + 1) i = pos s n i + if t < s i then 1 else 0 := by
  unfold pos
  have e : snoc s n t i = s i := by simp [snoc, hi]
  rw [e, cle_snoc, ceq_congr (snoc s n t) s i (s i) (fun j hj => by simp [snoc, show j < n by omega])]
  by_cases h : t < s i
  · rw [if_pos h, if_pos (by omega)]; omega
  · rw [if_neg h, if_neg (by omega)]; omega

/-- below block t's end the two tables are one; from there on the second is the first, one place on -/
theorem srt_snoc (s : Nat → Nat) (o : Nat → Int) (n t : Nat) (x : Int) (ht : 1 ≤ t) (hs : ∀ i, i < n → 1 ≤ s i) (m : Nat) (hm : m ≤ n) (k : Nat) :
    (k < cle s n t → srt (snoc s n t) (snoc o n x) (n + 1) m k = srt s o n m k) ∧ (cle s n t ≤ k → srt (snoc s n t) (snoc o n x) (n + 1) m (k + 1) = srt s o n m k) := by
  induction m with
  | zero => exact ⟨fun _ => rfl, fun _ => rfl⟩
  | succ m ih =>
    have ih := ih (by omega)
    have hp := pos_snoc s n t m (by omega) (hs m (by omega))
    have eo : snoc o n x m = o m := by simp [snoc, show m < n by omega]
    simp only [srt, eo, hp]
    by_cases h : t < s m
    · have h1 := pos_ge s n m
      have h2 := cle_mono s n t (s m - 1) (by omega)
      rw [if_pos h]
      refine ⟨fun hk => ?_, fun hk => ?_⟩
      · rw [if_neg (by omega), if_neg (by omega)]; exact ih.1 hk
      · by_cases e : k = pos s n m
        · rw [if_pos (by omega), if_pos e]
        · rw [if_neg (by omega), if_neg e]; exact ih.2 hk
    · have h1 := pos_lt s n m (by omega) (hs m (by omega))
      have h2 := cle_mono s n (s m) t (by omega)
      rw [if_neg h]
      refine ⟨fun hk => ?_, fun hk => ?_⟩
      · by_cases e : k = pos s n m
        · rw [if_pos (by omega), if_pos e]
        · rw [if_neg (by omega), if_neg e]; exact ih.1 hk
      · rw [if_neg (by omega), if_neg (by omega)]; exact ih.2 hk

theorem srt_snoc_full (s : Nat → Nat) (o : Nat → Int) (n t : Nat) (x : Int) (ht : 1 ≤ t) (hs : ∀ i, i < n → 1 ≤ s i) :
    (∀ k, k < cle s n t → srt (snoc s n t) (snoc o n x) (n + 1) (n + 1) k = srt s o n n k) ∧
    srt (snoc s n t) (snoc o n x) (n + 1) (n + 1) (cle s n t) = x ∧
    (∀ k, cle s n t ≤ k → srt (snoc s n t) (snoc o n x) (n + 1) (n + 1) (k + 1) = srt s o n n k) := by
  have hl := pos_snoc_last s n t ht
  have eo : snoc o n x n = x := by simp [snoc]
  refine ⟨fun k hk => ?_, ?_, fun k hk => ?_⟩
  · rw [srt, hl, if_neg (by omega)]; exact (srt_snoc s o n t x ht hs n (Nat.le_refl _) k).1 hk
  · rw [srt, hl, if_pos rfl, eo]
  · rw [srt, hl, if_neg (by omega)]; exact (srt_snoc s o n t x ht hs n (Nat.le_refl _) k).2 hk
end Go.Proofs.Qxb6002656a.En
