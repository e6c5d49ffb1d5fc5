import Derived.Test.Qxb6002656aKit
import Derived.Test.Qxb6002656aArPlain
namespace Go.Proofs.Qxb6002656a.Ar
open Go.RowKit En

theorem info27 : (Try.prog.info? 27).map (fun i => (i.zero, i.size, i.bytes)) = some (some (.int .u64 0), 1, 8) := by kernel_rfl
theorem size27 : (Try.prog.info? 27).map (·.size) = some 1 := by kernel_rfl
theorem info22 : (Try.prog.info? 22).map (fun i => (i.zero, i.size, i.bytes)) = some (some (.slice none 0 0), 1, 24) := by kernel_rfl

/-- The value of a word. -/
abbrev U (f : Nat → Int) : Nat → Value := fun i => .int .u64 (f i)
/-- The value of a list of words. -/
abbrev S (A : Nat → Option Addr) (L C : Nat → Nat) : Nat → Value := fun r => .slice (A r) (L r) (C r)

/-- What is read of a script. -/
def Grid (w : World) (a : Option Addr) (n : Nat) (A : Nat → Option Addr) (L C : Nat → Nat) (F : Nat → Nat → Int) : Prop :=
  Rd w a n (S A L C) ∧ ∀ r, r < n → (A r = none → C r = 0) ∧ Rd w (A r) (L r) (U (F r))

theorem Grid.below {B : Nat} {w w' : World} {a : Option Addr} {n : Nat} {A : Nat → Option Addr} {L C : Nat → Nat} {F : Nat → Nat → Int} (h : Grid w a n A L C F) (hb : Below B w w') (hB : w.heap.size ≤ B) : Grid w' a n A L C F :=
  ⟨h.1.below hb hB, fun r hr => ⟨(h.2 r hr).1, (h.2 r hr).2.below hb hB⟩⟩

def BPost (w : World) (e : Ending) (w' : World) : Prop := (∃ b, e = .returned (.bool b)) ∧ w = w'

set_option maxHeartbeats 400000 in
theorem bytes_any (a : Option Addr) (n c : Nat) (A : Nat → Option Addr) (L C : Nat → Nat) (w : World) (hr : Rd w a n (S A L C)) (hn : n ≤ 9223372036854775807) (hL : ∀ r, r < n → L r ≤ 9223372036854775807) :
    Calls Try.prog 22 #[.slice a n c] w (BPost w) := by
  have HL : Hid (∀ r, r < n → L r ≤ 9223372036854775807) := hL
  clear hL
  by_cases hn2 : 1048576 < n
  · go_enter Try.func22, Try.ntmps22
    go_wp2
    go_ret
    exact ⟨⟨_, rfl⟩, rfl⟩
  · go_enter Try.func22, Try.ntmps22
    go_wp2
    go_loop [3, 4] (fun z i => ∃ (k : Nat) (t : Nat), k ≤ n ∧ t ≤ 1048576 ∧ i = .int .i64 k ∧ z = .int .i64 t) (fun _ i => n - (intOf i).toNat)
    case atStart => exact ⟨0, n, Nat.zero_le _, by omega, rfl, rfl⟩
    case round =>
      obtain ⟨k, t, hk, ht, rfl, rfl⟩ := hrel
      by_cases hlt : k < n
      · obtain ⟨b, off, hx, hb, hc⟩ := hr k hlt
        cases hx
        have hLk := HL.out k hlt
        simp only [S] at hc
        generalize L k = l at hc hLk
        by_cases h1 : 1048576 < l
        · go_wp2
          go_ret
          exact ⟨⟨_, rfl⟩, rfl⟩
        · by_cases h2 : 1048576 < t + l
          · go_wp2
            go_ret
            exact ⟨⟨_, rfl⟩, rfl⟩
          · go_wp2
            go_round
            case rel => exact ⟨k + 1, t + l, by omega, by omega, by go_num, by go_num⟩
            case measure => simp [intOf]; omega
      · go_wp2
        go_ret
        exact ⟨⟨_, rfl⟩, rfl⟩

def FPost (n : Nat) (L : Nat → Nat) (w : World) (e : Ending) (w' : World) : Prop := ∃ b, e = .returned (.bool b) ∧ (b = true → n ≤ 4096 ∧ tot L n + 3 * n ≤ 131072) ∧ w = w'

set_option maxRecDepth 100000 in
set_option maxHeartbeats 400000 in
theorem fits_any (a : Option Addr) (n c : Nat) (A : Nat → Option Addr) (L C : Nat → Nat) (w : World) (hr : Rd w a n (S A L C)) (hn : n ≤ 9223372036854775807) (hL : ∀ r, r < n → L r ≤ 9223372036854775807) :
    Calls Try.prog 18 #[.slice a n c] w (FPost n L w) := by
  have HL : Hid (∀ r, r < n → L r ≤ 9223372036854775807) := hL
  clear hL
  by_cases hn2 : 4096 < n
  · go_enter Try.func18, Try.ntmps18
    go_wp2
    go_ret
    exact ⟨_, rfl, fun h => absurd h Bool.false_ne_true, rfl⟩
  · go_enter Try.func18, Try.ntmps18
    go_wp2
    go_loop [3, 4] (fun z i => ∃ (k : Nat) (t : Int), k ≤ n ∧ 0 ≤ t ∧ t ≤ 131072 ∧ i = .int .i64 k ∧ z = .int .i64 t ∧ Hid (t = ((tot L k + 3 * k : Nat) : Int))) (fun _ i => n - (intOf i).toNat)
    case atStart => exact ⟨0, 0, Nat.zero_le _, by omega, by omega, rfl, rfl, rfl⟩
    case round =>
      obtain ⟨k, t, hk, ht0, ht, rfl, rfl, HT⟩ := hrel
      by_cases hlt : k < n
      · obtain ⟨b, off, hx, hb, hc⟩ := hr k hlt
        cases hx
        have hLk := HL.out k hlt
        have HN : Hid (tot L (k + 1) = tot L k + L k) := rfl
        simp only [S] at hc
        generalize L k = l at hc hLk HN
        by_cases h1 : 131072 < l
        · go_wp2
          go_ret
          exact ⟨_, rfl, fun h => absurd h Bool.false_ne_true, rfl⟩
        · by_cases h2 : 131072 < t + ((l : Int) + 3)
          · go_wp2
            go_ret
            exact ⟨_, rfl, fun h => absurd h Bool.false_ne_true, rfl⟩
          · go_wp2
            go_round
            case rel => exact ⟨k + 1, t + ((l : Int) + 3), by omega, by omega, by omega, by go_num, rfl, by have := HN.out; have := HT.out; show _ = _; omega⟩
            case measure => simp [intOf]; omega
      · have hke : k = n := by omega
        subst hke
        go_wp2
        go_ret
        exact ⟨_, rfl, fun _ => ⟨by omega, by have := HT.out; omega⟩, rfl⟩

def CPost (len : Nat) (f : Nat → Int) (w : World) (e : Ending) (w' : World) : Prop :=
  ∃ a' c', e = .returned (.slice a' len c') ∧ (a' = none → c' = 0) ∧ Rd w' a' len (U f) ∧ Below w.heap.size w w' ∧ (∀ y, a' = some y → w.heap.size ≤ y.block ∧ y.block < w'.heap.size)

set_option maxHeartbeats 400000 in
theorem clone_any (a : Option Addr) (len cap : Nat) (f : Nat → Int) (w : World) (hr : Rd w a len (U f)) (hl : len ≤ 131072) :
    Calls Try.prog 12 #[.slice a len cap] w (CPost len f w) := by
  obtain ⟨i3, hi, hz0, hz1, hz2⟩ := info_parts info27
  have heq : ∀ (w : World) (a : Option Addr) (n c n' c' : Nat), (binOp .eql 22 (.slice a n c) (.slice none n' c')).run Try.prog w = .ok (.bool a.isNone) w := fun w a n c n' c' => Lib.run_eql_slice_nil w _ _ a n c n' c' Try.underlying22
  cases a with
  | none =>
    have h0 : len = 0 := by
      rcases Nat.eq_zero_or_pos len with h | h
      · exact h
      · obtain ⟨b, off, h', _⟩ := hr 0 h; cases h'
    subst h0
    go_enter Try.func12, Try.ntmps12
    go_wp2
    go_ret
    exact ⟨none, 0, rfl, fun _ => rfl, fun i hi => by omega, Below.refl _ _, fun y h => (by cases h)⟩
  | some x =>
    go_enter Try.func12, Try.ntmps12
    go_wp2_with (at_make; refine wpList_make_full _ rfl _ _ 22 rfl w.heap.size 27 i3 (.int .u64 0) 1 Try.underlying22 hi hz0 hz1 _ _ _ _ len rfl rfl rfl rfl (by rw [hz2]; omega) (by unfold maxLen; omega) (Nat.le_refl _) ?_)
    intro w1 hown hgrow
    have hH := made_heap hown
    have hB : Below w.heap.size w w1 := (Below.refl _ _).grown hgrow (Nat.le_refl _) (by intro k hk; cases hk)
    have hr1 := hr.below hB (Nat.le_refl _)
    clear hown hgrow
    obtain ⟨w2, hcp, hM, hB2⟩ := copy_made (P := Try.prog) (cap := cap) Try.underlying22 size27 hH (Nat.le_refl len) hr1 (fun _ => rfl) hB (Nat.le_refl _)
    clear hH hr1 hB
    go_wp2
    go_ret
    exact ⟨_, _, rfl, fun h => (by cases h), hM.rd.congr (fun j hj => by simp [hj]), hB2, fun y h => (by cases h; exact ⟨Nat.le_refl _, hM.1⟩)⟩

def GPost (n : Nat) (L : Nat → Nat) (F : Nat → Nat → Int) (w : World) (e : Ending) (w' : World) : Prop :=
  ∃ a' c' A C, e = .returned (.slice a' n c') ∧ Grid w' a' n A L C F ∧ (∀ r, r < n → ∀ y, A r = some y → y.block < w'.heap.size) ∧ Below w.heap.size w w'

set_option maxHeartbeats 800000 in
theorem clones_any (a : Option Addr) (n cap : Nat) (A : Nat → Option Addr) (L C : Nat → Nat) (F : Nat → Nat → Int) (w : World) (hr : Grid w a n A L C F) (hl : n ≤ 4096) (hL : ∀ r, r < n → L r ≤ 131072) :
    Calls Try.prog 19 #[.slice a n cap] w (GPost n L F w) := by
  have HL : Hid (∀ r, r < n → L r ≤ 131072) := hL
  clear hL
  obtain ⟨i3, hi, hz0, hz1, hz2⟩ := info_parts info22
  have heq : ∀ (w : World) (a : Option Addr) (n c n' c' : Nat), (binOp .eql 31 (.slice a n c) (.slice none n' c')).run Try.prog w = .ok (.bool a.isNone) w := fun w a n c n' c' => Lib.run_eql_slice_nil w _ _ a n c n' c' Try.underlying31
  cases a with
  | none =>
    have h0 : n = 0 := by
      rcases Nat.eq_zero_or_pos n with h | h
      · exact h
      · obtain ⟨b, off, h', _⟩ := hr.1 0 h; cases h'
    subst h0
    go_enter Try.func19, Try.ntmps19
    go_wp2
    go_ret
    exact ⟨none, 0, A, C, rfl, ⟨fun i hi => by omega, fun i hi => by omega⟩, fun i hi => by omega, Below.refl _ _⟩
  | some x =>
    go_enter Try.func19, Try.ntmps19
    go_wp2_with (at_make; refine wpList_make_full _ rfl _ _ 31 rfl w.heap.size 22 i3 (.slice none 0 0) 1 Try.underlying31 hi hz0 hz1 _ _ _ _ n rfl rfl rfl rfl (by rw [hz2]; omega) (by unfold maxLen; omega) (Nat.le_refl _) ?_)
    intro w1 hown hgrow
    have hM := made hown
    have hB : Below w.heap.size w w1 := (Below.refl _ _).grown hgrow (Nat.le_refl _) (by intro k hk; cases hk)
    clear hown hgrow
    go_wp2
    go_loopw [4] (fun i wr => ∃ (k : Nat) (A' : Nat → Option Addr) (C' : Nat → Nat), k ≤ n ∧ i = .int .i64 k ∧ Mine wr w.heap.size n (fun j => if j < k then S A' L C' j else .slice none 0 0) ∧ (∀ r, r < k → (A' r = none → C' r = 0) ∧ Rd wr (A' r) (L r) (U (F r)) ∧ (∀ y, A' r = some y → y.block ≠ w.heap.size ∧ y.block < wr.heap.size)) ∧ Below w.heap.size w wr) (fun i _ => n - (intOf i).toNat)
    case atStart => exact ⟨0, fun _ => none, fun _ => 0, Nat.zero_le _, rfl, hM.congr (fun j _ => by simp), fun r hr => absurd hr (Nat.not_lt_zero _), hB⟩
    case round =>
      obtain ⟨k, A', C', hk, rfl, hMr, hRr, hBr⟩ := hrel
      clear hM hB
      by_cases hlt : k < n
      · obtain ⟨b, off, hx, hb, hc⟩ := (hr.below hBr (Nat.le_refl _)).1 k hlt
        cases hx
        have hRk := ((hr.below hBr (Nat.le_refl _)).2 k hlt).2
        have hLk := HL.out k hlt
        simp only [S] at hc
        have HR : Hid (∀ r, r < k → (A' r = none → C' r = 0) ∧ Rd wr (A' r) (L r) (U (F r)) ∧ (∀ y, A' r = some y → y.block ≠ w.heap.size ∧ y.block < wr.heap.size)) := hRr
        clear hRr
        go_wp2_with fail
        refine (clone_any _ _ _ (F k) _ hRk hLk).mono ?_
        rintro e w2 ⟨a2, c2, rfl, hn2, hr2, hb2, hbl⟩
        have hM2 := hMr.below hb2 hMr.1
        have hs2 := hMr.1
        obtain ⟨hd, hf⟩ := hM2.2 k hlt
        simp only [Nat.lt_irrefl, if_false] at hd
        have hS2 := hM2.store k hlt (.slice a2 (L k) c2)
        have hBs := (hBr.trans (hb2.mono (by omega))).setCell (p := ⟨w.heap.size, k, none⟩) (Nat.le_refl _) (.slice a2 (L k) c2)
        have hrs : Rd (w2.setCell ⟨w.heap.size, k, none⟩ (.slice a2 (L k) c2)) a2 (L k) (U (F k)) := hr2.other ⟨w.heap.size, k, none⟩ (fun y hy => by have := (hbl y hy).1; simp; omega) _
        have HRs : Hid (∀ r, r < k → (A' r = none → C' r = 0) ∧ Rd (w2.setCell ⟨w.heap.size, k, none⟩ (.slice a2 (L k) c2)) (A' r) (L r) (U (F r)) ∧ (∀ y, A' r = some y → y.block ≠ w.heap.size ∧ y.block < (w2.setCell ⟨w.heap.size, k, none⟩ (.slice a2 (L k) c2)).heap.size)) :=
          fun r hr => ⟨(HR.out r hr).1, ((HR.out r hr).2.1.below hb2 (Nat.le_refl _)).other ⟨w.heap.size, k, none⟩ (fun y hy => ((HR.out r hr).2.2 y hy).1) _, fun y hy => ⟨((HR.out r hr).2.2 y hy).1, by have := ((HR.out r hr).2.2 y hy).2; have := hb2.size; simp; omega⟩⟩
        have Hn2 : Hid (a2 = none → c2 = 0) := hn2
        have Hbl : Hid (∀ y, a2 = some y → wr.heap.size ≤ y.block ∧ y.block < w2.heap.size) := hbl
        clear hMr hM2 hBr HR hr2 hn2 hbl hb2 hRk
        go_wp2
        go_roundw
        case rel =>
          refine ⟨k + 1, fun j => if j = k then a2 else A' j, fun j => if j = k then c2 else C' j, by omega, by go_num, hS2.congr (fun j hj => ?_), fun r hr => ?_, hBs⟩
          · by_cases e : j = k
            · subst e; simp [S]
            · by_cases e2 : j < k
              · simp [S, e, e2, show j < k + 1 by omega]
              · simp [e, e2, show ¬ j < k + 1 by omega]
          · by_cases e : r = k
            · subst e
              simp only [if_true]
              exact ⟨Hn2.out, hrs, fun y hy => ⟨by have := Hbl.out y hy; omega, by have := Hbl.out y hy; simp; omega⟩⟩
            · simp only [if_neg e]
              exact HRs.out r (by omega)
        case measure => simp [intOf]; omega
      · have hke : k = n := by omega
        subst hke
        go_wp2
        go_ret
        exact ⟨_, _, A', C', rfl, ⟨hMr.rd.congr (fun j hj => by simp [hj]), fun r hr => ⟨(hRr r hr).1, (hRr r hr).2.1⟩⟩, fun r hr y hy => ((hRr r hr).2.2 y hy).2, hBr⟩
end Go.Proofs.Qxb6002656a.Ar
