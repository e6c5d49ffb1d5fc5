/-
  Small laws on worlds for the walks of this seat: rows of cells that a slice reads ('Rd'), rows that the call itself has made ('Mine').
-/
import Derived.Test.Qxb6002656aRows
import Derived.WalkKit
import Derived.ProofKit
import Derived.WalkSpells
import Derived.Laws.CopyOwn
import Derived.Deep.QuietTactic
import Derived.BigQuiet
namespace Go.Proofs.Qxb6002656a.En
open Go.RowKit

theorem info3 : (Try.prog.info? 3).map (fun i => (i.zero, i.size, i.bytes)) = some (some (.int .i64 0), 1, 8) := by kernel_rfl
theorem size3 : (Try.prog.info? 3).map (·.size) = some 1 := by kernel_rfl

/-- The slice with address 'a' reads, at each index below n, the value 'F i'. -/
def Rd (w : World) (a : Option Addr) (n : Nat) (F : Nat → Value) : Prop :=
  ∀ i, i < n → ∃ b off, a = some ⟨b, off, none⟩ ∧ b < w.heap.size ∧ w.cell? ⟨b, off + i, none⟩ = some (F i)

/-- Block g holds n cells 'F j', none frozen. -/
def Mine (w : World) (g n : Nat) (F : Nat → Value) : Prop :=
  g < w.heap.size ∧ ∀ j, j < n → w.cell? ⟨g, j, none⟩ = some (F j) ∧ w.frozen? ⟨g, j, none⟩ = false

theorem bt {a b c : World} (h : Below a.heap.size a b) (k : Below b.heap.size b c) : Below a.heap.size a c := h.trans (k.mono h.size)

theorem bdrewN {B : Nat} {a w : World} (h : Below B a w) (k : Nat) : Below B a (w.drewN k) := ⟨h.os, h.tape, h.output, h.size, h.block⟩

theorem Rd.below {B : Nat} {w w' : World} {a : Option Addr} {n : Nat} {F : Nat → Value} (h : Rd w a n F) (hb : Below B w w') (hB : w.heap.size ≤ B) : Rd w' a n F := by
  intro i hi
  obtain ⟨b, off, rfl, hlt, hc⟩ := h i hi
  exact ⟨b, off, rfl, Nat.lt_of_lt_of_le hlt hb.size, by rw [hb.cell (p := ⟨b, off + i, none⟩) (Nat.lt_of_lt_of_le hlt hB)]; exact hc⟩

theorem Rd.congr {w : World} {a : Option Addr} {n : Nat} {F G : Nat → Value} (h : Rd w a n F) (e : ∀ j, j < n → F j = G j) : Rd w a n G :=
  fun i hi => by rw [← e i hi]; exact h i hi

theorem Mine.congr {w : World} {g n : Nat} {F G : Nat → Value} (h : Mine w g n F) (e : ∀ j, j < n → F j = G j) : Mine w g n G :=
  ⟨h.1, fun j hj => by rw [← e j hj]; exact h.2 j hj⟩

theorem Mine.below {B : Nat} {w w' : World} {g n : Nat} {F : Nat → Value} (h : Mine w g n F) (hb : Below B w w') (hB : g < B) : Mine w' g n F :=
  ⟨Nat.lt_of_lt_of_le h.1 hb.size, fun j hj => by
    rw [hb.cell (p := ⟨g, j, none⟩) hB, hb.frozen (p := ⟨g, j, none⟩) hB]
    exact h.2 j hj⟩

theorem Mine.store {w : World} {g n : Nat} {F : Nat → Value} (h : Mine w g n F) (k : Nat) (hk : k < n) (v : Value) :
    Mine (w.setCell ⟨g, k, none⟩ v) g n (fun j => if j = k then v else F j) := by
  refine ⟨by simpa [World.setCell] using h.1, fun j hj => ⟨?_, ?_⟩⟩
  · by_cases e : j = k
    · subst e
      simp only [if_true]
      exact World.cell?_setCell_same' _ _ _ (by rw [(h.2 j hj).1]; rfl)
    · simp only [if_neg e]
      rw [World.cell?_setCell_other]
      · exact (h.2 j hj).1
      · intro h'
        exact e (by simpa using h'.symm)
  · rw [World.frozen?_setCell]
    exact (h.2 j hj).2

theorem Mine.other {w : World} {g n : Nat} {F : Nat → Value} (h : Mine w g n F) (p : Addr) (hp : p.block ≠ g) (v : Value) : Mine (w.setCell p v) g n F := by
  refine ⟨by simpa [World.setCell] using h.1, fun j hj => ⟨?_, ?_⟩⟩
  · rw [World.cell?_setCell_other]
    · exact (h.2 j hj).1
    · intro h'
      exact hp (by rw [h'])
  · rw [World.frozen?_setCell]
    exact (h.2 j hj).2

theorem Rd.other {w : World} {a : Option Addr} {n : Nat} {F : Nat → Value} (h : Rd w a n F) (p : Addr) (hp : ∀ x, a = some x → x.block ≠ p.block) (v : Value) : Rd (w.setCell p v) a n F := by
  intro i hi
  obtain ⟨b, off, rfl, hlt, hc⟩ := h i hi
  refine ⟨b, off, rfl, by simpa [World.setCell] using hlt, ?_⟩
  rw [World.cell?_setCell_other]
  · exact hc
  · intro h'
    exact hp _ rfl (by rw [h'])

theorem Mine.drewN {w : World} {g n : Nat} {F : Nat → Value} (h : Mine w g n F) (k : Nat) : Mine (w.drewN k) g n F := h

theorem Mine.rd {w : World} {g n : Nat} {F : Nat → Value} (h : Mine w g n F) : Rd w (some ⟨g, 0, none⟩) n F :=
  fun i hi => ⟨g, 0, rfl, h.1, by rw [Nat.zero_add]; exact (h.2 i hi).1⟩

theorem mine_of_heap {w : World} {g : Nat} {e : TypeId} {xs : List Value} {F : Nat → Value} {n : Nat} (h : w.heap[g]? = some (.cells xs.toArray e (0, 0))) (hx : ∀ j, j < n → xs[j]? = some (F j)) : Mine w g n F := by
  refine ⟨(Array.getElem?_eq_some_iff.1 h).1, fun j hj => ⟨?_, ?_⟩⟩
  · rw [cell_of_row w g j xs.toArray e (0, 0) h]
    simpa using hx j hj
  · exact frozen_of_row w g j xs.toArray e h

theorem made_heap {w' : World} {base n g : Nat} {e : TypeId} {z : Value} (h : w'.ownsRow base e 1 (.slice (some ⟨g, 0, none⟩) n n) n (madeCells #[z] n).toList) :
    w'.heap[g]? = some (.cells ((List.range n).map fun _ => z).toArray e (0, 0)) := by
  rcases h.2 with ⟨h', _⟩ | ⟨g', cap', cur, h', _, hh, _, _, hsz, htake⟩
  · simp at h'
  · simp only [Value.slice.injEq, Option.some.injEq, Addr.mk.injEq, and_true, true_and] at h'
    obtain ⟨rfl, rfl⟩ := h'
    rw [hh]
    have hl : cur.toList.length = n := by simpa using hsz
    rw [Nat.mul_one, List.take_of_length_le (by omega)] at htake
    have : cur = ((List.range n).map fun _ => z).toArray := by
      rw [← Array.toArray_toList (xs := cur), htake]
      congr 1
      apply List.ext_getElem
      · simp [madeCells]
      · intro i h1 h2
        simp [madeCells, Nat.mod_one]
    rw [this]

theorem made {w' : World} {base n g : Nat} {e : TypeId} {z : Value} (h : w'.ownsRow base e 1 (.slice (some ⟨g, 0, none⟩) n n) n (madeCells #[z] n).toList) : Mine w' g n (fun _ => z) :=
  mine_of_heap (made_heap h) (fun j hj => by simp [hj])

/-- A row of n cells in block g, not frozen; nothing is said where n is 0. -/
def Row (w : World) (g n : Nat) (F : Nat → Value) : Prop :=
  ∀ j, j < n → g < w.heap.size ∧ w.cell? ⟨g, j, none⟩ = some (F j) ∧ w.frozen? ⟨g, j, none⟩ = false

theorem Row.mine {w : World} {g n : Nat} {F : Nat → Value} (h : Row w g n F) (hn : 0 < n) : Mine w g n F := ⟨(h 0 hn).1, fun j hj => (h j hj).2⟩
theorem Mine.row {w : World} {g n : Nat} {F : Nat → Value} (h : Mine w g n F) : Row w g n F := fun j hj => ⟨h.1, h.2 j hj⟩

theorem Row.congr {w : World} {g n : Nat} {F G : Nat → Value} (h : Row w g n F) (e : ∀ j, j < n → F j = G j) : Row w g n G :=
  fun j hj => by rw [← e j hj]; exact h j hj

theorem Row.other {w : World} {g n : Nat} {F : Nat → Value} (h : Row w g n F) (p : Addr) (hp : p.block ≠ g) (v : Value) : Row (w.setCell p v) g n F :=
  fun j hj => ((h.mine (by omega)).other p hp v).row j hj

theorem Row.store {w : World} {g n : Nat} {F : Nat → Value} (h : Row w g n F) (k : Nat) (hk : k < n) (v : Value) : Row (w.setCell ⟨g, k, none⟩ v) g n (fun j => if j = k then v else F j) :=
  ((h.mine (by omega)).store k hk v).row

theorem Row.below {B : Nat} {w w' : World} {g n : Nat} {F : Nat → Value} (h : Row w g n F) (hb : Below B w w') (hB : w.heap.size ≤ B) : Row w' g n F :=
  fun j hj => ((h.mine (by omega)).below hb (Nat.lt_of_lt_of_le (h j hj).1 hB)).row j hj

theorem own_row {w : World} {base n : Nat} {e : TypeId} {v : Value} {xs : List Value} {F : Nat → Value} (h : w.ownsRow base e 1 v n xs) (hx : ∀ j, j < n → xs[j]? = some (F j)) :
    ∃ a c g, v = .slice a n c ∧ base ≤ g ∧ (0 < n → a = some ⟨g, 0, none⟩) ∧ Row w g n F := by
  rcases h.2 with ⟨rfl, rfl⟩ | ⟨g, cap, cur, rfl, hg, hh, _, _, hsz, htake⟩
  · exact ⟨none, 0, base, rfl, Nat.le_refl _, fun h => absurd h (Nat.lt_irrefl _), fun j hj => absurd hj (Nat.not_lt_zero _)⟩
  · refine ⟨_, _, g, rfl, hg, fun _ => rfl, (mine_of_heap (xs := cur.toList) (e := e) (by simpa using hh) (fun j hj => ?_)).row⟩
    rw [← hx j hj, ← htake, List.getElem?_take, if_pos (by omega)]

/-- 'copy(dst, src)', dst a row that has just been made, at least as long as src: an equation for the walk, its world a name. -/
theorem copy_made {P : Program} {w : World} {t e : TypeId} (ht : P.underlying t = some (.slice e)) (hs : (P.info? e).map (·.size) = some 1) {g dl n : Nat} {z : Value}
    (hH : w.heap[g]? = some (.cells ((List.range dl).map fun _ => z).toArray e (0, 0))) (hn : n ≤ dl) {a : Option Addr} {cap : Nat} {F : Nat → Value} (hr : Rd w a n F) (h1 : ∀ i, (F i).oneCell' = true)
    {B : Nat} {w0 : World} (hb : Below B w0 w) (hBg : B ≤ g) :
    ∃ w2, (∀ ty, (Builtin.copy_ #[t, t] ty #[.slice (some ⟨g, 0, none⟩) dl dl, .slice a n cap]).run P w = .ok (goInt n) w2) ∧ Mine w2 g dl (fun j => if j < n then F j else z) ∧ Below B w0 w2 := by
  have hmin : Nat.min n dl = n := Nat.min_eq_left hn
  by_cases h0 : n = 0
  · subst h0
    exact ⟨w, fun ty => run_copy_none w t t ty e _ _ _ _ _ _ ht hs hmin, mine_of_heap hH (fun j hj => by simp [hj]), hb⟩
  · obtain ⟨b, off, rfl, _, _⟩ := hr 0 (by omega)
    have hl : ((List.range n).map F).length = n := by simp
    refine ⟨w.setRow g ((List.range n).map F ++ ((List.range dl).map fun _ => z).drop n).toArray, fun ty => ?_, ?_, below_setRow hb hBg _⟩
    · have := run_copy_row (P := P) w t t ty e g 0 dl dl ⟨b, off, none⟩ n cap ((List.range dl).map fun _ => z).toArray e ((List.range n).map F) ht hs hH (by rw [hl]; exact hmin.symm)
        (fun j v hj => by
          have hjn : j < n := by have := (List.getElem?_eq_some_iff.1 hj).1; simpa using this
          obtain ⟨b', off', he, _, hc⟩ := hr j hjn
          cases he
          rw [Addr.add_lit]
          rw [hc]
          simpa [hjn] using hj) (by simpa using hn) (fun v hv => by obtain ⟨i, _, rfl⟩ := List.mem_map.1 hv; exact h1 i)
      rw [this, hl]
      simp
    · have hh := setRow_heap w g _ ((List.range n).map F ++ ((List.range dl).map fun _ => z).drop n).toArray e _ hH
      refine mine_of_heap hh (fun j hj => ?_)
      by_cases hjn : j < n
      · rw [List.getElem?_append_left (by omega)]
        simp [hjn]
      · rw [List.getElem?_append_right (by omega), hl]
        simp [hjn, List.getElem?_drop, show n + (j - n) = j by omega, hj]
end Go.Proofs.Qxb6002656a.En
