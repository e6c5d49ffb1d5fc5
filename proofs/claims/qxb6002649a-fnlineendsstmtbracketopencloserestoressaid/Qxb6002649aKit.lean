/-
  Small laws on worlds for the walks of this seat: rows of cells that a slice reads ('Rd'), rows that the call itself has made ('Mine').
-/
import Derived.Test.Qxb6002649aRows
import Derived.WalkKit
import Derived.ProofKit
import Derived.WalkSpells
namespace Go.Proofs.Qxb6002649a.Line
open Go.RowKit

theorem info4 : (Try.prog.info? 4).map (fun i => (i.zero, i.size, i.bytes)) = some (some (.bool false), 1, 1) := by kernel_rfl

/-- The slice with address 'a' reads, at each index below n, the bool 'f i'. -/
def Rd (w : World) (a : Option Addr) (n : Nat) (f : Nat → Bool) : Prop :=
  ∀ i, i < n → ∃ b off, a = some ⟨b, off, none⟩ ∧ b < w.heap.size ∧ w.cell? ⟨b, off + i, none⟩ = some (.bool (f i))

/-- Block g holds n cells 'F j', none frozen. -/
def Mine (w : World) (g n : Nat) (F : Nat → Value) : Prop :=
  g < w.heap.size ∧ ∀ j, j < n → w.cell? ⟨g, j, none⟩ = some (F j) ∧ w.frozen? ⟨g, j, none⟩ = false

theorem Rd.below {w w' : World} {a : Option Addr} {n : Nat} {f : Nat → Bool} (h : Rd w a n f) (hb : Below w.heap.size w w') : Rd w' a n f := by
  intro i hi
  obtain ⟨b, off, rfl, hlt, hc⟩ := h i hi
  exact ⟨b, off, rfl, Nat.lt_of_lt_of_le hlt hb.size, by rw [hb.cell (p := ⟨b, off + i, none⟩) hlt]; exact hc⟩

theorem bt {a b c : World} (h : Below a.heap.size a b) (k : Below b.heap.size b c) : Below a.heap.size a c := h.trans (k.mono h.size)

theorem Mine.congr {w : World} {g n : Nat} {F G : Nat → Value} (h : Mine w g n F) (e : ∀ j, j < n → F j = G j) : Mine w g n G :=
  ⟨h.1, fun j hj => by rw [← e j hj]; exact h.2 j hj⟩

theorem Mine.below {w w' : World} {g n : Nat} {F : Nat → Value} (h : Mine w g n F) (hb : Below w.heap.size w w') : Mine w' g n F :=
  ⟨Nat.lt_of_lt_of_le h.1 hb.size, fun j hj => by
    rw [hb.cell (p := ⟨g, j, none⟩) h.1, hb.frozen (p := ⟨g, j, none⟩) h.1]
    exact h.2 j hj⟩

theorem Mine.store {w : World} {g n : Nat} {F : Nat → Value} (h : Mine w g n F) (k : Nat) (hk : k < n) (v : Value) :
    Mine (w.setCell ⟨g, k, none⟩ v) g n (fun j => if j = k then v else F j) := by
  refine ⟨by simpa [World.setCell] using h.1, fun j hj => ⟨?_, ?_⟩⟩
  · by_cases e : j = k
    · subst e
      simp only [if_true]
      exact World.cell?_setCell_same' _ _ _ (by rw [(h.2 j hj).1]; rfl)
    · simp only [if_neg e]
      rw [World.cell?_setCell_other]
      · exact (h.2 j hj).1
      · intro h'
        exact e (by simpa using h'.symm)
  · rw [World.frozen?_setCell]
    exact (h.2 j hj).2

theorem Mine.rd {w : World} {g n : Nat} {f : Nat → Bool} {F : Nat → Value} (h : Mine w g n F) (e : ∀ j, j < n → F j = .bool (f j)) : Rd w (some ⟨g, 0, none⟩) n f :=
  fun i hi => ⟨g, 0, rfl, h.1, by rw [Nat.zero_add, ← e i hi]; exact (h.2 i hi).1⟩

theorem made {w w' : World} {base n : Nat} {e : TypeId} {z : Value} (h : w'.ownsRow base e 1 (.slice (some ⟨w.heap.size, 0, none⟩) n n) n (madeCells #[z] n).toList)
    : Mine w' w.heap.size n (fun _ => z) := by
  have hc : ∀ j, j < n → w'.cell? ⟨w.heap.size, j, none⟩ = some z := fun j hj => by
    rw [h.cellAt j (by omega)]
    simp [madeCells, hj, Nat.mod_one]
  refine ⟨?_, fun j hj => ⟨hc j hj, h.frozenAt j⟩⟩
  rcases h.2 with ⟨h', _⟩ | ⟨g', cap', cur, h', _, hh, _⟩
  · simp at h'
  · simp only [Value.slice.injEq, Option.some.injEq, Addr.mk.injEq, and_true, true_and] at h'
    obtain ⟨rfl, rfl⟩ := h'
    exact (Array.getElem?_eq_some_iff.1 hh).1
end Go.Proofs.Qxb6002649a.Line
