/-
  The proof of 'Rows.FnArenaPacksInOrderSaid'. The frame is the kit's own way at a slice of slices of words.
-/
import Derived.Test.Qxb6002656aArF
import Derived.OpenShut
import Derived.ShutString
import Derived.ChangeOld
import Derived.Below
import Derived.Deep.Matrix
namespace Go.Proofs.Qxb6002656a.fnArenaPacksInOrder
open Go.ChangeShapes Go.WideShapes Go.ChangeAt Go.RowKit En Ar
set_option linter.unusedVariables false

theorem own : ownKnob Try.prog.godebug = none := by kernel_rfl
theorem laidOut : laidOutB Try.prog = true := by kernel_rfl
theorem cells22 : Try.prog.cellsOf 22 = 1 := by kernel_rfl
theorem cells27 : Try.prog.cellsOf 27 = 1 := by kernel_rfl

theorem lt_of_cell {w : World} {p : Addr} {v : Value} (h : w.cell? p = some v) : p.block < w.heap.size := by
  rcases Nat.lt_or_ge p.block w.heap.size with h' | h'
  · exact h'
  · have : w.heap[p.block]? = none := by simpa using h'
    simp [World.cell?, this] at h

/-- From cells at an address to what the walk is told. -/
theorem rd_of_cells {w : World} {x : Addr} {n m : Nat} {F : Nat → Value} (hn : n ≤ m) (h : ∀ i, i < m → w.cell? (x.add i) = some (F i)) : Rd w (some x) n F := by
  intro i hi
  obtain ⟨b, off, spot⟩ := x
  have h0 := h i (by omega)
  have hs : spot = none := by simpa [Addr.add] using World.cell?_spot (h 0 (by omega))
  subst hs
  rw [Addr.add_lit] at h0
  exact ⟨b, off, rfl, lt_of_cell h0, h0⟩

/-- What the walk is told of a slice of slices of words that came in. -/
theorem grid_of_trod {H : Type} {enc : TypeId × Value → H} {W : World} {a : Option Addr} {len cap : Nat} {d : DataW H} {p : List MemPlace}
    (h : DataW.Trod enc Try.prog W 0 (fun _ => true) true 31 (.slice a len cap) d p) :
    ∃ A L C F, Grid W a len A L C F ∧ len ≤ 9223372036854775807 ∧ ∀ r, r < len → L r ≤ 9223372036854775807 := by
  obtain ⟨fuel, hf⟩ := h
  rcases Deep.open_int_rows Try.underlying31 Try.underlying22 Try.underlying27 cells22 cells27 hf with ⟨hcs, _⟩ | ⟨x, l, c, A, L, C, Z, hcs, _, hl, hm, _, hx⟩
  · simp [Value.cells] at hcs
    obtain ⟨rfl, rfl, rfl⟩ := hcs
    exact ⟨fun _ => none, fun _ => 0, fun _ => 0, fun _ _ => 0, ⟨fun i hi => absurd hi (Nat.not_lt_zero _), fun i hi => absurd hi (Nat.not_lt_zero _)⟩, by omega, fun i hi => absurd hi (Nat.not_lt_zero _)⟩
  · simp [Value.cells] at hcs
    obtain ⟨rfl, rfl, rfl⟩ := hcs
    unfold maxLen at hm
    refine ⟨A, L, C, fun r c => (Z r).getD c 0, ⟨rd_of_cells hl (fun i hi => (hx i hi).1), fun r hr => ?_⟩, by omega, fun r hr => ?_⟩
    · obtain ⟨_, e1, e2, _, _, e3, e4⟩ := hx r (by omega)
      refine ⟨e3, ?_⟩
      cases hA : A r with
      | none =>
        have := e3 hA
        intro i hi
        omega
      | some y => exact rd_of_cells e1 (fun i hi => (e4 y hA).2 i hi)
    · obtain ⟨_, e1, e2, _⟩ := hx r (by omega)
      unfold maxLen at e2
      omega

set_option maxRecDepth 100000 in
theorem lifted (os : Os) (started : os.Started) (H : Type) (enc : TypeId × Value → H) :
    ReturnsInHanded {} Try.checked os 7 .any (Rows.fnArenaPacksInOrderSpec.pre6 enc Try.prog Try.f7 Rows.fnArenaPacksInOrderRow.domain false) (Rows.fnArenaPacksInOrderSpec.post enc Try.prog Try.f7 false true false false) := by
  refine returnsInHanded_of_change (C := Try.checked) own started (by kernel_rfl) Try.func7
    (ChangeSpec.witness6 (enc := enc) (C := Try.checked) false ⟨#[], #[.slice none 0 0], []⟩ 8 (by kernel_rfl) (by kernel_rfl) (by kernel_rfl) (by kernel_rfl)) ?_
  intro W base args ds gs before hval0 hW hcnd _
  have hval : ∀ (j : Nat) t v, Try.f7.params[j]? = some t → args[j]? = some v → Value.okWide Try.prog W .any base t v := hval0
  have hW' := hW
  obtain ⟨p, q, hA0, hV, rfl, hfz, hnd⟩ := hW
  have hA : DataW.TrodAll enc Try.prog W 0 (fun _ => true) true Try.f7.params.toList args.toList ds p := hA0
  rw [Try.params7] at hA hval
  obtain ⟨v0, vs0, d0, ds0, p0, q0, hargs, rfl, rfl, h0, r0⟩ := trodAll_cons hA
  obtain ⟨rfl, rfl, rfl⟩ := trodAll_nil r0
  obtain rfl : args = #[v0] := by cases args; simp_all
  obtain ⟨rfl, rfl⟩ := trodVars_none hV
  obtain ⟨a0, len0, cap0, rfl⟩ := okWide_slice Try.underlying31 (hval 0 31 v0 rfl rfl)
  have k0 := h0
  have lt0 : ∀ x ∈ p0, x.block < W.heap.size := by obtain ⟨m, hm⟩ := k0; exact DataW.trod_lt m _ _ _ hm
  obtain ⟨A, L, C, F, w0, w1, w2⟩ := grid_of_trod h0
  clear hA0 hval0
  refine (law_any a0 len0 cap0 A L C F W w0 w1 w2).mono fun e W' ⟨he, bel⟩ => ?_
  subst he
  exact ⟨_, rfl, _, _, _, [], _, [], hW', trodAll_mk1 (shut_bool Try.underlying4 _), (trodAll_cons_mk (Below.trod laidOut (by kernel_rfl) (of_decide_eq_true (by kernel_rfl)) k0 bel lt0) trodAll_mk0), rfl, bel.frame _, fun h => by cases h⟩

theorem over : Rows.fnArenaPacksInOrderRow.holds Try.pinned (OpenSpec.ofChange Rows.fnArenaPacksInOrderSpec) :=
  OpenClaim.holds_of_wide 7 Try.f7 rfl rfl rfl rfl rfl rfl rfl ⟨rfl, rfl, rfl, rfl, rfl⟩ rfl rfl rfl rfl rfl (by kernel_rfl) Try.func7 (by kernel_rfl)
    (of_decide_eq_true (by kernel_rfl)) (by unfold Func.isWrapper; first | (rw [if_pos (by decide +kernel)]; kernel_rfl) | (rw [if_neg (by decide +kernel)]; exact ⟨rfl, rfl⟩))
    (fun os started H enc _ => lifted os started H enc)

theorem proved : Rows.FnArenaPacksInOrderSaid := over
#print axioms proved
end Go.Proofs.Qxb6002656a.fnArenaPacksInOrder
