import Derived.Test.Qxb6002649aBracketWalk
import Derived.OpenShut
import Derived.ShutString
import Derived.ChangeOld
import Derived.Below
import Derived.Deep.Grids
namespace Go.Proofs.Qxb6002649a.Bracket
open Go.ChangeShapes Go.WideShapes Go.ChangeAt Go.RowKit Line
set_option linter.unusedVariables false

theorem own : ownKnob Try.prog.godebug = none := by kernel_rfl
theorem laidOut : laidOutB Try.prog = true := by kernel_rfl
theorem cells4 : Try.prog.cellsOf 4 = 1 := by kernel_rfl

/-- What the walk is told of a slice of bools that came in. -/
theorem rd_of_trod {H : Type} {enc : TypeId × Value → H} {W : World} {a : Option Addr} {len cap : Nat} {d : DataW H} {p : List MemPlace}
    (h : DataW.Trod enc Try.prog W 0 (fun _ => true) true 28 (.slice a len cap) d p) :
    ∃ f, Rd W a len f ∧ len ≤ 9223372036854775807 := by
  obtain ⟨fuel, hf⟩ := h
  have hlt := DataW.trod_lt fuel _ _ _ hf
  rcases Deep.open_bools Try.underlying28 Try.underlying4 cells4 hf with ⟨hcs, _⟩ | ⟨x, l, c, B, hcs, _, hl, hm, hx, hcell⟩
  · simp [Value.cells] at hcs
    obtain ⟨rfl, rfl, rfl⟩ := hcs
    exact ⟨fun _ => false, fun i hi => absurd hi (Nat.not_lt_zero _), by omega⟩
  · simp [Value.cells] at hcs
    obtain ⟨rfl, rfl, rfl⟩ := hcs
    refine ⟨B, fun i hi => ?_, by unfold maxLen at hm; omega⟩
    have h0 := hcell i (by omega)
    obtain ⟨b, off, spot⟩ := x
    have hs : spot = none := by simpa [Addr.add] using World.cell?_spot (hcell 0 (by omega))
    subst hs
    refine ⟨b, off, rfl, ?_, by rw [← add_plain]; exact h0⟩
    simp only [Prod.mk.injEq] at hx
    obtain ⟨_, rfl⟩ := hx
    exact hlt (.cell b off) (MemPlace.mem_row.2 ⟨0, by omega, by simp⟩)

theorem walk (a0 : Option Addr) (l0 c0 : Nat) (x y : Bool) (w : World) (w0 : ∃ f, Rd w a0 l0 f ∧ l0 ≤ 9223372036854775807) :
    Calls Try.prog 8 #[.slice a0 l0 c0, .bool x, .bool y] w fun e w' => e = .returned (.bool true) ∧ Below w.heap.size w w' := by
  obtain ⟨f0, hr0, h0⟩ := w0
  by_cases hh : 65536 < l0
  · exact long a0 l0 c0 x y w h0 hh
  · exact short a0 l0 c0 x y w f0 hr0 (by omega)

set_option maxRecDepth 100000 in
theorem lifted (os : Os) (started : os.Started) (H : Type) (enc : TypeId × Value → H) :
    ReturnsInHanded {} Try.checked os 8 .any (Rows.fnLineEndsStmtBracketOpenCloseRestoresSpec.pre6 enc Try.prog Try.f8 Rows.fnLineEndsStmtBracketOpenCloseRestoresRow.domain false) (Rows.fnLineEndsStmtBracketOpenCloseRestoresSpec.post enc Try.prog Try.f8 false true false false) := by
  refine returnsInHanded_of_change (C := Try.checked) own started (by kernel_rfl) Try.func8
    (ChangeSpec.witness6 (enc := enc) (C := Try.checked) false ⟨#[], #[.slice none 0 0, .bool false, .bool false], []⟩ 8 (by kernel_rfl) (by kernel_rfl) (by kernel_rfl) (by kernel_rfl)) ?_
  intro W base args ds gs before hval0 hW hcnd _
  have hval : ∀ (j : Nat) t v, Try.f8.params[j]? = some t → args[j]? = some v → Value.okWide Try.prog W .any base t v := hval0
  have hW' := hW
  obtain ⟨p, q, hA0, hV, rfl, hfz, hnd⟩ := hW
  have hA : DataW.TrodAll enc Try.prog W 0 (fun _ => true) true Try.f8.params.toList args.toList ds p := hA0
  rw [Try.params8] at hA hval
  obtain ⟨v0, vs0, d0, ds0, p0, q0, hargs, rfl, rfl, h0, r0⟩ := trodAll_cons hA
  obtain ⟨v1, vs1, d1, ds1, p1, q1, rfl, rfl, rfl, h1, r1⟩ := trodAll_cons r0
  obtain ⟨v2, vs2, d2, ds2, p2, q2, rfl, rfl, rfl, h2, r2⟩ := trodAll_cons r1
  obtain ⟨rfl, rfl, rfl⟩ := trodAll_nil r2
  obtain rfl : args = #[v0, v1, v2] := by cases args; simp_all
  obtain ⟨rfl, rfl⟩ := trodVars_none hV
  obtain ⟨a0, len0, cap0, rfl⟩ := okWide_slice Try.underlying28 (hval 0 28 v0 rfl rfl)
  have k0 := h0
  have lt0 : ∀ x ∈ p0, x.block < W.heap.size := by obtain ⟨m, hm⟩ := k0; exact DataW.trod_lt m _ _ _ hm
  have w0 := rd_of_trod h0
  obtain ⟨x1, rfl, rfl, rfl⟩ := open_bool Try.underlying4 (hval 1 4 v1 rfl rfl) h1
  obtain ⟨x2, rfl, rfl, rfl⟩ := open_bool Try.underlying4 (hval 2 4 v2 rfl rfl) h2
  clear hA0 hval0
  refine (walk a0 len0 cap0 x1 x2 W w0).mono fun e W' ⟨he, bel⟩ => ?_
  subst he
  exact ⟨_, rfl, _, _, _, [], _, [], hW', trodAll_mk1 (shut_bool Try.underlying4 _), (trodAll_cons_mk (Below.trod laidOut (by kernel_rfl) (of_decide_eq_true (by kernel_rfl)) k0 bel lt0) (trodAll_cons_mk (shut_bool Try.underlying4 x1) (trodAll_cons_mk (shut_bool Try.underlying4 x2) trodAll_mk0))), rfl, bel.frame _, fun h => by cases h⟩

theorem over : Rows.fnLineEndsStmtBracketOpenCloseRestoresRow.holds Try.pinned (OpenSpec.ofChange Rows.fnLineEndsStmtBracketOpenCloseRestoresSpec) :=
  OpenClaim.holds_of_wide 8 Try.f8 rfl rfl rfl rfl rfl rfl rfl ⟨rfl, rfl, rfl, rfl, rfl⟩ rfl rfl rfl rfl rfl (by kernel_rfl) Try.func8 (by kernel_rfl)
    (of_decide_eq_true (by kernel_rfl)) (by unfold Func.isWrapper; first | (rw [if_pos (by decide +kernel)]; kernel_rfl) | (rw [if_neg (by decide +kernel)]; exact ⟨rfl, rfl⟩))
    (fun os started H enc _ => lifted os started H enc)

theorem proved : Rows.FnLineEndsStmtBracketOpenCloseRestoresSaid := over
#print axioms proved
end Go.Proofs.Qxb6002649a.Bracket
