/-
  'Rows.FnAppendStayingKeepsStayersInBothBranchesSaid': the row.
-/
import Derived.Test.Qxb6601991aModsStay6
import Derived.Test.Qxb6601991aModsOpen
namespace Go.Proofs.Qxb6601991aMods
open Go.ChangeShapes Go.WideShapes Go.ChangeAt Go.RowKit
set_option linter.unusedVariables false

theorem as_own : ownKnob Trym.prog.godebug = none := by kernel_rfl
theorem as_laidOut : laidOutB Trym.prog = true := by kernel_rfl

set_option maxHeartbeats 1000000 in
set_option maxRecDepth 100000 in
theorem as_lifted (os : Os) (started : os.Started) (H : Type) (enc : TypeId × Value → H) :
    ReturnsInHanded {} Trym.checked os 3 .any (Rows.fnAppendStayingKeepsStayersInBothBranchesSpec.pre6 enc Trym.prog Trym.f3 Rows.fnAppendStayingKeepsStayersInBothBranchesRow.domain false) (Rows.fnAppendStayingKeepsStayersInBothBranchesSpec.post enc Trym.prog Trym.f3 false true false false) := by
  refine returnsInHanded_of_change (C := Trym.checked) as_own started (by kernel_rfl) Trym.func3
    (ChangeSpec.witness6 (enc := enc) (C := Trym.checked) false ⟨#[], #[.slice none 0 0, .slice none 0 0, .slice none 0 0], []⟩ 8 (by kernel_rfl) (by kernel_rfl) (by kernel_rfl) (by kernel_rfl)) ?_
  intro W base args ds gs before hval0 hW hcnd _
  have hval : ∀ (j : Nat) t v, Trym.f3.params[j]? = some t → args[j]? = some v → Value.okWide Trym.prog W .any base t v := hval0
  have hW' := hW
  obtain ⟨p, q, hA0, hV, rfl, hfz, hnd⟩ := hW
  have hA : DataW.TrodAll enc Trym.prog W 0 (fun _ => true) true Trym.f3.params.toList args.toList ds p := hA0
  rw [Trym.params3] at hA hval
  obtain ⟨v0, vs0, d0, ds0, p0, q0, hargs, rfl, rfl, h0, r0⟩ := trodAll_cons hA
  obtain ⟨v1, vs1, d1, ds1, p1, q1, rfl, rfl, rfl, h1, r1⟩ := trodAll_cons r0
  obtain ⟨v2, vs2, d2, ds2, p2, q2, rfl, rfl, rfl, h2, r2⟩ := trodAll_cons r1
  obtain ⟨rfl, rfl, rfl⟩ := trodAll_nil r2
  obtain rfl : args = #[v0, v1, v2] := by cases args; simp_all
  obtain ⟨rfl, rfl⟩ := trodVars_none hV
  obtain ⟨a0, n0, c0, rfl⟩ := okWide_slice Trym.underlying22 (hval 0 22 v0 rfl rfl)
  obtain ⟨a1, n1, c1, rfl⟩ := okWide_slice Trym.underlying22 (hval 1 22 v1 rfl rfl)
  obtain ⟨a2, n2, c2, rfl⟩ := okWide_slice Trym.underlying23 (hval 2 23 v2 rfl rfl)
  have k0 := h0
  have k1 := h1
  have k2 := h2
  have lt0 : ∀ x ∈ p0, x.block < W.heap.size := by obtain ⟨m, hm⟩ := k0; exact DataW.trod_lt m _ _ _ hm
  have lt1 : ∀ x ∈ p1, x.block < W.heap.size := by obtain ⟨m, hm⟩ := k1; exact DataW.trod_lt m _ _ _ hm
  have lt2 : ∀ x ∈ p2, x.block < W.heap.size := by obtain ⟨m, hm⟩ := k2; exact DataW.trod_lt m _ _ _ hm
  obtain ⟨L1, g1, _, _⟩ : ∃ L, Row W a0 n0 2 (ptCells L) ∧ WfPts L ∧ (a0 = none → n0 = 0 ∧ c0 = 0) := by
    obtain ⟨fuel, hf⟩ := h0
    exact open_pts (by simpa [Value.cells] using hf)
  obtain ⟨L2, g2, w2, _⟩ : ∃ L, Row W a1 n1 2 (ptCells L) ∧ WfPts L ∧ (a1 = none → n1 = 0 ∧ c1 = 0) := by
    obtain ⟨fuel, hf⟩ := h1
    exact open_pts (by simpa [Value.cells] using hf)
  obtain ⟨lv, g3, hn3⟩ : ∃ L : List Bool, Row W a2 n2 1 (L.map Value.bool) ∧ (a2 = none → n2 = 0 ∧ c2 = 0) := by
    obtain ⟨fuel, hf⟩ := h2
    exact open_bools (by simpa [Value.cells] using hf)
  clear hA0 hval0
  refine (as_walk a0 a1 a2 n0 n1 n2 c0 c1 c2 L1 L2 lv W g1 g2 g3 hn3 w2).mono fun e W' ⟨he, bel⟩ => ?_
  subst he
  exact ⟨_, rfl, _, _, _, [], _, [], hW', trodAll_mk1 (shut_bool Trym.underlying4 _), (trodAll_cons_mk (Below.trod as_laidOut (by kernel_rfl) (of_decide_eq_true (by kernel_rfl)) k0 bel lt0) (trodAll_cons_mk (Below.trod as_laidOut (by kernel_rfl) (of_decide_eq_true (by kernel_rfl)) k1 bel lt1) (trodAll_cons_mk (Below.trod as_laidOut (by kernel_rfl) (of_decide_eq_true (by kernel_rfl)) k2 bel lt2) trodAll_mk0))), rfl, bel.frame _, fun h => by cases h⟩

theorem as_over : Rows.fnAppendStayingKeepsStayersInBothBranchesRow.holds Trym.pinned (OpenSpec.ofChange Rows.fnAppendStayingKeepsStayersInBothBranchesSpec) :=
  OpenClaim.holds_of_wide 3 Trym.f3 rfl rfl rfl rfl rfl rfl rfl ⟨rfl, rfl, rfl, rfl, rfl⟩ rfl rfl rfl rfl rfl (by kernel_rfl) Trym.func3 (by kernel_rfl)
    (of_decide_eq_true (by kernel_rfl)) (by unfold Func.isWrapper; first | (rw [if_pos (by decide +kernel)]; kernel_rfl) | (rw [if_neg (by decide +kernel)]; exact ⟨rfl, rfl⟩))
    (fun os started H enc _ => as_lifted os started H enc)

theorem fnAppendStaying_proved : Rows.FnAppendStayingKeepsStayersInBothBranchesSaid := as_over
end Go.Proofs.Qxb6601991aMods
