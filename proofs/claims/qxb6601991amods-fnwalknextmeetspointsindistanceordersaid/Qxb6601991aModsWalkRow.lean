/-
  'Rows.FnWalkNextMeetsPointsInDistanceOrderSaid': the row.
-/
import Derived.Test.Qxb6601991aModsWalk13
namespace Go.Proofs.Qxb6601991aMods
open Go.ChangeShapes Go.WideShapes Go.ChangeAt Go.RowKit Go.Deep
set_option linter.unusedVariables false

theorem open_ints {H : Type} {enc : TypeId × Value → H} {w : World} {fuel : Nat} {a : Option Addr} {n c : Nat} {x : DataW H × List MemPlace} (h : DataW.trod enc Trym.prog w 0 (fun _ => true) true fuel 74 [.slice a n c] = some x) :
    ∃ L : List Int, Row w a n 1 (L.flatMap intF) := by
  rcases open_slice Trym.underlying74 h with ⟨hcs, _⟩ | ⟨ad, len, cap, m, k, D, Pl, hcs, _, hl, hm, hmm, _, hel⟩
  · simp at hcs
    obtain ⟨rfl, rfl, rfl⟩ := hcs
    exact ⟨[], ⟨rfl, fun h => absurd h (by omega)⟩⟩
  · simp at hcs
    obtain ⟨rfl, rfl, rfl⟩ := hcs
    simp only [if_true] at hmm
    obtain ⟨L, _, hg, hr⟩ := row_of_elems intF 1 (by omega) (fun _ => True) w ad n (fun _ => rfl) (fun i hi => by
      obtain ⟨cs', h1, h2⟩ := hel i (by omega)
      rw [cells3] at h1
      obtain ⟨s, e0, _, _⟩ := DataW.trod_int Trym.underlying3 h2
      exact ⟨s, trivial, by rw [h1, e0]; rfl⟩)
    exact ⟨L, hr⟩

theorem open_u64s {H : Type} {enc : TypeId × Value → H} {w : World} {fuel : Nat} {a : Option Addr} {n c : Nat} {x : DataW H × List MemPlace} (h : DataW.trod enc Trym.prog w 0 (fun _ => true) true fuel 75 [.slice a n c] = some x) :
    ∃ L : List Int, Row w a n 1 (L.flatMap u64F) ∧ ∀ x ∈ L, 0 ≤ x ∧ x ≤ 18446744073709551615 := by
  rcases open_slice Trym.underlying75 h with ⟨hcs, _⟩ | ⟨ad, len, cap, m, k, D, Pl, hcs, _, hl, hm, hmm, _, hel⟩
  · simp at hcs
    obtain ⟨rfl, rfl, rfl⟩ := hcs
    exact ⟨[], ⟨rfl, fun h => absurd h (by omega)⟩, fun x hx => by simp at hx⟩
  · simp at hcs
    obtain ⟨rfl, rfl, rfl⟩ := hcs
    simp only [if_true] at hmm
    obtain ⟨L, _, hg, hr⟩ := row_of_elems u64F 1 (by omega) (fun x => 0 ≤ x ∧ x ≤ 18446744073709551615) w ad n (fun _ => rfl) (fun i hi => by
      obtain ⟨cs', h1, h2⟩ := hel i (by omega)
      rw [cells34] at h1
      obtain ⟨s, e0, _, ws⟩ := DataW.trod_int Trym.underlying34 h2
      exact ⟨s, wf_u64 ws, by rw [h1, e0]; rfl⟩)
    exact ⟨L, hr, hg⟩

theorem wn_own : ownKnob Trym.prog.godebug = none := by kernel_rfl
theorem wn_laidOut : laidOutB Trym.prog = true := by kernel_rfl

set_option maxHeartbeats 1000000 in
set_option maxRecDepth 100000 in
theorem wn_lifted (os : Os) (started : os.Started) (H : Type) (enc : TypeId × Value → H) :
    ReturnsInHanded {} Trym.checked os 7 .any (Rows.fnWalkNextMeetsPointsInDistanceOrderSpec.pre6 enc Trym.prog Trym.f7 Rows.fnWalkNextMeetsPointsInDistanceOrderRow.domain false) (Rows.fnWalkNextMeetsPointsInDistanceOrderSpec.post enc Trym.prog Trym.f7 false true false false) := by
  refine returnsInHanded_of_change (C := Trym.checked) wn_own started (by kernel_rfl) Trym.func7
    (ChangeSpec.witness6 (enc := enc) (C := Trym.checked) false ⟨#[], #[.slice none 0 0, .slice none 0 0, .slice none 0 0, .slice none 0 0], []⟩ 8 (by kernel_rfl) (by kernel_rfl) (by kernel_rfl) (by kernel_rfl)) ?_
  intro W base args ds gs before hval0 hW hcnd _
  have hval : ∀ (j : Nat) t v, Trym.f7.params[j]? = some t → args[j]? = some v → Value.okWide Trym.prog W .any base t v := hval0
  have hW' := hW
  obtain ⟨p, q, hA0, hV, rfl, hfz, hnd⟩ := hW
  have hA : DataW.TrodAll enc Trym.prog W 0 (fun _ => true) true Trym.f7.params.toList args.toList ds p := hA0
  rw [Trym.params7] at hA hval
  obtain ⟨v0, vs0, d0, ds0, p0, q0, hargs, rfl, rfl, h0, r0⟩ := trodAll_cons hA
  obtain ⟨v1, vs1, d1, ds1, p1, q1, rfl, rfl, rfl, h1, r1⟩ := trodAll_cons r0
  obtain ⟨v2, vs2, d2, ds2, p2, q2, rfl, rfl, rfl, h2, r2⟩ := trodAll_cons r1
  obtain ⟨v3, vs3, d3, ds3, p3, q3, rfl, rfl, rfl, h3, r3⟩ := trodAll_cons r2
  obtain ⟨rfl, rfl, rfl⟩ := trodAll_nil r3
  obtain rfl : args = #[v0, v1, v2, v3] := by cases args; simp_all
  obtain ⟨rfl, rfl⟩ := trodVars_none hV
  obtain ⟨a0, n0, c0, rfl⟩ := okWide_slice Trym.underlying22 (hval 0 22 v0 rfl rfl)
  obtain ⟨a1, n1, c1, rfl⟩ := okWide_slice Trym.underlying47 (hval 1 47 v1 rfl rfl)
  obtain ⟨a2, n2, c2, rfl⟩ := okWide_slice Trym.underlying74 (hval 2 74 v2 rfl rfl)
  obtain ⟨a3, n3, c3, rfl⟩ := okWide_slice Trym.underlying75 (hval 3 75 v3 rfl rfl)
  have k0 := h0
  have k1 := h1
  have k2 := h2
  have k3 := h3
  have lt0 : ∀ x ∈ p0, x.block < W.heap.size := by obtain ⟨m, hm⟩ := k0; exact DataW.trod_lt m _ _ _ hm
  have lt1 : ∀ x ∈ p1, x.block < W.heap.size := by obtain ⟨m, hm⟩ := k1; exact DataW.trod_lt m _ _ _ hm
  have lt2 : ∀ x ∈ p2, x.block < W.heap.size := by obtain ⟨m, hm⟩ := k2; exact DataW.trod_lt m _ _ _ hm
  have lt3 : ∀ x ∈ p3, x.block < W.heap.size := by obtain ⟨m, hm⟩ := k3; exact DataW.trod_lt m _ _ _ hm
  obtain ⟨L0, g0, hwf⟩ : ∃ L : List (Int × Int), Row W a0 n0 2 (ptCells L) ∧ WfPts L := by
    obtain ⟨fuel, hf⟩ := h0
    obtain ⟨L, h, hw, _⟩ := open_pts (by simpa [Value.cells] using hf)
    exact ⟨L, h, hw⟩
  obtain ⟨L1, g1⟩ : ∃ L : List ByteArray, Row W a1 n1 1 (L.flatMap strF) := by
    obtain ⟨fuel, hf⟩ := h1
    obtain ⟨L, h, _⟩ := open_strs (by simpa [Value.cells] using hf)
    exact ⟨L, h⟩
  obtain ⟨L2, g2⟩ : ∃ L : List Int, Row W a2 n2 1 (L.flatMap intF) := by
    obtain ⟨fuel, hf⟩ := h2
    exact open_ints (by simpa [Value.cells] using hf)
  obtain ⟨L3, g3, hQ⟩ : ∃ L : List Int, Row W a3 n3 1 (L.flatMap u64F) ∧ ∀ x ∈ L, 0 ≤ x ∧ x ≤ 18446744073709551615 := by
    obtain ⟨fuel, hf⟩ := h3
    exact open_u64s (by simpa [Value.cells] using hf)
  clear hA0 hval0
  refine (wn_walk a0 a1 a2 a3 n0 n1 n2 n3 c0 c1 c2 c3 L0 L1 L2 L3 W g0 hwf g1 g2 g3 hQ).mono fun e W' ⟨he, bel⟩ => ?_
  subst he
  exact ⟨_, rfl, _, _, _, [], _, [], hW', trodAll_mk1 (shut_bool Trym.underlying4 _), (trodAll_cons_mk (Below.trod wn_laidOut (by kernel_rfl) (of_decide_eq_true (by kernel_rfl)) k0 bel lt0) (trodAll_cons_mk (Below.trod wn_laidOut (by kernel_rfl) (of_decide_eq_true (by kernel_rfl)) k1 bel lt1) (trodAll_cons_mk (Below.trod wn_laidOut (by kernel_rfl) (of_decide_eq_true (by kernel_rfl)) k2 bel lt2) (trodAll_cons_mk (Below.trod wn_laidOut (by kernel_rfl) (of_decide_eq_true (by kernel_rfl)) k3 bel lt3) trodAll_mk0)))), rfl, bel.frame _, fun h => by cases h⟩

theorem wn_over : Rows.fnWalkNextMeetsPointsInDistanceOrderRow.holds Trym.pinned (OpenSpec.ofChange Rows.fnWalkNextMeetsPointsInDistanceOrderSpec) :=
  OpenClaim.holds_of_wide 7 Trym.f7 rfl rfl rfl rfl rfl rfl rfl ⟨rfl, rfl, rfl, rfl, rfl⟩ rfl rfl rfl rfl rfl (by kernel_rfl) Trym.func7 (by kernel_rfl)
    (of_decide_eq_true (by kernel_rfl)) (by unfold Func.isWrapper; first | (rw [if_pos (by decide +kernel)]; kernel_rfl) | (rw [if_neg (by decide +kernel)]; exact ⟨rfl, rfl⟩))
    (fun os started H enc _ => wn_lifted os started H enc)

theorem fnWalkNext_proved : Rows.FnWalkNextMeetsPointsInDistanceOrderSaid := wn_over
end Go.Proofs.Qxb6601991aMods
